import PyProof.Rows.All
import Wide.All
import OpenK.AllK
import Wide.FinOn
import Lean
import PySem.Challenge.RW_ko0129_06
open PySem PySem.W PyProof.Rows PySem.Calls
set_option Elab.async false
set_option maxRecDepth 100000
namespace Mine
theorem kind_issub_nested : builtinKind "issubclass.nested" = none := by decide +kernel
theorem plain_issub_nested : plainId "issubclass.nested" = true := by decide +kernel
theorem args_issub_nested_3 (a b c : Value) : argsOk "issubclass.nested" ⟨[a, b, c], []⟩ := by unfold argsOk; kernel_rfl
theorem sub_str_str : isSubtype (.type "str") (.type "str") = pure true := by rw [isSubtype_type]; kernel_rfl
theorem sub_bytes_str : isSubtype (.type "bytes") (.type "str") = pure false := by rw [isSubtype_type]; kernel_rfl
theorem sub_bytes_bytes : isSubtype (.type "bytes") (.type "bytes") = pure true := by rw [isSubtype_type]; kernel_rfl
theorem tyty (T : String) (h : typeOf (.type T) = pure (.type "type")) : typeOf (.type T) = pure (.type "type") := h
theorem ty_str : typeOf (.type "str") = pure (.type "type") := rfl
theorem ty_bytes : typeOf (.type "bytes") = pure (.type "type") := rfl

section
variable {prog : Program} {w : World} {A : Around} {E : Value → Shared → Prop}
theorem issub_nested_type {X T : String} {b : Bool} {dep : Int} {tk : Tok} {s : Shared} {Q : Fin → Shared → Prop} (hX : typeOf (.type X) = pure (.type "type")) (hT : typeOf (.type T) = pure (.type "type"))
    (hs : isSubtype (.type X) (.type T) = pure b) (hq : Q (.done (.ret (.bool b))) s) :
    wpAny (model prog w) A (Builtin.«issubclass.nested» ⟨[.type X, .type T, .int dep tk], []⟩) Q E s := by
  repeat (any_goals (first | assumption | (rw [hs]) | wp_step))
theorem issub_meets {X T : String} {b : Bool} {dep : Int} {tk : Tok} (hX : typeOf (.type X) = pure (.type "type")) (hT : typeOf (.type T) = pure (.type "type")) (hs : isSubtype (.type X) (.type T) = pure b) :
    Meets (Builtin.«issubclass.nested» ⟨[.type X, .type T, .int dep tk], []⟩) (fun _ R s => R (.ok (.ret (.bool b))) s) := fun _ _ _ _ _ h => issub_nested_type hX hT hs h

theorem issub_nested_sb {X : String} {b b2 : Bool} {tp : Addr} {n : Nat} {tk : Tok} {s : Shared} {Q : Fin → Shared → Prop} (hX : typeOf (.type X) = pure (.type "type"))
    (htp : s.heap.get? tp = some { cls := .type "tuple", data := .seq #[.type "str", .type "bytes"] n }) (h1 : isSubtype (.type X) (.type "str") = pure b) (h2 : isSubtype (.type X) (.type "bytes") = pure b2) (hb : (b || b2) = true)
    (hq : ∀ tk', Q (.done (.ret (.bool true))) { s with toks := tk' }) : wpAny (model prog w) A (Builtin.«issubclass.nested» ⟨[.type X, .ref tp, .int 0 tk], []⟩) Q E s := by
  obtain ⟨h, g, d, t, os⟩ := s
  have hT2 : (⟨h, g, d, t, os⟩ : Shared).TypeIs (.ref tp) "tuple" := ⟨_, htp, rfl⟩
  have f1 := F.isi_sub_tuple
  have g1 := fun dep tk => issub_meets (dep := dep) (tk := tk) hX ty_str h1
  have g2 := fun dep tk => issub_meets (dep := dep) (tk := tk) hX ty_bytes h2
  have c1 : ∀ (s : Shared) (Q : Value → Shared → Prop) (dep : Int), Q (.bool b) s → wpAny (model prog w) A (call (.builtin "issubclass.nested") [.type X, .type "str", rawInt dep]) Q E s := fun s Q dep hq =>
    call_function_meets kind_issub_nested plain_issub_nested F.entry_issubclass_nested (args_issub_nested_3 _ _ _) (g1 _ _) hq
  have c2 : ∀ (s : Shared) (Q : Value → Shared → Prop) (dep : Int), Q (.bool b2) s → wpAny (model prog w) A (call (.builtin "issubclass.nested") [.type X, .type "bytes", rawInt dep]) Q E s := fun s Q dep hq =>
    call_function_meets kind_issub_nested plain_issub_nested F.entry_issubclass_nested (args_issub_nested_3 _ _ _) (g2 _ _) hq
  cases b with
  | true => repeat (any_goals (first | assumption | exact hq _ | (refine c1 _ _ _ ?_) | wp_step))
  | false =>
    cases b2 with
    | false => cases hb
    | true => repeat (any_goals (first | assumption | exact hq _ | (refine c1 _ _ _ ?_) | (refine c2 _ _ _ ?_) | wp_step))
theorem issub_sb_call {X : String} {b b2 : Bool} {tp : Addr} {n : Nat} {s : Shared} {Q : Value → Shared → Prop} (hX : typeOf (.type X) = pure (.type "type"))
    (htp : s.heap.get? tp = some { cls := .type "tuple", data := .seq #[.type "str", .type "bytes"] n }) (h1 : isSubtype (.type X) (.type "str") = pure b) (h2 : isSubtype (.type X) (.type "bytes") = pure b2) (hb : (b || b2) = true)
    (hq : ∀ tk', Q (.bool true) { s with toks := tk' }) : wpAny (model prog w) A (call (.builtin "issubclass") [.type X, .ref tp]) Q E s :=
  call_issubclass (S := fun _ R s => s.heap.get? tp = some { cls := .type "tuple", data := .seq #[.type "str", .type "bytes"] n } ∧ ∀ tk', R (.ok (.ret (.bool true))) { s with toks := tk' })
    (fun _ _ _ _ _ hs => issubclass_outer (issub_nested_sb hX hs.1 h1 h2 hb hs.2)) ⟨htp, hq⟩
theorem issub_str {tp : Addr} {n : Nat} {s : Shared} {Q : Value → Shared → Prop}
    (htp : s.heap.get? tp = some { cls := .type "tuple", data := .seq #[.type "str", .type "bytes"] n }) 
    (hq : ∀ tk', Q (.bool true) { s with toks := tk' }) : wpAny (model prog w) A (call (.builtin "issubclass") [.type "str", .ref tp]) Q E s :=
  issub_sb_call (b2 := false) ty_str htp sub_str_str (by rw [isSubtype_type]; kernel_rfl) rfl hq
theorem issub_bytes {tp : Addr} {n : Nat} {s : Shared} {Q : Value → Shared → Prop}
    (htp : s.heap.get? tp = some { cls := .type "tuple", data := .seq #[.type "str", .type "bytes"] n }) 
    (hq : ∀ tk', Q (.bool true) { s with toks := tk' }) : wpAny (model prog w) A (call (.builtin "issubclass") [.type "bytes", .ref tp]) Q E s :=
  issub_sb_call ty_bytes htp sub_bytes_str sub_bytes_bytes rfl hq
end
/-- what a call of the def at f hands back: R of the new ledger and of the value -/
def Spec (prog p : Program) (K : Params → Frag) (f : Addr) (d u : Nat) (vs : List Value) (news : List (Addr × Obj)) (R : List (Addr × Obj) → Value → Prop) : Prop :=
  ∀ (w : World) (loose : List Str) (mean : ExcName → Option Value) (mg mb : Str → Option Value) (dp un : Nat) (gd : Option (List Code)) (cn : Str) (cs : Scope) (a : Addr) (ccd : Value) (cl : List (Str × Addr)) (outer : List Env) (A₀ : Around) (base h₀ : Heap) (L : Addr) (m : Str → Option Value) (s : Shared) (Q E : Value → Shared → Prop),
    Below A₀ base outer h₀ → Fr h₀ L s.heap m → (K w.params).In h₀ → News h₀ L s.heap news → Top p loose mean mg mb h₀ → cs.kind = .function →
    dp + d < recursionLimit → un + u < cLine →
    (∀ led v h' tk', R led v → (∀ q ∈ led, ∀ p ∈ news, p.1 < q.1) → Fr h₀ L h' m → News h₀ L h' (led ++ news) → Q v { s with heap := h', toks := tk' }) →
    wpAny (model prog w) (ktrTop dp un gd cn cs L a ccd cl outer) (call (.ref f) vs) Q E s
theorem Spec.use {prog p : Program} {K : Params → Frag} {f : Addr} {d u : Nat} {vs : List Value} {news : List (Addr × Obj)} {R : List (Addr × Obj) → Value → Prop} (S : Spec prog p K f d u vs news R)
    {w : World} {loose : List Str} {mean : ExcName → Option Value} {mg mb : Str → Option Value} {dp un : Nat} {gd : Option (List Code)} {cn : Str} {cs : Scope} {a : Addr} {ccd : Value} {cl : List (Str × Addr)} {outer : List Env} {A₀ : Around} {base h₀ : Heap} {L : Addr} {m : Str → Option Value} {s : Shared} {Q E : Value → Shared → Prop}
    (B : Below A₀ base outer h₀) (F : Fr h₀ L s.heap m) (X : (K w.params).In h₀) (N : News h₀ L s.heap news) (T : Top p loose mean mg mb h₀) (hk : cs.kind = .function)
    (hd : dp + d < recursionLimit) (hu : un + u < cLine)
    (ret : ∀ led v h' tk', R led v → (∀ q ∈ led, ∀ p ∈ news, p.1 < q.1) → Fr h₀ L h' m → News h₀ L h' (led ++ news) → Q v { s with heap := h', toks := tk' }) :
    wpAny (model prog w) (ktrTop dp un gd cn cs L a ccd cl outer) (call (.ref f) vs) Q E s :=
  S w loose mean mg mb dp un gd cn cs a ccd cl outer A₀ base h₀ L m s Q E B F X N T hk hd hu ret
/-- the same with a word of the caller's ground -/
def SpecP (prog p : Program) (K : Params → Frag) (f : Addr) (d u : Nat) (vs : List Value) (news : List (Addr × Obj)) (pre : Heap → Prop) (R : List (Addr × Obj) → Value → Prop) : Prop :=
  ∀ (w : World) (loose : List Str) (mean : ExcName → Option Value) (mg mb : Str → Option Value) (dp un : Nat) (gd : Option (List Code)) (cn : Str) (cs : Scope) (a : Addr) (ccd : Value) (cl : List (Str × Addr)) (outer : List Env) (A₀ : Around) (base h₀ : Heap) (L : Addr) (m : Str → Option Value) (s : Shared) (Q E : Value → Shared → Prop),
    Below A₀ base outer h₀ → Fr h₀ L s.heap m → (K w.params).In h₀ → News h₀ L s.heap news → Top p loose mean mg mb h₀ → cs.kind = .function →
    dp + d < recursionLimit → un + u < cLine → pre h₀ →
    (∀ led v h' tk', R led v → (∀ q ∈ led, ∀ p ∈ news, p.1 < q.1) → Fr h₀ L h' m → News h₀ L h' (led ++ news) → Q v { s with heap := h', toks := tk' }) →
    wpAny (model prog w) (ktrTop dp un gd cn cs L a ccd cl outer) (call (.ref f) vs) Q E s
theorem SpecP.use {prog p : Program} {K : Params → Frag} {f : Addr} {d u : Nat} {vs : List Value} {news : List (Addr × Obj)} {pre : Heap → Prop} {R : List (Addr × Obj) → Value → Prop} (S : SpecP prog p K f d u vs news pre R)
    {w : World} {loose : List Str} {mean : ExcName → Option Value} {mg mb : Str → Option Value} {dp un : Nat} {gd : Option (List Code)} {cn : Str} {cs : Scope} {a : Addr} {ccd : Value} {cl : List (Str × Addr)} {outer : List Env} {A₀ : Around} {base h₀ : Heap} {L : Addr} {m : Str → Option Value} {s : Shared} {Q E : Value → Shared → Prop}
    (B : Below A₀ base outer h₀) (F : Fr h₀ L s.heap m) (X : (K w.params).In h₀) (N : News h₀ L s.heap news) (T : Top p loose mean mg mb h₀) (hk : cs.kind = .function)
    (hd : dp + d < recursionLimit) (hu : un + u < cLine) (hp : pre h₀)
    (ret : ∀ led v h' tk', R led v → (∀ q ∈ led, ∀ p ∈ news, p.1 < q.1) → Fr h₀ L h' m → News h₀ L h' (led ++ news) → Q v { s with heap := h', toks := tk' }) :
    wpAny (model prog w) (ktrTop dp un gd cn cs L a ccd cl outer) (call (.ref f) vs) Q E s :=
  S w loose mean mg mb dp un gd cn cs a ccd cl outer A₀ base h₀ L m s Q E B F X N T hk hd hu hp ret
theorem list_up {h₀ h : Heap} {l : Addr} {vs : List Value} (hl : h₀.IsList l vs.toArray) (k : ∀ b o, h₀.get? b = some o → h.get? b = some o) : h.IsList l vs.toArray := hl.at fun o e => k _ o e
abbrev tupO (vs : List Value) : Obj := { cls := .type "tuple", data := .seq vs.toArray }
theorem no_led {news : List (Addr × Obj)} : ∀ q ∈ ([] : List (Addr × Obj)), ∀ p ∈ news, p.1 < q.1 := fun _ h => nomatch h
theorem allLt_mem {d : Addr} : ∀ {l : List (Addr × Obj)}, AllLt d l → ∀ p ∈ l, p.1 < d
  | [], _, _, hp => absurd hp (List.not_mem_nil)
  | q :: l, h, p, hp => (List.mem_cons.mp hp).elim (fun e => by rw [e]; exact h.1) (fun hp => allLt_mem h.2 p hp)
theorem hret_one {news newsN : List (Addr × Obj)} {h₀ h' : Heap} {L : Addr} {m : Str → Option Value} {s : Shared} {Q : Value → Shared → Prop} {R : List (Addr × Obj) → Value → Prop} {q : Addr} {o : Obj} {tk' : Nat}
    (hret : ∀ led v h' tk', R led v → (∀ q ∈ led, ∀ p ∈ news, p.1 < q.1) → Fr h₀ L h' m → News h₀ L h' (led ++ news) → Q v { s with heap := h', toks := tk' })
    (F : Fr h₀ L h' m) (N : News h₀ L h' ((q, o) :: newsN)) (hR : R [(q, o)] (.ref q)) (hf : ∀ p ∈ news, p.1 < q) (hs : ∀ p ∈ news, p ∈ newsN) : Q (.ref q) { s with heap := h', toks := tk' } :=
  hret _ _ _ _ hR (fun q' hq p hp => by rw [List.mem_singleton.mp hq]; exact hf p hp) F (cb_drop N fun p hp => List.mem_cons.mpr ((List.mem_cons.mp hp).imp id (hs p)))
theorem one_led {news : List (Addr × Obj)} {a : Addr} {o : Obj} (h : ∀ p ∈ news, p.1 < a) : ∀ q ∈ [(a, o)], ∀ p ∈ news, p.1 < q.1 := fun q hq p hp => by
  rw [List.mem_singleton.mp hq]; exact h p hp
end Mine
namespace Mine
/-! plain lists of signs' numbers, and the texts and bytes that they are -/
def mkS (l : List Nat) : Str := ⟨l.toArray⟩
def mkB (l : List Nat) : Array UInt8 := (l.map Nat.toUInt8).toArray
def Small (l : List Nat) : Prop := ∀ c ∈ l, c < 256
def pySl (l : List Nat) (lo hi : Option Int) : List Nat := (l.drop (lo.elim 0 (clipAt l.length))).take (hi.elim l.length (clipAt l.length) - lo.elim 0 (clipAt l.length))
def tailL (c : Nat) (l : List Nat) : List Nat := (l.reverse.takeWhile (fun x => x != c)).reverse
/-- behind the last c -/
def cutL (c : Nat) (l : List Nat) : Nat := l.length - (tailL c l).length
def rstL (c : Nat) (l : List Nat) : List Nat := (l.reverse.dropWhile (fun x => x == c)).reverse
def lstL (c : Nat) (l : List Nat) : List Nat := l.dropWhile (fun x => x == c)

theorem mkS_length (l : List Nat) : (mkS l).length = l.length := by simp [mkS, Str.length]
theorem mkS_cps (l : List Nat) : (mkS l).cps.toList = l := by simp [mkS]
theorem mkS_eta (x : Str) : mkS x.cps.toList = x := by simp [mkS]
theorem mkB_size (l : List Nat) : (mkB l).size = l.length := by simp [mkB]
theorem toUInt8_inj {a b : Nat} (ha : a < 256) (hb : b < 256) (h : a.toUInt8 = b.toUInt8) : a = b := by
  have h1 : a.toUInt8.toNat = b.toUInt8.toNat := by rw [h]
  simp at h1
  omega
theorem map_u8_inj : ∀ {a b : List Nat}, Small a → Small b → a.map Nat.toUInt8 = b.map Nat.toUInt8 → a = b
  | [], [], _, _, _ => rfl
  | [], _ :: _, _, _, h => by cases h
  | _ :: _, [], _, _, h => by cases h
  | x :: a, y :: b, ha, hb, h => by
    simp only [List.map_cons, List.cons.injEq] at h
    rw [toUInt8_inj (ha x (.head _)) (hb y (.head _)) h.1, map_u8_inj (fun c hc => ha c (.tail _ hc)) (fun c hc => hb c (.tail _ hc)) h.2]
theorem mkB_inj {a b : List Nat} (ha : Small a) (hb : Small b) (h : mkB a = mkB b) : a = b := map_u8_inj ha hb (by simpa [mkB] using h)
theorem mkS_inj {a b : List Nat} (h : mkS a = mkS b) : a = b := by simpa [mkS] using h
theorem Small.nil : Small [] := fun _ h => nomatch h
theorem Small.append {a b : List Nat} (ha : Small a) (hb : Small b) : Small (a ++ b) := fun c hc => (List.mem_append.mp hc).elim (ha c) (hb c)
theorem Small.sub {a b : List Nat} (ha : Small a) (h : ∀ c ∈ b, c ∈ a) : Small b := fun c hc => ha c (h c hc)
theorem pySl_mem {l : List Nat} {lo hi : Option Int} {c : Nat} (h : c ∈ pySl l lo hi) : c ∈ l := List.mem_of_mem_drop (List.mem_of_mem_take h)
theorem Small.sl {a : List Nat} (ha : Small a) (lo hi : Option Int) : Small (pySl a lo hi) := ha.sub fun _ => pySl_mem
theorem rstL_mem {l : List Nat} {k c : Nat} (h : c ∈ rstL k l) : c ∈ l := by
  unfold rstL at h
  rw [List.mem_reverse] at h
  exact List.mem_reverse.mp (List.dropWhile_sublist _ |>.mem h)
theorem Small.rst {a : List Nat} (ha : Small a) (k : Nat) : Small (rstL k a) := ha.sub fun _ => rstL_mem
theorem pySl_length (l : List Nat) (lo hi : Option Int) : (pySl l lo hi).length ≤ l.length := by
  unfold pySl; rw [List.length_take, List.length_drop]; omega
theorem rstL_length (k : Nat) (l : List Nat) : (rstL k l).length ≤ l.length := by
  unfold rstL
  rw [List.length_reverse]
  exact Nat.le_trans (List.dropWhile_sublist _).length_le (by simp)
theorem lstL_length (k : Nat) (l : List Nat) : (lstL k l).length ≤ l.length := (List.dropWhile_sublist _).length_le

theorem clip_nat (n k : Nat) : clipAt n (k : Int) = min k n := clipAt_nat n k
theorem pySl_to (l : List Nat) (k : Nat) : pySl l none (some (k : Int)) = l.take k := by
  unfold pySl
  simp only [Option.elim, clip_nat, List.drop_zero, Nat.sub_zero]
  rw [List.take_eq_take_iff]; omega
theorem pySl_from (l : List Nat) (k : Nat) : pySl l (some (k : Int)) none = l.drop k := by
  unfold pySl
  simp only [Option.elim, clip_nat]
  rw [List.take_of_length_le (by rw [List.length_drop]; omega)]
  by_cases h : k ≤ l.length
  · rw [Nat.min_eq_left h]
  · rw [List.drop_of_length_le (by omega), List.drop_of_length_le (by omega)]
theorem pySl_ft (l : List Nat) (a b : Nat) : pySl l (some (a : Int)) (some (b : Int)) = (l.drop a).take (b - a) := by
  unfold pySl
  simp only [Option.elim, clip_nat]
  by_cases h : a ≤ l.length
  · rw [Nat.min_eq_left h, List.take_eq_take_iff, List.length_drop]; omega
  · rw [List.drop_of_length_le (show l.length ≤ min a l.length by omega), List.drop_of_length_le (show l.length ≤ a by omega)]; simp

theorem sliceIdx_eq (lo hi : Option Int) (n : Nat) : Builtin.Str.strSliceIndices lo hi 1 n = sliceRange ((lo.elim 0 (clipAt n) : Nat) : Int) ((hi.elim n (clipAt n) : Nat) : Int) 1 := by
  unfold Builtin.Str.strSliceIndices
  cases lo <;> cases hi <;> simp [clipAt_cast]
theorem clipAt_le (n : Nat) (i : Int) : clipAt n i ≤ n := by
  have h := clipAt_cast n i
  omega
theorem slice_mkS (l : List Nat) (lo hi : Option Int) : Txt.slice (mkS l) lo hi = mkS (pySl l lo hi) := by
  have hb : hi.elim l.length (clipAt l.length) ≤ l.length := by cases hi with
    | none => exact Nat.le_refl _
    | some i => exact clipAt_le _ _
  unfold Txt.slice
  rw [sliceIdx_eq, sliceRange_one, mkS_length]
  split
  · rename_i h
    simp at h
    have e : pySl l lo hi = l := by
      unfold pySl
      generalize hA : lo.elim 0 (clipAt l.length) = a at *
      generalize hB : hi.elim l.length (clipAt l.length) = b at *
      have h2 : (b : Nat) - a = l.length := h
      rw [h2]
      rcases Nat.eq_zero_or_pos l.length with h0 | h0
      · rw [List.length_eq_zero_iff.mp h0]; simp
      · have ha : a = 0 := by omega
        rw [ha]; simp
    rw [e]
  · rw [pick_run, mkS_cps]; rfl
theorem picked_mkB (l : List Nat) (lo hi : Option Int) : KBy.picked (mkB l) lo hi = mkB (pySl l lo hi) := by
  rw [KBc.picked_eq]
  unfold mkB pySl
  simp [List.map_take, List.map_drop]

/-! the last place of a sign -/
theorem cutL_nil (c : Nat) : cutL c [] = 0 := rfl
theorem cutL_snoc (c : Nat) (l : List Nat) (x : Nat) : cutL c (l ++ [x]) = if x = c then l.length + 1 else cutL c l := by
  unfold cutL tailL
  rw [List.reverse_append, List.reverse_cons, List.reverse_nil, List.nil_append, List.singleton_append, List.takeWhile_cons]
  by_cases h : x = c
  · simp [h]
  · simp [h]
theorem cutL_le (c : Nat) (l : List Nat) : cutL c l ≤ l.length := Nat.sub_le _ _
theorem snocRec {P : List Nat → Prop} (h0 : P []) (h1 : ∀ l x, P l → P (l ++ [x])) (l : List Nat) : P l := by
  have h : ∀ r : List Nat, P r.reverse := by
    intro r
    induction r with
    | nil => exact h0
    | cons x r ih => rw [List.reverse_cons]; exact h1 _ _ ih
  have := h l.reverse
  rwa [List.reverse_reverse] at this
theorem cutL_pos (c : Nat) (l : List Nat) : 0 < cutL c l → l[cutL c l - 1]? = some c := by
  induction l using snocRec with
  | h0 => intro h; exact absurd h (by simp [cutL_nil])
  | h1 l x ih =>
    rw [cutL_snoc]
    split
    · rename_i h; intro _; simp [h]
    · intro h
      have := ih h
      rw [List.getElem?_append_left (by have := cutL_le c l; omega)]
      exact this
theorem cutL_behind (c : Nat) (l : List Nat) : ∀ i, cutL c l ≤ i → l[i]? ≠ some c := by
  induction l using snocRec with
  | h0 => intro i _; simp
  | h1 l x ih =>
    rw [cutL_snoc]
    intro i hi
    split at hi
    · rw [List.getElem?_eq_none (by simp; omega)]; simp
    · rename_i h
      rcases Nat.lt_or_ge i l.length with h1 | h1
      · rw [List.getElem?_append_left h1]; exact ih i hi
      · rcases Nat.eq_or_lt_of_le h1 with h2 | h2
        · subst h2; simp [h]
        · rw [List.getElem?_eq_none (by simp; omega)]; simp
theorem cutL_unique {c : Nat} {l : List Nat} {k : Nat} (h1 : 0 < k → l[k - 1]? = some c) (h2 : ∀ i, k ≤ i → l[i]? ≠ some c) : k = cutL c l := by
  rcases Nat.lt_trichotomy k (cutL c l) with h | h | h
  · exact absurd (cutL_pos c l (by omega)) (h2 _ (by omega))
  · exact h
  · exact absurd (h1 (by omega)) (cutL_behind c l _ (by omega))
theorem subAt_one (l : List Nat) (c i : Nat) : Builtin.Str.subAt (mkS l) (mkS [c]) i = true ↔ l[i]? = some c := by
  rw [StrLaws.subAt_eq, mkS_cps, mkS_cps, mkS_length, beq_iff_eq]
  show List.take 1 (l.drop i) = [c] ↔ _
  rw [List.take_one, List.head?_drop]
  cases l[i]? <;> simp
theorem at_one (l : List Nat) (c i : Nat) : StrLaws.At (mkS l) (mkS [c]) (mkS l).length i ↔ l[i]? = some c := by
  unfold StrLaws.At
  rw [subAt_one, mkS_length, mkS_length]
  constructor
  · exact fun h => h.2
  · intro h
    obtain ⟨hl, _⟩ := List.getElem?_eq_some_iff.mp h
    exact ⟨hl, h⟩
theorem rfind_mkS (l : List Nat) (c : Nat) : Txt.rfind (mkS l) (mkS [c]) = (cutL c l : Int) - 1 := by
  rcases rfind_whole (mkS l) (mkS [c]) with ⟨h1, h2⟩ | ⟨i, h1, h2, h3⟩
  · rw [h1]
    have : 0 = cutL c l := cutL_unique (fun h => absurd h (Nat.lt_irrefl _)) fun i _ => fun e => h2 i ((at_one l c i).mpr e)
    omega
  · rw [h1]
    have : i + 1 = cutL c l := cutL_unique (fun _ => (at_one l c i).mp h2) fun k hk => fun e => h3 k (by omega) ((at_one l c k).mpr e)
    omega

theorem dropWhile_drop (p : Nat → Bool) : ∀ l : List Nat, l.dropWhile p = l.drop (l.takeWhile p).length
  | [] => rfl
  | x :: l => by
    rw [List.dropWhile_cons, List.takeWhile_cons]
    split
    · rw [List.length_cons, List.drop_succ_cons]; exact dropWhile_drop p l
    · rfl
theorem goes_one (c : Nat) : (mkS [c]).cps.contains = fun x => x == c := by
  funext x
  simp only [mkS, List.contains_toArray]
  simp
  rfl
theorem rstL_take (c : Nat) (l : List Nat) : rstL c l = l.take (l.length - (l.reverse.takeWhile (fun x => x == c)).length) := by
  unfold rstL
  rw [dropWhile_drop, List.reverse_drop, List.reverse_reverse, List.length_reverse]
theorem rstrip_mkS (l : List Nat) (c : Nat) : Txt.rstripChars (mkS l) (mkS [c]) = mkS (rstL c l) := by
  unfold Txt.rstripChars Txt.stripBy stripSame PySem.stripped stripLo stripHi
  rw [goes_one, rstL_take]
  simp only [if_true, Bool.false_eq_true, if_false, List.drop_zero, mkS_cps, mkS_length, beq_self_eq_true, Bool.true_and, beq_iff_eq]
  split
  · rename_i h
    rw [h, List.take_length]
  · unfold Builtin.Str.strSub mkS
    simp
theorem lstrip_mkS (l : List Nat) (c : Nat) : Txt.lstripChars (mkS l) (mkS [c]) = mkS (lstL c l) := by
  unfold Txt.lstripChars Txt.stripBy stripSame PySem.stripped stripLo stripHi lstL
  rw [goes_one, dropWhile_drop]
  simp only [if_true, Bool.false_eq_true, if_false, mkS_cps, mkS_length, beq_self_eq_true, Bool.and_true, beq_iff_eq]
  split
  · rename_i h
    rw [h, List.drop_zero]
  · unfold Builtin.Str.strSub mkS
    simp
    rw [List.take_of_length_le (by simp)]
/-! bytes -/
theorem u8_eq {a c : Nat} (ha : a < 256) (hc : c < 256) : (a.toUInt8 == c.toUInt8) = (a == c) := by
  by_cases h : a = c
  · simp [h]
  · have : a.toUInt8 ≠ c.toUInt8 := fun e => h (toUInt8_inj ha hc e)
    rw [beq_eq_false_iff_ne.mpr this, beq_eq_false_iff_ne.mpr h]
theorem mkB_extract (l : List Nat) (i j : Nat) : (mkB l).extract i j = mkB ((l.drop i).take (j - i)) := by
  unfold mkB
  rw [List.extract_toArray, List.extract_eq_take_drop, List.map_take, List.map_drop]
theorem mkB_beq {a b : List Nat} (ha : Small a) (hb : Small b) : (mkB a == mkB b) = (a == b) := by
  by_cases h : a = b
  · subst h; simp
  · rw [beq_eq_false_iff_ne.mpr h, beq_eq_false_iff_ne.mpr fun e => h (mkB_inj ha hb e)]
theorem Small.one {c : Nat} (h : c < 256) : Small [c] := fun x hx => by rw [List.mem_singleton.mp hx]; exact h
theorem rfindB_go (l : List Nat) (c : Nat) (hs : Small l) (hc : c < 256) : ∀ n, n ≤ l.length →
    ((List.range n).map (· + 0)).reverse.find? (fun i => (mkB l).extract i (i + (mkB [c]).size) == mkB [c]) = if cutL c (l.take n) = 0 then none else some (cutL c (l.take n) - 1)
  | 0, _ => by simp [cutL_nil]
  | n + 1, h => by
    have ih := rfindB_go l c hs hc n (by omega)
    have hn : n < l.length := by omega
    have e1 : l.take (n + 1) = l.take n ++ [l[n]] := by simp
    have e2 : ((mkB l).extract n (n + (mkB [c]).size) == mkB [c]) = (l[n] == c) := by
      rw [mkB_extract, mkB_size, mkB_beq (hs.sub fun x hx => List.mem_of_mem_drop (List.mem_of_mem_take hx)) (Small.one hc)]
      rw [List.length_singleton, Nat.add_sub_cancel_left, List.take_one, List.head?_drop, List.getElem?_eq_getElem hn]
      simp
    rw [List.range_succ, List.map_append, List.reverse_append, List.map_cons, List.map_nil, List.reverse_cons, List.reverse_nil, List.nil_append, List.singleton_append, List.find?_cons, e1, cutL_snoc]
    simp only [Nat.add_zero] at ih ⊢
    rw [e2]
    by_cases hx : l[n] = c
    · simp [hx]; omega
    · rw [beq_eq_false_iff_ne.mpr hx, if_neg hx]
      rw [List.map_id'] at ih ⊢
      exact ih
theorem rfindB (l : List Nat) (c : Nat) (hs : Small l) (hc : c < 256) : Builtin.Bytes.rfind? (mkB l) (mkB [c]) 0 (mkB l).size = if cutL c l = 0 then none else some (cutL c l - 1) := by
  have h := rfindB_go l c hs hc l.length (Nat.le_refl _)
  rw [List.take_length] at h
  unfold Builtin.Bytes.rfind?
  have : (mkB l).size + 1 - (0 + (mkB [c]).size) = l.length := by rw [mkB_size, mkB_size]; simp
  rw [this]
  exact h
end Mine
namespace Mine
theorem lit_slash : Str.ofString "/" = mkS [47] := by decide +kernel
theorem lit_dot : Str.ofString "." = mkS [46] := by decide +kernel
theorem lit_dd : Str.ofString ".." = mkS [46, 46] := by decide +kernel
theorem lit_nil : Str.ofString "" = mkS [] := by decide +kernel
theorem lit_slashB : ([47] : List UInt8).toArray = mkB [47] := rfl
theorem lit_dotB : ([46] : List UInt8).toArray = mkB [46] := rfl
theorem lit_ddB : ([46, 46] : List UInt8).toArray = mkB [46, 46] := rfl
theorem lit_nilB : ([] : List UInt8).toArray = mkB [] := rfl
theorem Small.rep {c : Nat} (h : c < 256) (k : Nat) : Small (List.replicate k c) := fun x hx => by rw [List.eq_of_mem_replicate hx]; exact h
theorem mul_mkS (c k : Nat) : Txt.mul (mkS [c]) (k : Int) = mkS (List.replicate k c) := by
  have fold : ∀ (k : Nat) (acc : List Nat), (List.replicate k (mkS [c]).cps).foldl (· ++ ·) acc.toArray = (acc ++ List.replicate k c).toArray := by
    intro k
    induction k with
    | zero => intro acc; simp
    | succ k ih =>
      intro acc
      rw [List.replicate_succ, List.foldl_cons]
      have e : acc.toArray ++ (mkS [c]).cps = (acc ++ [c]).toArray := by simp [mkS]
      rw [e, ih, List.replicate_succ, List.append_assoc]; rfl
  unfold Txt.mul
  by_cases h0 : (k : Int) < 1
  · have : k = 0 := by omega
    subst this
    rw [if_pos h0]; rfl
  · rw [if_neg h0]
    by_cases h1 : k = 1
    · subst h1; simp
    · have : (((k : Int) == 1) || (mkS [c]).length == 0) = false := by
        have a : ((k : Int) == 1) = false := beq_eq_false_iff_ne.mpr (by omega)
        rw [a, mkS_length]; rfl
      rw [this]
      have h := fold k []
      rw [List.nil_append] at h
      simp only [Bool.false_eq_true, if_false, Int.toNat_natCast]
      rw [h]; rfl
theorem repeated_one (c k : Nat) : (List.replicate k [c.toUInt8]).flatten.toArray = mkB (List.replicate k c) := by
  unfold mkB
  congr 1
  induction k with
  | zero => rfl
  | succ k ih => rw [List.replicate_succ, List.flatten_cons, ih, List.replicate_succ, List.map_cons]; rfl
theorem len_ne_zero (l : List Nat) : ((l.length : Int) != 0) = decide (l ≠ []) := by
  cases l with
  | nil => rfl
  | cons x l => simp; omega
theorem bne_dec (a b : List Nat) : (a != b) = decide (a ≠ b) := by
  by_cases h : a = b
  · simp [h]
  · simp [h]
theorem beq_dec (a b : List Nat) : (a == b) = decide (a = b) := by
  by_cases h : a = b
  · simp [h]
  · simp [h]
section
variable {prog : Program} {w : World} {A : Around} {E : Value → Shared → Prop} {s : Shared} {l m : List Nat} {t u : Tok}
/-! texts -/
theorem rfind_S {c : Nat} {y : Str} {Q : Value → Shared → Prop} (hy : y = mkS [c]) (hq : Q (.int ((cutL c l : Int) - 1) s.toks) { s with toks := s.toks + 1 }) : wpAny (model prog w) A (call (.builtin "str.rfind") [.str (mkS l) t, .str y u]) Q E s :=
  SC.rfind (by rw [hy, rfind_mkS]; exact hq)
theorem rstrip_S {c : Nat} {y : Str} {Q : Value → Shared → Prop} (hy : y = mkS [c]) (hz : l.length ≤ 4096) (hq : ∀ t' k, (rstL c l).length ≤ l.length → Q (.str (mkS (rstL c l)) t') { s with toks := k }) : wpAny (model prog w) A (call (.builtin "str.rstrip") [.str (mkS l) t, .str y u]) Q E s :=
  SC.rstripChars (fun t' k => by rw [hy, rstrip_mkS]; exact hq t' k (rstL_length c l)) (by rw [mkS_length, sizeLine_eq]; omega)
theorem lstrip_S {c : Nat} {y : Str} {Q : Value → Shared → Prop} (hy : y = mkS [c]) (hz : l.length ≤ 4096) (hq : ∀ t' k, (lstL c l).length ≤ l.length → Q (.str (mkS (lstL c l)) t') { s with toks := k }) : wpAny (model prog w) A (call (.builtin "str.lstrip") [.str (mkS l) t, .str y u]) Q E s :=
  SC.lstripChars (fun t' k => by rw [hy, lstrip_mkS]; exact hq t' k (lstL_length c l)) (by rw [mkS_length, sizeLine_eq]; omega)
theorem len_S {Q : Value → Shared → Prop} (hz : l.length ≤ 4096) (h : Q (.int l.length (s.toks + 1)) { s with toks := s.toks + 1 + 1 }) : wpAny (model prog w) A (call (.builtin "len") [.str (mkS l) t]) Q E s :=
  P.len_str (by rw [mkS_length]; omega) (by rw [mkS_length]; exact h)
theorem truthy_S {Q : Bool → Shared → Prop} (hz : l.length ≤ 4096) (h : Q (decide (l ≠ [])) { s with toks := s.toks + 1 + 1 }) : wpAny (model prog w) A (truthy (.str (mkS l) t)) Q E s :=
  P.truthy_str (by rw [mkS_length]; omega) (by rw [mkS_length, len_ne_zero]; exact h)
theorem eq_S {x y : Str} {Q : Value → Shared → Prop} (hx : x = mkS l) (hy : y = mkS m) (h : Q (.bool (decide (l = m))) s) : wpAny (model prog w) A (compareOp .Eq (.str x t) (.str y u)) Q E s :=
  P.eq_str (by rw [hx, hy, mkS_cps, mkS_cps, beq_dec]; exact h)
theorem ne_S {x y : Str} {Q : Value → Shared → Prop} (hx : x = mkS l) (hy : y = mkS m) (h : Q (.bool (decide (l ≠ m))) s) : wpAny (model prog w) A (compareOp .NotEq (.str x t) (.str y u)) Q E s :=
  P.ne_str (by rw [hx, hy, mkS_cps, mkS_cps, bne_dec]; exact h)
theorem mul_S {c k : Nat} {y : Str} {Q : Value → Shared → Prop} (hy : y = mkS [c]) (hz : k ≤ 4096) (h : ∀ t' k', Q (.str (mkS (List.replicate k c)) t') { s with toks := k' }) : wpAny (model prog w) A (binaryOp .Mult (.str y t) (.int (k : Int) u)) Q E s :=
  SB.mul (mulOk_of 16 1048576 (by rw [hy, mkS_length]; exact (by decide : 1 ≤ 16)) (by omega) (by omega) (by decide) (by decide)) (fun t' k' => by rw [hy, mul_mkS]; exact h t' k')
section
variable {value slice : PySem.Expr} {h₀ : Heap} {L : Addr} {fm : PySem.Str → Option Value} {news : List (Addr × Obj)} {Q : Value → Shared → Prop} {lo hi : Option Int} {vl vu : Value}
theorem slice_S (hF : Fr h₀ L s.heap fm) (hN : News h₀ L s.heap news) (hl : IsPart vl lo) (hu : IsPart vu hi) (hz : l.length ≤ 4096)
    (h : ∀ h' t' k, Fr h₀ L h' fm → News h₀ L h' news → (pySl l lo hi).length ≤ l.length → Q (.str (mkS (pySl l lo hi)) t') { s with heap := h', toks := k })
    (hs : subscripted slice false (.str (mkS l) t) (.ref s.heap.objs.size) = operate [.ref s.heap.objs.size, .str (mkS l) t] (getItem (.str (mkS l) t) (.ref s.heap.objs.size)) := by with_unfolding_all rfl)
    (ht : ∀ r, letTemporaryGo value (.str (mkS l) t) r = pure () := by intro _; with_unfolding_all rfl) :
    wpAny (model prog w) A (subscriptTail value slice (.str (mkS l) t) (.ref s.heap.objs.size)) Q E { s with heap := s.heap.push { cls := .type "slice", data := .fields #[vl, vu, .none] } } := by
  have hsz : (mkS l).length ≤ sizeLine := by rw [mkS_length, sizeLine_eq]; omega
  cases hl <;> cases hu
  · exact slice_strN_nn hF hN (fun h' t' k a b => by rw [slice_mkS]; exact h h' t' k a b (pySl_length _ _ _)) hs ht hsz
  · exact slice_strN_ns hF hN (fun h' t' k a b => by rw [slice_mkS]; exact h h' t' k a b (pySl_length _ _ _)) hs ht hsz
  · exact slice_strN_sn hF hN (fun h' t' k a b => by rw [slice_mkS]; exact h h' t' k a b (pySl_length _ _ _)) hs ht hsz
  · exact slice_strN_ss hF hN (fun h' t' k a b => by rw [slice_mkS]; exact h h' t' k a b (pySl_length _ _ _)) hs ht hsz
theorem slice_B (hF : Fr h₀ L s.heap fm) (hN : News h₀ L s.heap news) (hl : IsPart vl lo) (hu : IsPart vu hi) (hz : l.length ≤ 4096)
    (h : ∀ h' t' k, Fr h₀ L h' fm → News h₀ L h' news → (pySl l lo hi).length ≤ l.length → Q (.bytes (mkB (pySl l lo hi)) t') { s with heap := h', toks := k })
    (hs : subscripted slice false (.bytes (mkB l) t) (.ref s.heap.objs.size) = operate [.ref s.heap.objs.size, .bytes (mkB l) t] (getItem (.bytes (mkB l) t) (.ref s.heap.objs.size)) := by with_unfolding_all rfl)
    (ht : ∀ r, letTemporaryGo value (.bytes (mkB l) t) r = pure () := by intro _; with_unfolding_all rfl) :
    wpAny (model prog w) A (subscriptTail value slice (.bytes (mkB l) t) (.ref s.heap.objs.size)) Q E { s with heap := s.heap.push { cls := .type "slice", data := .fields #[vl, vu, .none] } } :=
  KBc.slice_K hF hN rfl hl hu (by rw [KBw.ints_length, mkB_size]; omega) (fun h' t' k a b _ => by rw [picked_mkB]; exact h h' t' k a b (pySl_length _ _ _)) hs ht
end
/-! bytes -/
theorem len_B {Q : Value → Shared → Prop} (hz : l.length ≤ 4096) (h : Q (.int l.length (s.toks + 1)) { s with toks := s.toks + 1 + 1 }) : wpAny (model prog w) A (call (.builtin "len") [.bytes (mkB l) t]) Q E s :=
  len_bytes (by rw [mkB_size]; omega) (by rw [mkB_size]; exact h)
theorem truthy_B {Q : Bool → Shared → Prop} (hz : l.length ≤ 4096) (h : Q (decide (l ≠ [])) { s with toks := s.toks + 1 + 1 }) : wpAny (model prog w) A (truthy (.bytes (mkB l) t)) Q E s :=
  truthy_bytes (by rw [mkB_size]; omega) (by rw [mkB_size, len_ne_zero]; exact h)
theorem mkB_list_beq {a b : List Nat} (ha : Small a) (hb : Small b) : ((mkB a).toList == (mkB b).toList) = decide (a = b) := by
  by_cases h : a = b
  · subst h; simp
  · have : (mkB a).toList ≠ (mkB b).toList := fun e => h (mkB_inj ha hb (by rw [← Array.toArray_toList (xs := mkB a), e, Array.toArray_toList]))
    rw [beq_eq_false_iff_ne.mpr this]; simp [h]
theorem eq_B {x y : Array UInt8} {Q : Value → Shared → Prop} (hx : x = mkB l) (hy : y = mkB m) (h1 : Small l) (h2 : Small m) (h : Q (.bool (decide (l = m))) s) : wpAny (model prog w) A (compareOp .Eq (.bytes x t) (.bytes y u)) Q E s :=
  eq_bytes (by rw [hx, hy, mkB_list_beq h1 h2]; exact h)
theorem ne_B {x y : Array UInt8} {Q : Value → Shared → Prop} (hx : x = mkB l) (hy : y = mkB m) (h1 : Small l) (h2 : Small m) (h : Q (.bool (decide (l ≠ m))) s) : wpAny (model prog w) A (compareOp .NotEq (.bytes x t) (.bytes y u)) Q E s :=
  ne_bytes (by rw [hx, hy, bne, mkB_list_beq h1 h2, ← decide_not]; exact h)
theorem mul_B {c k : Nat} {y : Array UInt8} {Q : Value → Shared → Prop} (hy : y = mkB [c]) (hz : k ≤ 4096) (h : ∀ t' k', Q (.bytes (mkB (List.replicate k c)) t') { s with toks := k' }) : wpAny (model prog w) A (binaryOp .Mult (.bytes y t) (.int (k : Int) u)) Q E s := by
  subst hy
  exact bytes_mul_any (b := [c.toUInt8]) (by simp) (by omega) (by omega) (by simp) (fun t' k' => by rw [Int.toNat_natCast, repeated_one]; exact h t' k')
end

/-! what the functions of the program give, as plain lists -/
def headL (l : List Nat) : List Nat := if l.take (cutL 47 l) ≠ [] ∧ l.take (cutL 47 l) ≠ List.replicate (l.take (cutL 47 l)).length 47 then rstL 47 (l.take (cutL 47 l)) else l.take (cutL 47 l)
def tlL (l : List Nat) : List Nat := l.drop (cutL 47 l)
theorem pySl_cut (c : Nat) (l : List Nat) : pySl l none (some ((cutL c l : Int) - 1 + 1)) = l.take (cutL c l) := by
  rw [Int.sub_add_cancel, pySl_to]
theorem pySl_cut2 (c : Nat) (l : List Nat) : pySl l (some ((cutL c l : Int) - 1 + 1)) none = l.drop (cutL c l) := by
  rw [Int.sub_add_cancel, pySl_from]
theorem head_a {l h : List Nat} (e : h = l.take (cutL 47 l)) (h1 : h = []) : h = headL l := by
  unfold headL; subst e; rw [if_neg]; intro x; exact x.1 h1
theorem head_b {l h : List Nat} (e : h = l.take (cutL 47 l)) (h1 : h = List.replicate h.length 47) : h = headL l := by
  unfold headL; subst e; rw [if_neg]; intro x; exact x.2 h1
theorem head_c {l h : List Nat} (e : h = l.take (cutL 47 l)) (h1 : h ≠ []) (h2 : h ≠ List.replicate h.length 47) : rstL 47 h = headL l := by
  unfold headL; subst e; rw [if_pos ⟨h1, h2⟩]
theorem tlL_snoc (l : List Nat) (x : Nat) : tlL (l ++ [x]) = if x = 47 then [] else tlL l ++ [x] := by
  unfold tlL
  rw [cutL_snoc]
  split
  · simp
  · rw [List.drop_append_of_le_length (cutL_le 47 l)]
theorem headL_mem {l : List Nat} {c : Nat} (h : c ∈ headL l) : c ∈ l := by
  unfold headL at h
  split at h
  · exact List.mem_of_mem_take (rstL_mem h)
  · exact List.mem_of_mem_take h
theorem headL_length (l : List Nat) : (headL l).length ≤ l.length := by
  unfold headL
  have := rstL_length 47 (l.take (cutL 47 l))
  rw [List.length_take] at this
  split
  · omega
  · rw [List.length_take]; omega
theorem tlL_length (l : List Nat) : (tlL l).length ≤ l.length := by unfold tlL; rw [List.length_drop]; omega
theorem Small.head {l : List Nat} (h : Small l) : Small (headL l) := h.sub fun _ => headL_mem
theorem Small.tl {l : List Nat} (h : Small l) : Small (tlL l) := h.sub fun _ hc => List.mem_of_mem_drop hc
/-- where the ending begins -/
def extK (l : List Nat) : Nat := if ((l.take (cutL 46 l - 1)).drop (cutL 47 l)).any (fun c => c != 46) then cutL 46 l - 1 else l.length

theorem sl_one (l : List Nat) (k : Nat) : pySl l (some (k : Int)) (some ((k : Int) + 1)) = (l.drop k).take 1 := by
  rw [show ((k : Int) + 1) = ((k + 1 : Nat) : Int) from by omega, pySl_ft, Nat.add_sub_cancel_left]
theorem sl_zero (l : List Nat) : pySl l none (some 0) = [] := pySl_to l 0
theorem drop_one_eq {l : List Nat} {k c : Nat} : (l.drop k).take 1 = [c] ↔ l[k]? = some c := by
  rw [List.take_one, List.head?_drop]
  cases l[k]? <;> simp
theorem any_step {l : List Nat} {a k c : Nat} (ha : a ≤ k) (h3 : ((l.take k).drop a).any (fun x => x != c) = false) (h : (l.drop k).take 1 = [c]) : ((l.take (k + 1)).drop a).any (fun x => x != c) = false := by
  have hk := drop_one_eq.mp h
  obtain ⟨hl, he⟩ := List.getElem?_eq_some_iff.mp hk
  have e1 : l.take (k + 1) = l.take k ++ [c] := by rw [List.take_add_one, hk]; rfl
  rw [e1, List.drop_append_of_le_length (by rw [List.length_take]; omega), List.any_append, h3]
  simp
theorem any_hit {l : List Nat} {a k d c : Nat} (ha : a ≤ k) (hd : k < d) (hl : k < l.length) (h : (l.drop k).take 1 ≠ [c]) : ((l.take d).drop a).any (fun x => x != c) = true := by
  rw [List.any_eq_true]
  refine ⟨l[k], ?_, ?_⟩
  · have : ((l.take d).drop a)[k - a]? = some l[k] := by
      rw [List.getElem?_drop, List.getElem?_take, show a + (k - a) = k from by omega, if_pos hd, List.getElem?_eq_getElem hl]
    exact List.mem_of_getElem? this
  · have : l[k] ≠ c := fun e => h (drop_one_eq.mpr (by rw [List.getElem?_eq_getElem hl, e]))
    simp [this]
theorem ext_yes {l : List Nat} {k : Nat} (hk1 : cutL 47 l ≤ k) (hk2 : k + 1 ≤ cutL 46 l) (hk : (k : Int) < (cutL 46 l : Int) - 1) (h : pySl l (some (k : Int)) (some ((k : Int) + 1)) ≠ [46]) : extK l = cutL 46 l - 1 ∧ ((cutL 46 l : Int) - 1) = ((extK l : Nat) : Int) := by
  have := cutL_le 46 l
  have e : extK l = cutL 46 l - 1 := by
    unfold extK
    rw [any_hit hk1 (by omega) (by omega) (by rwa [sl_one] at h)]
    rfl
  exact ⟨e, by rw [e]; omega⟩
theorem ext_no {l : List Nat} (h : ((l.take (cutL 46 l - 1)).drop (cutL 47 l)).any (fun c => c != 46) = false) : extK l = l.length := by
  unfold extK; rw [h]; rfl
theorem ext_no2 {l : List Nat} (h : ¬ ((cutL 47 l : Int) - 1 < (cutL 46 l : Int) - 1)) : extK l = l.length := by
  refine ext_no ?_
  rw [List.drop_of_length_le (by rw [List.length_take]; omega)]; rfl
theorem ext_all {l : List Nat} (h : extK l = l.length) : l = l.take (extK l) ∧ pySl l none (some 0) = l.drop (extK l) := by
  rw [h, sl_zero]; simp

/-! methods of bytes -/
theorem slot_rfind : Slot "bytes" "rfind" "bytes.rfind" :=
  .of (owner := "bytes") (n := "rfind") (by rw [typeLookup_type, builtinLookup_eq_fast]; kernel_rfl) (by decide +kernel) (by decide +kernel) (by decide +kernel)
    (by first | exact .inl (by decide +kernel) | exact .inr (by decide +kernel)) (by rw [isSubtype_type]; kernel_rfl)
theorem type_rfind : typeOf (.builtin "bytes.rfind") = pure (.type "method_descriptor") := by show builtinType _ = _; rw [builtinType_eq_fast]; kernel_rfl
theorem entry_rfind : entryFor table "bytes.rfind" = some Builtin.«bytes.rfind» := entryFor_of_tree (by kernel_rfl)
theorem args_rfind (a b : Value) : argsOk "bytes.rfind" ⟨[a, b], []⟩ := by
  unfold argsOk; rw [signature?_of (id := "bytes.rfind") (n := ['d', 'n', 'i', 'f', 'r']) (o := ['s', 'e', 't', 'y', 'b']) (by kernel_rfl) FB.owner_bytes]; kernel_rfl
theorem meth_rfind {M : Model} {A : Around} {E : Value → Shared → Prop} {s : Shared} {b : Array UInt8} {t : Tok} {pl : Sem Bool} {Q : Value × List Value → Shared → Prop} (h : Q (.builtin "bytes.rfind", [.bytes b t]) s) : wpAny M A (getMethod (.bytes b t) "rfind" pl) Q E s := by
  with_reducible exact KBd.method_of (.bytes b t) (typeIs_bytes _ _ _) slot_rfind type_rfind KBd.noRef h
theorem slot_rstrip : Slot "bytes" "rstrip" "bytes.rstrip" :=
  .of (owner := "bytes") (n := "rstrip") (by rw [typeLookup_type, builtinLookup_eq_fast]; kernel_rfl) (by decide +kernel) (by decide +kernel) (by decide +kernel)
    (by first | exact .inl (by decide +kernel) | exact .inr (by decide +kernel)) (by rw [isSubtype_type]; kernel_rfl)
theorem type_rstrip : typeOf (.builtin "bytes.rstrip") = pure (.type "method_descriptor") := by show builtinType _ = _; rw [builtinType_eq_fast]; kernel_rfl
theorem entry_rstrip : entryFor table "bytes.rstrip" = some Builtin.«bytes.rstrip» := entryFor_of_tree (by kernel_rfl)
theorem args_rstrip (a b : Value) : argsOk "bytes.rstrip" ⟨[a, b], []⟩ := by
  unfold argsOk; rw [signature?_of (id := "bytes.rstrip") (n := ['p', 'i', 'r', 't', 's', 'r']) (o := ['s', 'e', 't', 'y', 'b']) (by kernel_rfl) FB.owner_bytes]; kernel_rfl
theorem meth_rstrip {M : Model} {A : Around} {E : Value → Shared → Prop} {s : Shared} {b : Array UInt8} {t : Tok} {pl : Sem Bool} {Q : Value × List Value → Shared → Prop} (h : Q (.builtin "bytes.rstrip", [.bytes b t]) s) : wpAny M A (getMethod (.bytes b t) "rstrip" pl) Q E s := by
  with_reducible exact KBd.method_of (.bytes b t) (typeIs_bytes _ _ _) slot_rstrip type_rstrip KBd.noRef h
theorem slot_split : Slot "bytes" "split" "bytes.split" :=
  .of (owner := "bytes") (n := "split") (by rw [typeLookup_type, builtinLookup_eq_fast]; kernel_rfl) (by decide +kernel) (by decide +kernel) (by decide +kernel)
    (by first | exact .inl (by decide +kernel) | exact .inr (by decide +kernel)) (by rw [isSubtype_type]; kernel_rfl)
theorem type_split : typeOf (.builtin "bytes.split") = pure (.type "method_descriptor") := by show builtinType _ = _; rw [builtinType_eq_fast]; kernel_rfl
theorem entry_split : entryFor table "bytes.split" = some Builtin.«bytes.split» := entryFor_of_tree (by kernel_rfl)
theorem args_split (a b : Value) : argsOk "bytes.split" ⟨[a, b], []⟩ := by
  unfold argsOk; rw [signature?_of (id := "bytes.split") (n := ['t', 'i', 'l', 'p', 's']) (o := ['s', 'e', 't', 'y', 'b']) (by kernel_rfl) FB.owner_bytes]; kernel_rfl
theorem meth_split {M : Model} {A : Around} {E : Value → Shared → Prop} {s : Shared} {b : Array UInt8} {t : Tok} {pl : Sem Bool} {Q : Value × List Value → Shared → Prop} (h : Q (.builtin "bytes.split", [.bytes b t]) s) : wpAny M A (getMethod (.bytes b t) "split" pl) Q E s := by
  with_reducible exact KBd.method_of (.bytes b t) (typeIs_bytes _ _ _) slot_split type_split KBd.noRef h
theorem slot_join : Slot "bytes" "join" "bytes.join" :=
  .of (owner := "bytes") (n := "join") (by rw [typeLookup_type, builtinLookup_eq_fast]; kernel_rfl) (by decide +kernel) (by decide +kernel) (by decide +kernel)
    (by first | exact .inl (by decide +kernel) | exact .inr (by decide +kernel)) (by rw [isSubtype_type]; kernel_rfl)
theorem type_join : typeOf (.builtin "bytes.join") = pure (.type "method_descriptor") := by show builtinType _ = _; rw [builtinType_eq_fast]; kernel_rfl
theorem entry_join : entryFor table "bytes.join" = some Builtin.«bytes.join» := entryFor_of_tree (by kernel_rfl)
theorem args_join (a b : Value) : argsOk "bytes.join" ⟨[a, b], []⟩ := by
  unfold argsOk; rw [signature?_of (id := "bytes.join") (n := ['n', 'i', 'o', 'j']) (o := ['s', 'e', 't', 'y', 'b']) (by kernel_rfl) FB.owner_bytes]; kernel_rfl
theorem meth_join {M : Model} {A : Around} {E : Value → Shared → Prop} {s : Shared} {b : Array UInt8} {t : Tok} {pl : Sem Bool} {Q : Value × List Value → Shared → Prop} (h : Q (.builtin "bytes.join", [.bytes b t]) s) : wpAny M A (getMethod (.bytes b t) "join" pl) Q E s := by
  with_reducible exact KBd.method_of (.bytes b t) (typeIs_bytes _ _ _) slot_join type_join KBd.noRef h
theorem meth_startswith {M : Model} {A : Around} {E : Value → Shared → Prop} {s : Shared} {b : Array UInt8} {t : Tok} {pl : Sem Bool} {Q : Value × List Value → Shared → Prop} (h : Q (.builtin "bytes.startswith", [.bytes b t]) s) : wpAny M A (getMethod (.bytes b t) "startswith" pl) Q E s := by
  with_reducible exact KBd.method_of (.bytes b t) (typeIs_bytes _ _ _) FB.slot_bytes_startswith FB.type_bytes_startswith KBd.noRef h
theorem meth_endswith {M : Model} {A : Around} {E : Value → Shared → Prop} {s : Shared} {b : Array UInt8} {t : Tok} {pl : Sem Bool} {Q : Value × List Value → Shared → Prop} (h : Q (.builtin "bytes.endswith", [.bytes b t]) s) : wpAny M A (getMethod (.bytes b t) "endswith" pl) Q E s := by
  with_reducible exact KBd.method_of (.bytes b t) (typeIs_bytes _ _ _) FB.slot_bytes_endswith FB.type_bytes_endswith KBd.noRef h

section
open Builtin
variable {prog : Program} {w : World} {A : Around} {E : Value → Shared → Prop} {s : Shared} {l m : List Nat} {t u : Tok}
theorem searchArgs_eq {b y : Array UInt8} : Bytes.searchArgs .bytes "rfind" ⟨[.bytes b t, .bytes y u], []⟩ = pure (b, y, if ((b.size : Int) - 0 < (y.size : Int)) then none else some ((0 : Int).toNat, (b.size : Int).toNat)) := by
  show (Bytes.buffer? _ (Value.bytes y u) >>= _) = _
  rw [KBy.buffer_eq]
  have e : Bytes.window b.size none none = (0, (b.size : Int)) := by
    unfold Bytes.window
    simp
    omega
  show (pure (b, y, if ((Bytes.window b.size none none).2 - (Bytes.window b.size none none).1 < (y.size : Int)) then none else some ((Bytes.window b.size none none).1.toNat, (Bytes.window b.size none none).2.toNat)) : Sem _) = _
  rw [e]
theorem rfind_val (hs : Small l) {c : Nat} (hc : c < 256) : ((if ((mkB l).size : Int) - 0 < ((mkB [c]).size : Int) then none else some ((0 : Int).toNat, ((mkB l).size : Int).toNat)).bind fun p => Bytes.rfind? (mkB l) (mkB [c]) p.1 p.2) = if cutL c l = 0 then none else some (cutL c l - 1) := by
  split
  · rename_i h
    rw [mkB_size, mkB_size] at h
    have : l = [] := List.length_eq_zero_iff.mp (by simp at h; omega)
    subst this
    rfl
  · exact rfindB l c hs hc
theorem gives_rfind (hs : Small l) {c : Nat} (hc : c < 256) : Gives («bytes.rfind» ⟨[.bytes (mkB l) t, .bytes (mkB [c]) u], []⟩) (.int ((cutL c l : Int) - 1)) := by
  refine .of_wp fun M A E s Q hq => ?_
  show wpAny M A (Bytes.searchArgs .bytes "rfind" ⟨[.bytes (mkB l) t, .bytes (mkB [c]) u], []⟩ >>= fun r => _) _ E s
  refine wpAny_bind (wpAny_of_eq searchArgs_eq ?_)
  show wpAny M A (match ((if ((mkB l).size : Int) - 0 < ((mkB [c]).size : Int) then none else some ((0 : Int).toNat, ((mkB l).size : Int).toNat)).bind fun p => Bytes.rfind? (mkB l) (mkB [c]) p.1 p.2) with | some i => retInt i | none => _) _ E s
  rw [rfind_val hs hc]
  by_cases h : cutL c l = 0
  · rw [if_pos h]
    rw [h] at hq
    exact wpAny_bind (wpAny_rule (wpAny_bind (wpAny_mkInt (wpAny_pure ⟨_, rfl, hq⟩))))
  · rw [if_neg h]
    have e : ((cutL c l - 1 : Nat) : Int) = (cutL c l : Int) - 1 := by omega
    show wpAny M A (retInt ((cutL c l - 1 : Nat) : Int)) _ E s
    rw [e]
    exact wpAny_bind (wpAny_mkInt (wpAny_pure ⟨_, rfl, hq⟩))
theorem rfind_B {c : Nat} {y : Array UInt8} {Q : Value → Shared → Prop} (hs : Small l) (hy : y = mkB [c]) (hc : c < 256) (hq : Q (.int ((cutL c l : Int) - 1) s.toks) { s with toks := s.toks + 1 }) : wpAny (model prog w) A (call (.builtin "bytes.rfind") [.bytes (mkB l) t, .bytes y u]) Q E s := by
  subst hy
  exact call_gives slot_rfind (typeIs_bytes _ _ _) entry_rfind (args_rfind _ _) (gives_rfind hs hc) hq
theorem rstB (hs : Small l) {c : Nat} (hc : c < 256) : ((mkB l).toList.reverse.dropWhile (mkB [c]).contains).reverse = (rstL c l).map Nat.toUInt8 := by
  have e : (mkB l).toList = l.map Nat.toUInt8 := by simp [mkB]
  have g : ∀ r : List Nat, Small r → (r.map Nat.toUInt8).dropWhile (mkB [c]).contains = (r.dropWhile fun x => x == c).map Nat.toUInt8 := by
    intro r
    induction r with
    | nil => intro _; rfl
    | cons x r ih =>
      intro hr
      have hx : (mkB [c]).contains x.toUInt8 = (x == c) := by
        rw [← u8_eq (hr x (.head _)) hc]
        simp only [mkB, List.map_cons, List.map_nil, List.contains_toArray, List.contains_cons, List.contains_nil, Bool.or_false]
      rw [List.map_cons, List.dropWhile_cons, List.dropWhile_cons, hx]
      split
      · exact ih fun y hy => hr y (.tail _ hy)
      · rfl
  rw [e, ← List.map_reverse, g _ (fun x hx => hs x (List.mem_reverse.mp hx)), ← List.map_reverse]
  rfl
theorem gives_rstrip (hs : Small l) (hz : l.length ≤ 4096) {c : Nat} (hc : c < 256) {M : Model} {Q : Fin → Shared → Prop} (hq : ∀ t' k, Q (.done (.ret (.bytes (mkB (rstL c l)) t'))) { s with toks := k }) :
    wpAny M A («bytes.rstrip» ⟨[.bytes (mkB l) t, .bytes (mkB [c]) u], []⟩) Q E s := by
  show wpAny M A (Bytes.bytesLike _ (.bytes (mkB [c]) u) >>= fun set => _) Q E s
  rw [KBd.like_eq]
  refine wpAny_bind (wpAny_pure ?_)
  refine wpAny_bind (wpAny_pure ?_)
  refine wpAny_bind (wpAny_of_eq (a := mkB l) rfl ?_)
  show wpAny M A (if ((((mkB l).toList.reverse.dropWhile (mkB [c]).contains).reverse).length == (mkB l).size) = true then _ else _) Q E s
  rw [rstB hs hc, List.length_map, mkB_size]
  by_cases h : (rstL c l).length = l.length
  · rw [if_pos (beq_iff_eq.mpr h)]
    have e : rstL c l = l := by
      rw [rstL_take] at h ⊢
      rw [List.take_of_length_le]
      rw [List.length_take] at h
      omega
    refine wpAny_bind (wpAny_rule ?_)
    rw [e] at hq
    exact wpAny_bind (wpAny_bind (wpAny_typeOf (typeIs_bytes _ _ _) (wpAny_pure (wpAny_pure (hq _ _)))))
  · rw [if_neg (by simp [h])]
    show wpAny M A (mkBytes (((mkB l).toList.reverse.dropWhile (mkB [c]).contains).reverse).toArray >>= fun v => ret v) Q E s
    rw [rstB hs hc]
    refine wpAny_bind (wpAny_mkBytes (wpAny_pure (hq _ _)) ?_)
    have := rstL_length c l
    rw [sizeLine_eq, List.size_toArray, List.length_map]
    omega
theorem rstrip_B {c : Nat} {y : Array UInt8} {Q : Value → Shared → Prop} (hs : Small l) (hy : y = mkB [c]) (hc : c < 256) (hz : l.length ≤ 4096) (hq : ∀ t' k, (rstL c l).length ≤ l.length → Q (.bytes (mkB (rstL c l)) t') { s with toks := k }) :
    wpAny (model prog w) A (call (.builtin "bytes.rstrip") [.bytes (mkB l) t, .bytes y u]) Q E s := by
  subst hy
  refine call_meets (S := fun _ R s' => s' = s ∧ ∀ t' k, R (.ok (.ret (.bytes (mkB (rstL c l)) t'))) { s with toks := k }) slot_rstrip (typeIs_bytes _ _ _) entry_rstrip (args_rstrip _ _) ?_ ⟨rfl, fun t' k => hq t' k (rstL_length c l)⟩
  rintro prog w A R s' ⟨rfl, h⟩
  exact gives_rstrip hs hz hc h
end
end Mine
namespace Mine
def Stop (P : Prop) : Prop := P
theorem Stop.of {P : Prop} (h : Stop P) : P := h
@[irreducible] def StopG (P : Prop) : Prop := P
theorem StopG.eq (P : Prop) : StopG P = P := by unfold StopG; rfl
theorem goodStop {c : ClaimW} {cl : Str → Option Addr} {mean : ExcName → Option Value} {args : List WData} {s₁ s' : Shared} {r : Except Value Flow} (h : StopG (GoodW c cl mean args s₁ r s')) : GoodW c cl mean args s₁ r s' := by rw [StopG.eq] at h; exact h
theorem stopG {P : Prop} (h : StopG P) : P := by rw [StopG.eq] at h; exact h
section
variable {prog : Program} {w : World} {A : Around} {E : Value → Shared → Prop} {s : Shared} {env : Env} {h₀ : Heap} {x : Str} {body : List Stmt} {Q : Flow → Shared → Prop}

/-- the end of a loop's turn: the state's letters c, their ledger and names -/
def TurnEnd {σ : Type} (h₀ : Heap) (L : Addr) (Led : σ → List (Addr × Obj)) (ps : σ → List (Str × Value)) (x : Str) (stored : List Str) (m₀ : Str → Option Value) (P : σ → Prop) (I : Addr) (oI : Obj) (s₁ s₂ : Shared) : Prop :=
  ∃ c h' tk m' news', s₂ = { s₁ with heap := h', toks := tk } ∧ Fr h₀ L h' m' ∧ News h₀ L h' news' ∧ (∀ p ∈ Led c, p ∈ news') ∧ (I, oI) ∈ news' ∧ (∀ p ∈ Led c, p.1 ≠ I) ∧ (∀ p ∈ ps c, m' p.1 = some p.2) ∧ (∀ z, z ≠ x → (∀ p ∈ ps c, z ≠ p.1) → stored.contains z = false → m' z = m₀ z) ∧ P c
def TurnPost {σ : Type} (h₀ : Heap) (L : Addr) (Led : σ → List (Addr × Obj)) (ps : σ → List (Str × Value)) (x : Str) (stored : List Str) (m₀ : Str → Option Value) (P : σ → Prop) (I : Addr) (oI : Obj) (s₁ : Shared) (Q : Flow → Shared → Prop) (f : Flow) (s₂ : Shared) : Prop :=
  match f with
  | .ret v => Q (.ret v) s₂
  | .brk => Q .next s₂
  | _ => TurnEnd h₀ L Led ps x stored m₀ P I oI s₁ s₂

theorem turn_end {σ : Type} {L : Addr} {Led : σ → List (Addr × Obj)} {ps : σ → List (Str × Value)} {stored : List Str} {m₀ m' : Str → Option Value} {P : σ → Prop} {I : Addr} {oI : Obj} {s₁ : Shared} {h' : Heap} {tk : Nat} {news' : List (Addr × Obj)} (c : σ)
    (F : Fr h₀ L h' m') (N : News h₀ L h' news') (hn : ∀ p ∈ Led c, p ∈ news') (hI : (I, oI) ∈ news') (hne : ∀ p ∈ Led c, p.1 ≠ I) (hk : ∀ p ∈ ps c, m' p.1 = some p.2)
    (hr : ∀ z, z ≠ x → (∀ p ∈ ps c, z ≠ p.1) → stored.contains z = false → m' z = m₀ z) (hp : P c) : TurnEnd h₀ L Led ps x stored m₀ P I oI s₁ { s₁ with heap := h', toks := tk } :=
  ⟨c, h', tk, m', news', rfl, F, N, hn, hI, hne, hk, hr, hp⟩

theorem for_core {σ : Type} {I : Addr} {fp : List Addr} {n : Nat} {Pv : Nat → Value → Prop} {St : Nat → Heap → Prop} {m₀ : Str → Option Value} (Led : σ → List (Addr × Obj)) (ps : σ → List (Str × Value)) (stored : List Str) (P : Nat → σ → Prop) (c₀ : σ)
    (W : Walks prog w A I fp [I] n Pv St) (hLf : env.locals ∉ fp) (hI0 : h₀.get? I = none) (hoI : ∀ i h, St i h → ∃ o, h.get? I = some o)
    (hfp : ∀ b ∈ fp, b = I ∨ (∃ o, h₀.get? b = some o) ∨ ∃ o, ∀ c, (b, o) ∈ Led c)
    (hst : St 0 s.heap) (F : Fr h₀ env.locals s.heap m₀) (N : News h₀ env.locals s.heap (Led c₀)) (hIl : ∀ p ∈ Led c₀, p.1 ≠ I) (hk : ∀ p ∈ ps c₀, m₀ p.1 = some p.2) (hp : P 0 c₀)
    (turn : ∀ (c : σ) i v (u : Str → Option Value) h tk oI, i < n → Pv i v → P i c → (∀ p ∈ Led c, p.1 ≠ I) →
      Fr h₀ env.locals h (fun y => if y = x then some v else kstB (fun z => if stored.contains z then u z else m₀ z) (ps c) y) → News h₀ env.locals h ((I, oI) :: Led c) →
      wpAny (model prog w) A (execs body env) (TurnPost h₀ env.locals Led ps x stored m₀ (P (i + 1)) I oI { s with heap := h, toks := tk } Q) E { s with heap := h, toks := tk })
    (done : ∀ (c : σ) (u : Str → Option Value) h tk, P n c → Fr h₀ env.locals h (fun y => if y = x then u y else kstB (fun z => if stored.contains z then u z else m₀ z) (ps c) y) → News h₀ env.locals h (Led c) → Q .next { s with heap := h, toks := tk }) :
    LoopAtV prog w A h₀ env x body Q E (.ref I) s := by
  let J : Nat → (Str → Option Value) → List (Addr × Obj) → Prop := fun i m nx => ∃ c, nx = Led c ∧ (∀ p ∈ ps c, m p.1 = some p.2) ∧ (∀ z, z ≠ x → (∀ p ∈ ps c, z ≠ p.1) → stored.contains z = false → m z = m₀ z) ∧ P i c
  refine ⟨I, fp, [I], n, Pv, St, m₀, Led c₀, J, rfl, W, hLf, ?_, ?_, hst, F, N, ⟨c₀, rfl, hk, fun _ _ _ _ => rfl, hp⟩, ?_, ?_⟩
  · intro b hb; rw [List.mem_singleton.mp hb]; exact hI0
  · intro p hp hq; exact hIl p hp (List.mem_singleton.mp hq)
  · rintro i v m₁ news₁ s₁ own ⟨hh', tk', rfl⟩ hin hP ⟨c, rfl, h1, h2, hp'⟩ hoff hown hget hmem hst' F₁ N₁
    have hne : ∀ p ∈ Led c, p.1 ≠ I := fun p hp e => hoff p hp (List.mem_singleton.mpr e)
    obtain ⟨oI, hI⟩ := hoI _ _ hst'
    have hIfp : I ∈ fp := W.sub I (.head _)
    have hIown : (I, oI) ∈ own := hmem I hIfp hI0 oI hI
    have N₂ : News h₀ env.locals hh' ((I, oI) :: Led c) := fun p hp => (List.mem_cons.mp hp).elim (fun e => N₁ p (List.mem_append.mpr (.inl (e ▸ hIown)))) fun h => N₁ p (List.mem_append.mpr (.inr h))
    refine wpAny_mono (turn c i v m₁ hh' tk' oI hin hP hp' hne (kst_fr h1 h2 F₁) N₂) (fun f s₂ p => ?_) fun _ _ e => e
    have fin : TurnEnd h₀ env.locals Led ps x stored m₀ (P (i + 1)) I oI { s with heap := hh', toks := tk' } s₂ → LoopStepU h₀ env.locals [I] own (J (i + 1)) { s with heap := hh', toks := tk' } .next s₂ := by
      rintro ⟨c', h', tk, m', news', e, F', N', hn, hI', hne', hk', hr', hp''⟩
      refine ⟨rfl, h', tk, m', Led c', e, F', fun p hp => ?_, fun p hp hq => hne' p hp (List.mem_singleton.mp hq), c', rfl, hk', hr', hp''⟩
      rcases List.mem_append.mp hp with hp | hp
      · have hg : hh'.get? p.1 = some p.2 := hget p hp
        rcases hfp p.1 (hown p hp) with e1 | ⟨o, e1⟩ | ⟨o, e1⟩
        · have : p = (I, oI) := by
            have h5 := hg
            rw [e1, hI] at h5
            exact Prod.ext e1 (Option.some.inj h5).symm
          rw [this]; exact N' _ hI'
        · have h5 := (N₁ p (List.mem_append.mpr (.inl hp))).2.2
          rw [e1] at h5; cases h5
        · have h5 := (N₁ _ (List.mem_append.mpr (.inr (e1 c)))).1
          have : p = (p.1, o) := Prod.ext rfl (by have h6 := hg; simp only at h5; rw [h5] at h6; exact (Option.some.inj h6).symm)
          rw [this]; exact N' _ (hn _ (e1 c'))
      · exact N' p (hn p hp)
    cases f with
    | ret v => exact .ret p
    | brk => exact .brk p
    | next => exact .next (fin p)
    | cont => exact .cont (fin p)
  · rintro h' tk m' news' F' N' _ ⟨c, rfl, h1, h2, hp'⟩
    exact done c m' h' tk hp' (kst_frOut h1 h2 F') N'

/-- a for over a list that stays as it is -/
theorem for_list {σ : Type} {l : Addr} {vs : List Value} {m₀ : Str → Option Value} (Led : σ → List (Addr × Obj)) (ps : σ → List (Str × Value)) (stored : List Str) (P : Nat → σ → Prop) (c₀ : σ)
    (hh : A.handled = none) (hl : s.heap.IsList l vs.toArray) (hl2 : (∃ o, h₀.get? l = some o) ∨ ∃ o, ∀ c, (l, o) ∈ Led c) (F : Fr h₀ env.locals s.heap m₀) (N : News h₀ env.locals s.heap (Led c₀)) (hk : ∀ p ∈ ps c₀, m₀ p.1 = some p.2) (hp : P 0 c₀)
    (turn : ∀ (c : σ) i v (u : Str → Option Value) h tk I oI, i < vs.length → vs[i]? = some v → P i c → (∀ p ∈ Led c, p.1 ≠ I) →
      Fr h₀ env.locals h (fun y => if y = x then some v else kstB (fun z => if stored.contains z then u z else m₀ z) (ps c) y) → News h₀ env.locals h ((I, oI) :: Led c) →
      wpAny (model prog w) A (execs body env) (TurnPost h₀ env.locals Led ps x stored m₀ (P (i + 1)) I oI { s with heap := h, toks := tk } Q) E { s with heap := h, toks := tk })
    (done : ∀ (c : σ) (u : Str → Option Value) h tk, P vs.length c → Fr h₀ env.locals h (fun y => if y = x then u y else kstB (fun z => if stored.contains z then u z else m₀ z) (ps c) y) → News h₀ env.locals h (Led c) → Q .next { s with heap := h, toks := tk }) :
    wpAny (model prog w) A (pyIter (.ref l)) (fun it s₂ => LoopAtV prog w A h₀ env x body Q E it s₂) E s := by
  obtain ⟨ol, hol, _⟩ := id hl
  have hlt : l < s.heap.objs.size := Heap.lt_size hol
  refine wpAny_pyIter_list hl ?_
  have W := Walks.list (prog := prog) (w := w) hh s.heap.objs.size l (Nat.ne_of_lt hlt) vs.toArray
  have hlen : vs.toArray.size = vs.length := by simp
  rw [hlen] at W
  have hne : env.locals ≠ l := by
    intro e
    rcases hl2 with ⟨o, h1⟩ | ⟨o, h1⟩
    · rw [← e] at h1; exact absurd (Nat.lt_of_lt_of_le (Heap.lt_size h1) F.above) (Nat.lt_irrefl _)
    · exact (N _ (h1 c₀)).2.1 e.symm
  refine for_core Led ps stored P c₀ W ?_ (next_is_new F) (fun i h st => st.1.imp fun _ x => x.1) ?_ ⟨⟨_, Heap.get?_push_size _ rfl, rfl, rfl⟩, hl.at fun o e => Heap.get?_push_of_some _ e⟩ (F.push _) (fun p hp => ⟨Heap.get?_push_of_some _ (N p hp).1, (N p hp).2⟩) ?_ hk hp ?_ ?_
  · intro hm
    rcases List.mem_cons.mp hm with e | hm
    · exact absurd F.ns.lt (e ▸ Nat.lt_irrefl _)
    · exact hne (List.mem_singleton.mp hm)
  · intro b hb
    rcases List.mem_cons.mp hb with e | hm
    · exact .inl e
    · rw [List.mem_singleton.mp hm]; exact .inr hl2
  · intro p hp e
    exact absurd (Heap.lt_size (N p hp).1) (e ▸ Nat.lt_irrefl _)
  · intro c i v u h tk oI hi hv hp hne F N
    exact turn c i v u h tk _ oI hi (by simpa using hv) hp hne F N
  · exact done

theorem for_range {σ : Type} {r : Addr} {a₀ b₀ : Int} {t₀ u₀ v₀ : Tok} {n : Nat} {m₀ : Str → Option Value} (Led : σ → List (Addr × Obj)) (ps : σ → List (Str × Value)) (stored : List Str) (P : Nat → σ → Prop) (c₀ : σ)
    (hh : A.handled = none) (hr : IsRange s.heap r a₀ b₀ 1 t₀ u₀ v₀) (hsmall : Builtin.Range.small a₀ b₀ 1 = true) (hn : Builtin.Range.rangeSize a₀ b₀ 1 = (n : Int)) (F : Fr h₀ env.locals s.heap m₀) (N : News h₀ env.locals s.heap (Led c₀)) (hk : ∀ p ∈ ps c₀, m₀ p.1 = some p.2) (hp : P 0 c₀)
    (turn : ∀ (c : σ) i k t (u : Str → Option Value) h tk I oI, i < n → k = a₀ + (i : Int) → P i c → (∀ p ∈ Led c, p.1 ≠ I) →
      Fr h₀ env.locals h (fun y => if y = x then some (.int k t) else kstB (fun z => if stored.contains z then u z else m₀ z) (ps c) y) → News h₀ env.locals h ((I, oI) :: Led c) →
      wpAny (model prog w) A (execs body env) (TurnPost h₀ env.locals Led ps x stored m₀ (P (i + 1)) I oI { s with heap := h, toks := tk } Q) E { s with heap := h, toks := tk })
    (done : ∀ (c : σ) (u : Str → Option Value) h tk, P n c → Fr h₀ env.locals h (fun y => if y = x then u y else kstB (fun z => if stored.contains z then u z else m₀ z) (ps c) y) → News h₀ env.locals h (Led c) → Q .next { s with heap := h, toks := tk }) :
    wpAny (model prog w) A (pyIter (.ref r)) (fun it s₂ => LoopAtV prog w A h₀ env x body Q E it s₂) E s := by
  refine wpAny_pyIter_range hr hsmall ?_
  refine for_core Led ps stored P c₀ (Walks.range hh s.heap.objs.size a₀ 1 n) ?_ (next_is_new F) (fun i h st => ⟨_, st⟩) (fun b hb => .inl (List.mem_singleton.mp hb)) (by show IsRangeIter _ _ _ _ _; rw [hn]; simpa using Heap.get?_push_size _ rfl) (F.push _) (fun p hp => ⟨Heap.get?_push_of_some _ (N p hp).1, (N p hp).2⟩) ?_ hk hp ?_ done
  · intro hm
    exact absurd F.ns.lt ((List.mem_singleton.mp hm) ▸ Nat.lt_irrefl _)
  · intro p hp e
    exact absurd (Heap.lt_size (N p hp).1) (e ▸ Nat.lt_irrefl _)
  · rintro c i v u h tk oI hi ⟨t, rfl⟩ hp hne F N
    exact turn c i _ t u h tk _ oI hi (by omega) hp hne F N
end
def IN (l : List Nat) : List Int := l.map (fun c : Nat => (c : Int))
theorem IN_length (l : List Nat) : (IN l).length = l.length := by simp [IN]
theorem IN_append (a b : List Nat) : IN (a ++ b) = IN a ++ IN b := by simp [IN]
theorem ints_at {vs : List Value} {ns : List Int} (h : IntsAre vs ns) : ∀ {i : Nat} {v : Value}, vs[i]? = some v → ∃ n t, ns[i]? = some n ∧ v = .int n t := by
  induction h with
  | nil => intro i v h; simp at h
  | cons n t _ ih =>
    intro i v h
    cases i with
    | zero => simp at h; exact ⟨n, t, rfl, h.symm⟩
    | succ i => simp at h; exact ih h
theorem IN_at {vs : List Value} {l : List Nat} (h : IntsAre vs (IN l)) {i : Nat} {v : Value} (hv : vs[i]? = some v) : ∃ c t, l[i]? = some c ∧ v = .int (c : Int) t := by
  obtain ⟨n, t, h1, h2⟩ := ints_at h hv
  unfold IN at h1
  rw [List.getElem?_map] at h1
  cases e : l[i]? with
  | none => rw [e] at h1; cases h1
  | some c => rw [e] at h1; cases h1; exact ⟨c, t, rfl, h2⟩
theorem ints_len {vs : List Value} {l : List Nat} (h : IntsAre vs (IN l)) : vs.length = l.length := by rw [h.length, IN_length]
theorem carried_ints {α : Type} {f : α → Int} : ∀ {as : List α} {ys : List Value}, CarriedAll ys (as.map fun a => PyData.int (f a)) → IntsAre ys (as.map f)
  | [], _, h => by cases h; exact .nil
  | a :: as, _, h => by
    cases h with
    | cons h r =>
      cases h
      exact .cons _ _ (carried_ints r)
theorem carried_strs {α : Type} {f : α → Str} : ∀ {as : List α} {ys : List Value}, CarriedAll ys (as.map fun a => PyData.str (f a)) → StrsAre ys (as.map f)
  | [], _, h => by cases h; exact .nil
  | a :: as, _, h => by
    cases h with
    | cons h r =>
      cases h
      exact .cons _ _ (carried_strs r)
theorem Keeps.rfl' {s : Shared} : Keeps s s := ⟨s.heap, s.toks, rfl, fun _ _ e => e⟩
theorem Keeps.toks {s : Shared} (k : Nat) : Keeps s { s with toks := k } := ⟨s.heap, k, rfl, fun _ _ e => e⟩
theorem News.ofPlain {h₀ h : Heap} {L D : Addr} {m : Str → Option Value} {news : List (Addr × Obj)} {ys : List Value} (F : Fr h₀ L h m) (N : News h₀ L h news) (h0 : h₀.get? D = none) (hp : NewPlain h news D ys.toArray) : ∃ n, News h₀ L h ((D, listOf ys.toArray n) :: news) := by
  obtain ⟨n, e⟩ := hp.1
  refine ⟨n, fun p hm => ?_⟩
  rcases List.mem_cons.mp hm with rfl | hm
  · exact ⟨e, hp.ne_locals F, h0⟩
  · exact N p hm
theorem stopPost {α : Type} {M : Model} {A : Around} {t : Sem α} {Q : α → Shared → Prop} {E : Value → Shared → Prop} {s : Shared} (h : wpAny M A t (fun a s' => Stop (Q a s')) E s) : wpAny M A t Q E s := h
theorem take_snoc {l : List Nat} {i c : Nat} (h : l[i]? = some c) : l.take (i + 1) = l.take i ++ [c] := by rw [List.take_add_one, h]; rfl
theorem off_mem {d : Addr} {l : List (Addr × Obj)} (h : AllLt d l) : ∀ p ∈ l, p.1 ≠ d := fun p hp => Nat.ne_of_lt (by
  induction l with
  | nil => exact absurd hp (List.not_mem_nil)
  | cons q l ih => exact (List.mem_cons.mp hp).elim (fun e => by rw [e]; exact h.1) (fun hp => ih h.2 hp))
end Mine
namespace Mine
section
variable {prog : Program} {w : World} {A : Around} {E : Value → Shared → Prop} {s : Shared} {h₀ : Heap} {L : Addr} {m : Str → Option Value} {env : Env}

/-- what a comprehension over a list asks behind its source: pz the test, d the element -/
def CompAsk {α : Type} (K : ItemKind α) (prog : Program) (w : World) (A : Around) (h₀ : Heap) (L : Addr) (m : Str → Option Value) (env : Env) (elt : Expr) (x : Str) (tests : List Expr) (scope : Scope) (cl : List (Str × Addr)) (pz : α → Bool) (d : α → PyData)
    (cont : Addr → List Value → Heap → Nat → Prop → Prop) (xv : Value) (s₁ : Shared) : Prop :=
  ∃ (news : List (Addr × Obj)) (l : Addr) (vs : List Value) (n : Nat) (as : List α), xv = .ref l ∧ (l, listOf vs.toArray n) ∈ news ∧ AreOf K vs as ∧ as.length ≤ 8192 ∧ Fr h₀ L s₁.heap m ∧ News h₀ L s₁.heap news ∧
    (∀ C a v s₂ m₂ E', a ∈ as → K.is a v → Fr s₁.heap (compEnvC scope cl C env).locals s₂.heap m₂ → (∀ b o, s₁.heap.get? b = some o → s₂.heap.get? b = some o) → m₂ x = some v →
      match tests with
      | [] => pz a = true
      | [c] => wpAny (model prog w) A (isTrue c (compEnvC scope cl C env) (eval c (compEnvC scope cl C env))) (fun ok s₃ => ok = pz a ∧ Keeps s₂ s₃) E' s₂
      | _ => False) ∧
    (∀ C a v s₂ m₂ E', a ∈ as → K.is a v → pz a = true → Fr s₁.heap (compEnvC scope cl C env).locals s₂.heap m₂ → (∀ b o, s₁.heap.get? b = some o → s₂.heap.get? b = some o) → m₂ x = some v → wpAny (model prog w) A (eval elt (compEnvC scope cl C env)) (fun y s₃ => Carried y (d a) ∧ Keeps s₂ s₃) E' s₂) ∧
    (∀ D ys h' tk n', News h₀ L h' ((D, listOf ys.toArray n') :: news) → (∀ p ∈ news, p.1 ≠ D) → cont D ys h' tk (CarriedAll ys ((as.filter pz).map d)))

theorem comp_tests {tests : List Expr} {cenv : Env} {P : Bool} {M : Model} {s₂ : Shared} {Q : Bool → Shared → Prop} {E' : Value → Shared → Prop}
    (h : match tests with
      | [] => Q true s₂
      | [c] => wpAny M A (isTrue c cenv (eval c cenv)) Q E' s₂
      | _ => False) :
    wpAny M A (forIn tests true fun c r => if r = true then do let ok ← isTrue c cenv (eval c cenv); pure (ForInStep.yield ok) else pure (ForInStep.yield r)) Q E' s₂ := by
  match tests, h with
  | [], h => exact wpAny_pure h
  | [c], h =>
    rw [List.forIn_cons]
    exact wpAny_bind (wpAny_bind (wpAny_mono h (fun ok s₃ hk => wpAny_pure (wpAny_pure hk)) fun _ _ e => e))

theorem comp_eval {α : Type} {K : ItemKind α} {elt iter : Expr} {x : Str} {px : Pos} {tests : List Expr} {scope : Scope} {cl : List (Str × Addr)} {pos : Pos} {Q : Value → Shared → Prop} (pz : α → Bool) (d : α → PyData)
    (_F : Fr h₀ L s.heap m) (hh : A.handled = none) (hclos : closureFor scope env = pure cl) (hcell : ∀ y ∈ scope.names, y.2 ≠ .cell) (hkind : scope.kind = .function)
    (hnames : ∀ y ∈ scope.names, y.2 = .local → scope.names.lookup y.1 = some .local) (hx : scope.names.lookup x = some .local) (hs : ∀ x, foldedSetIterable iter env x = pure x)
    (h : wpAny (model prog w) A (eval iter env) (fun xv s₁ => Stop (CompAsk K prog w A h₀ L m env elt x tests scope cl pz d (fun D _ h' tk C => Fr h₀ L h' m → C → Q (.ref D) { s₁ with heap := h', toks := tk }) xv s₁)) E s) :
    wpAny (model prog w) A (eval (.ListComp elt [⟨.Name x px, iter, tests, 0⟩] scope pos) env) Q E s := by
  refine ListComp_DCn (K := K) (pz := pz) (d := d) (m := m) (h₀ := h₀) (L := L) hh hclos hcell hkind hnames hx (wpAny_mono h (fun xv s₁ h₁ => ?_) fun _ _ e => e) hs
  obtain ⟨news, l, vs, n, as, rfl, hl, hi, hz, F, N, ht, he, hc⟩ := h₁
  refine ⟨news, l, vs, as, rfl, News.isList N hl, hi, by rw [sizeLine_eq]; omega, F, N, ?_, ?_, ?_⟩
  · intro C a v s₂ m₂ E' hC ha hv hn hm hk
    have h2 := ht C a v s₂ m₂ E' ha hv (frInComp hn hk hC) hk hm
    refine comp_tests (P := true) ?_
    match tests, h2 with
    | [], h2 => exact ⟨h2.symm, Keeps.rfl'⟩
    | [c], h2 => exact h2
  · intro C a v s₂ m₂ E' hC ha hv hp hn hm hk
    exact he C a v s₂ m₂ E' ha hv hp (frInComp hn hk hC) hk hm
  · intro D ys h' tk F' N' h0 _ hp hca
    obtain ⟨n', N2⟩ := News.ofPlain F' N' h0 hp
    exact hc D ys h' tk n' N2 hp.2 F' hca

theorem comp_asg {α : Type} {K : ItemKind α} {elt iter : Expr} {x y : Str} {px py : Pos} {tests : List Expr} {scope : Scope} {cl : List (Str × Addr)} {pos spos : Pos} {Q : Flow → Shared → Prop} (pz : α → Bool) (d : α → PyData)
    (_F : Fr h₀ L s.heap m) (hsw : swapsWith (.ListComp elt [⟨.Name x px, iter, tests, 0⟩] scope pos) (some (.Name y py)) spos.line env = pure true) (hL : env.locals = L)
    (hh : A.handled = none) (hclos : closureFor scope env = pure cl) (hcell : ∀ z ∈ scope.names, z.2 ≠ .cell) (hkind : scope.kind = .function)
    (hnames : ∀ z ∈ scope.names, z.2 = .local → scope.names.lookup z.1 = some .local) (hx : scope.names.lookup x = some .local)
    (hy : env.kindOf y = some .local) (hp : (env.scope.kind == .class || (env.scope.kind == .module && env.locals != env.globals)) = false) (hs : ∀ x, foldedSetIterable iter env x = pure x)
    (h : wpAny (model prog w) A (eval iter env) (fun xv s₁ => Stop (CompAsk K prog w A h₀ L m env elt x tests scope cl pz d (fun D _ h' tk C => Fr h₀ L h' (fun z => if z = y then some (.ref D) else m z) → C → Q .next { s₁ with heap := h', toks := tk }) xv s₁)) E s) :
    wpAny (model prog w) A (exec (.Assign [.Name y py] (.ListComp elt [⟨.Name x px, iter, tests, 0⟩] scope pos) spos) env) Q E s := by
  refine Assign_ListComp_DCn (K := K) (pz := pz) (d := d) (m := m) (h₀ := h₀) (L := L) hsw hL hh hclos hcell hkind hnames hx hy hp (wpAny_mono h (fun xv s₁ h₁ => ?_) fun _ _ e => e) hs
  obtain ⟨news, l, vs, n, as, rfl, hl, hi, hz, F, N, ht, he, hc⟩ := h₁
  refine ⟨news, l, vs, as, rfl, News.isList N hl, hi, by rw [sizeLine_eq]; omega, F, N, ?_, ?_, ?_⟩
  · intro C a v s₂ m₂ E' hC ha hv hn hm hk
    have h2 := ht C a v s₂ m₂ E' ha hv (frInComp hn hk hC) hk hm
    refine comp_tests (P := true) ?_
    match tests, h2 with
    | [], h2 => exact ⟨h2.symm, Keeps.rfl'⟩
    | [c], h2 => exact h2
  · intro C a v s₂ m₂ E' hC ha hv hp hn hm hk
    exact he C a v s₂ m₂ E' ha hv hp (frInComp hn hk hC) hk hm
  · intro D ys h' tk F' N' h0 _ hp hca
    obtain ⟨n', N2⟩ := News.ofPlain F' N' h0 hp
    exact hc D ys h' tk n' N2 hp.2 F' hca
end
theorem IN_mem {a : Int} {l : List Nat} (h : a ∈ IN l) : ∃ c ∈ l, a = (c : Int) := by
  unfold IN at h
  obtain ⟨c, hc, rfl⟩ := List.mem_map.mp h
  exact ⟨c, hc, rfl⟩
def joinL (sep : List Nat) : List (List Nat) → List Nat
  | [] => []
  | [x] => x
  | x :: y :: r => x ++ sep ++ joinL sep (y :: r)
theorem mkS_app (a b : List Nat) : mkS a ++ mkS b = mkS (a ++ b) := by
  apply Str.ext'
  show (mkS a).cps ++ (mkS b).cps = _
  simp [mkS]
theorem join_mkS (sep : List Nat) : ∀ ps : List (List Nat), Txt.join (mkS sep) (ps.map mkS) = mkS (joinL sep ps) := by
  have h : ∀ ps : List (List Nat), Str.join (mkS sep) (ps.map mkS) = mkS (joinL sep ps) := by
    intro ps
    induction ps with
    | nil => rfl
    | cons x r ih =>
      cases r with
      | nil => rfl
      | cons y r =>
        show mkS x ++ mkS sep ++ Str.join (mkS sep) ((y :: r).map mkS) = _
        rw [ih, mkS_app, mkS_app]; rfl
  intro ps
  rw [← h ps]
  exact StrLaws.glued_eq_join _ _
theorem joinL_nil : ∀ l : List Nat, joinL [] (l.map fun c => [c]) = l
  | [] => rfl
  | [x] => rfl
  | x :: y :: r => by
    show [x] ++ [] ++ joinL [] ((y :: r).map fun c => [c]) = _
    rw [joinL_nil (y :: r)]; rfl
theorem chrs_eq (codes : List Nat) : (((IN codes).filter fun _ => true).map fun n => (⟨#[n.toNat]⟩ : Str)) = (codes.map fun c => [c]).map mkS := by
  rw [List.filter_eq_self.mpr (fun _ _ => rfl)]
  unfold IN
  rw [List.map_map, List.map_map]
  rfl
theorem chrs_weight (codes : List Nat) : ((((codes.map fun c => [c]).map mkS)).map (·.length)).sum = codes.length := by
  induction codes with
  | nil => rfl
  | cons c r ih => simp only [List.map_cons, List.sum_cons, ih, List.length_cons, mkS_length, List.length_nil]; omega
theorem byteArr_IN (codes : List Nat) : byteArr (IN codes) = mkB codes := by
  unfold byteArr IN mkB
  rw [List.map_map]
  rfl
theorem IN_in {codes : List Nat} (h : Small codes) : KBa.In (IN codes) := fun n hn => by
  obtain ⟨c, hc, rfl⟩ := IN_mem hn
  have := h c hc
  omega
section
variable {prog : Program} {w : World} {A : Around} {E : Value → Shared → Prop} {s : Shared} {h₀ : Heap} {L D : Addr} {m : PySem.Str → Option Value} {news : List (Addr × Obj)} {vs : List Value} {n : Nat}
theorem bytes_IN {codes : List Nat} {Q : Value → Shared → Prop} (F : Fr h₀ L s.heap m) (N : News h₀ L s.heap news) (hh : A.handled = none) (hl : (D, listOf vs.toArray n) ∈ news) (hi : IntsAre vs (IN codes)) (hr : Small codes) (hn : codes.length ≤ 8192)
    (h : ∀ h' t' k, Fr h₀ L h' m → News h₀ L h' news → Q (.bytes (mkB codes) t') { s with heap := h', toks := k }) : wpAny (model prog w) A (call (.type "bytes") [.ref D]) Q E s :=
  KBa.make_K F N hh (News.isList N hl) hi (IN_in hr) (by rw [IN_length]; omega) fun h' t' k a b _ => by rw [byteArr_IN]; exact h h' t' k a b
theorem join_chrs {codes : List Nat} {ys : List Value} {x : Str} {t : Tok} {Q : Value → Shared → Prop} (N : News h₀ L s.heap news) (hx : x = mkS []) (hl : (D, listOf ys.toArray n) ∈ news) (hi : CarriedAll ys (((IN codes).filter fun _ => true).map fun n => PyData.str ⟨#[n.toNat]⟩)) (hn : codes.length ≤ 8192)
    (h : ∀ t' k, Q (.str (mkS codes) t') { s with toks := k }) : wpAny (model prog w) A (call (.builtin "str.join") [.str x t, .ref D]) Q E s := by
  have hi2 := carried_strs (f := fun n : Int => (⟨#[n.toNat]⟩ : Str)) hi
  rw [chrs_eq] at hi2
  refine join_listC (ys := (codes.map fun c => [c]).map mkS) (News.isList N hl) (show StrsAre ys _ from hi2) (by rw [hx, mkS_length]; exact Nat.zero_le _) ?_ fun t' k => ?_
  · rw [chrs_weight, List.length_map, List.length_map]; omega
  · rw [hx, join_mkS, joinL_nil]; exact h t' k
end
section
variable {prog : Program} {w : World} {A : Around} {E : Value → Shared → Prop} {s : Shared} {h₀ : Heap} {L D : Addr} {m : PySem.Str → Option Value} {news news' : List (Addr × Obj)} {vs : List Value} {n : Nat} {x : Value}
theorem append_L {Q : Value → Shared → Prop} (F : Fr h₀ L s.heap m) (N : News h₀ L s.heap news) (U : Upd D (listOf vs.toArray n) (listOf (vs ++ [x]).toArray (n + 1)) news news')
    (hz : vs.length ≤ 16777216) (h : ∀ h', Fr h₀ L h' m → News h₀ L h' news' → Q .none { s with heap := h' }) : wpAny (model prog w) A (call (.builtin "list.append") [.ref D, x]) Q E s :=
  append_K (its := vs.toArray) F N (by rw [List.push_toArray]; exact U) h (by rw [sizeLine_eq]; simpa using hz)
theorem item_S {value slice : PySem.Expr} {l : List Nat} {i : Int} {t ui : Tok} {Q : Value → Shared → Prop} {y : Str} (hy : y = mkS l) (h0 : 0 ≤ i) (h1 : i < (l.length : Int)) (hz : l.length ≤ 8192) (h : ∀ t' k c, l[i.toNat]? = some c → Q (.str (mkS [c]) t') { s with toks := k })
    (hs : subscripted slice false (.str y t) (.int i ui) = operate [.str y t, .int i ui] (getItem (.str y t) (.int i ui)) := by with_unfolding_all rfl)
    (ht : ∀ r, letTemporaryGo value (.str y t) r = pure () := by intro _; with_unfolding_all rfl) :
    wpAny (model prog w) A (subscriptTail value slice (.str y t) (.int i ui)) Q E s := by
  subst hy
  have hl : i.toNat < l.length := by omega
  have hc : (mkS l).cps[i.toNat]? = some l[i.toNat] := by simp [mkS, hl]
  refine tail_of_ItemOn ⟨"str", _, F.slot_str_getitem.lookup, typeIs_str _ _ _, P.getItem_str (c := l[i.toNat]) ?_ (StrLaws.at_nonneg h0 hc) ?_⟩ hs ht
  · have a1 : ¬ i < -(2 ^ 63 : Int) := by omega
    have a2 : ¬ i ≥ 2 ^ 63 := by omega
    rw [decide_eq_false a1, decide_eq_false a2]; rfl
  · exact h _ _ _ (List.getElem?_eq_getElem hl)
theorem ord_S {c : Nat} {t : Tok} {Q : Value → Shared → Prop} (h : ∀ t' k, Q (.int (c : Int) t') { s with toks := k }) : wpAny (model prog w) A (call (.builtin "ord") [.str (mkS [c]) t]) Q E s := P.ord_of_char (h _ _)
end
theorem IN_snoc {vs : List Value} {l : List Nat} {n : Int} {t : Tok} (h : IntsAre vs (IN l)) (h0 : 0 ≤ n) : IntsAre (vs ++ [.int n t]) (IN (l ++ [n.toNat])) := by
  rw [IN_append]
  have e : IN [n.toNat] = [n] := by simp only [IN, List.map_cons, List.map_nil]; rw [Int.toNat_of_nonneg h0]
  rw [e]
  exact h.append (.cons _ _ .nil)
theorem lit_menu : Str.ofString "/.a/.b/." = mkS [47, 46, 97, 47, 46, 98, 47, 46] := by decide +kernel
theorem menu_small {i c : Nat} (h : ([47, 46, 97, 47, 46, 98, 47, 46] : List Nat)[i]? = some c) : c ≤ 1114111 := by
  have := List.mem_of_getElem? h
  simp at this
  omega
theorem menuZ (i : Nat) : 0 ≤ ([47, 46, 97, 47, 46, 98, 47, 46] : List Int).getD i 0 ∧ ([47, 46, 97, 47, 46, 98, 47, 46] : List Int).getD i 0 ≤ 1114111 := by
  have h : ∀ n ∈ ([47, 46, 97, 47, 46, 98, 47, 46] : List Int), 0 ≤ n ∧ n ≤ 1114111 := by decide
  rw [List.getD_eq_getElem?_getD]
  cases e : ([47, 46, 97, 47, 46, 98, 47, 46] : List Int)[i]? with
  | none => simp
  | some n => exact h n (List.mem_of_getElem? e)
/-- what the building loops of the laws turn -/
structure SignSt where
  vc : List Value
  vm : List Value
  nc : Nat
  nm : Nat
  size : Int
  ts : Nat
  into : Int
  ti : Nat
def SignSt.ok (c : SignSt) : Prop := ∃ codes more : List Nat, IntsAre c.vc (IN codes) ∧ IntsAre c.vm (IN more) ∧ ((codes.length : Int) + more.length ≤ c.size) ∧ c.size ≤ 40 ∧ (∀ k ∈ codes, k ≤ 1114111) ∧ (∀ k ∈ more, k ≤ 1114111)
theorem SignSt.start {a b ts ti : Nat} : SignSt.ok ⟨[], [], a, b, 0, ts, 0, ti⟩ := ⟨[], [], .nil, .nil, by simp, by simp, by simp, by simp⟩
theorem SignSt.lens {c : SignSt} (h : c.ok) : c.vc.length ≤ 40 ∧ c.vm.length ≤ 40 ∧ c.size ≤ 40 ∧ 0 ≤ c.size := by
  obtain ⟨_, _, a, b, d, e, f, g⟩ := h
  rw [ints_len a, ints_len b]
  omega
theorem abs_nonneg (x : Int) : 0 ≤ (if x < 0 then -x else x) := by split <;> omega
theorem all_snoc {l : List Nat} {n : Int} (h : ∀ k ∈ l, k ≤ 1114111) (h1 : n ≤ 1114111) : ∀ k ∈ l ++ [n.toNat], k ≤ 1114111 := by
  intro k hk
  rcases List.mem_append.mp hk with hk | hk
  · exact h k hk
  · rw [List.mem_singleton.mp hk]; omega
theorem SignSt.addC {c : SignSt} (h : c.ok) {n : Int} {t k ts : Nat} {s2 : Int} (h0 : 0 ≤ n) (h1 : n ≤ 1114111) (h2 : s2 = c.size + 1) (h3 : c.size < 40) {i2 : Int} {ti2 : Nat} : SignSt.ok ⟨c.vc ++ [.int n t], c.vm, k, c.nm, s2, ts, i2, ti2⟩ := by
  obtain ⟨p, q, a, b, d, e, f, g⟩ := h
  refine ⟨p ++ [n.toNat], q, IN_snoc a h0, b, ?_, ?_, all_snoc f h1, g⟩
  · simp only [List.length_append, List.length_singleton]; omega
  · simp only; omega
theorem SignSt.addM {c : SignSt} (h : c.ok) {n : Int} {t k ts : Nat} {s2 : Int} (h0 : 0 ≤ n) (h1 : n ≤ 1114111) (h2 : s2 = c.size + 1) (h3 : c.size < 40) {i2 : Int} {ti2 : Nat} : SignSt.ok ⟨c.vc, c.vm ++ [.int n t], c.nc, k, s2, ts, i2, ti2⟩ := by
  obtain ⟨p, q, a, b, d, e, f, g⟩ := h
  refine ⟨p, q ++ [n.toNat], a, IN_snoc b h0, ?_, ?_, f, all_snoc g h1⟩
  · simp only [List.length_append, List.length_singleton]; omega
  · simp only; omega
theorem SignSt.add0 {c : SignSt} (h : c.ok) {ts : Nat} {s2 : Int} (h2 : s2 = c.size + 1) (h3 : c.size < 40) {i2 : Int} {ti2 : Nat} : SignSt.ok ⟨c.vc, c.vm, c.nc, c.nm, s2, ts, i2, ti2⟩ := by
  obtain ⟨p, q, a, b, d, e, f, g⟩ := h
  exact ⟨p, q, a, b, by simp only; omega, by simp only; omega, f, g⟩
end Mine
namespace Mine
theorem IntsAre.one' (k : Nat) (t : Tok) : IntsAre [.int (k : Int) t] (IN [k]) := .cons _ _ .nil
theorem IntsAre.nil' : IntsAre [] (IN []) := .nil
theorem IntsAre.one46 (t : Tok) : IntsAre [.int 46 t] (IN [46]) := .cons _ _ .nil
theorem IN_filter (pz : Int → Bool) (p : Nat → Bool) (h : ∀ n : Nat, pz (n : Int) = p n) (l : List Nat) : (IN l).filter pz = IN (l.filter p) := by
  unfold IN
  rw [List.filter_map]
  congr 1
  exact List.filter_congr fun n _ => h n
theorem IN_any (l : List Nat) (c : Nat) : (IN l).any (· == (c : Int)) = l.contains c := by
  induction l with
  | nil => rfl
  | cons x r ih =>
    have e : IN (x :: r) = (x : Int) :: IN r := rfl
    rw [e, List.any_cons, List.contains_cons, ih]
    congr 1
    by_cases h : x = c
    · simp [h]
    · rw [beq_eq_false_iff_ne.mpr (by omega), beq_eq_false_iff_ne.mpr (by omega)]
theorem IN_inj : ∀ {a b : List Nat}, IN a = IN b → a = b
  | [], [], _ => rfl
  | [], _ :: _, h => by cases h
  | _ :: _, [], h => by cases h
  | x :: a, y :: b, h => by
    have e1 : IN (x :: a) = (x : Int) :: IN a := rfl
    have e2 : IN (y :: b) = (y : Int) :: IN b := rfl
    rw [e1, e2, List.cons.injEq] at h
    rw [IN_inj h.2]
    congr 1
    omega
theorem IN_take (l : List Nat) (k : Nat) : (IN l).take k = IN (l.take k) := by unfold IN; rw [List.map_take]
theorem IN_drop (l : List Nat) (k : Nat) : (IN l).drop k = IN (l.drop k) := by unfold IN; rw [List.map_drop]
theorem IN_getD (l : List Nat) (k : Nat) : (IN l).getD k 0 = ((l.getD k 0 : Nat) : Int) := by
  unfold IN
  rw [List.getD_eq_getElem?_getD, List.getD_eq_getElem?_getD, List.getElem?_map]
  cases l[k]? <;> rfl
theorem succ_cast (k : Nat) : (k : Int) + 1 = ((k + 1 : Nat) : Int) := by omega
section
variable {prog : Program} {w : World} {A : Around} {E : Value → Shared → Prop} {s : Shared} {h₀ : Heap} {L D D2 : Addr} {m : PySem.Str → Option Value} {news : List (Addr × Obj)} {vs ws : List Value} {n n2 : Nat} {l l2 : List Nat} {Q : Value → Shared → Prop} {value slice : PySem.Expr}
theorem len_L (N : News h₀ L s.heap news) (hm : (D, listOf vs.toArray n) ∈ news) (hi : IntsAre vs (IN l)) (hz : l.length ≤ 16384) (h : ∀ t' k, Q (.int (l.length : Int) t') { s with toks := k }) : wpAny (model prog w) A (call (.builtin "len") [.ref D]) Q E s :=
  kst_len N hm (ints_len hi) (by omega) (h _ _)
theorem item_L {k : Nat} {x : Int} {u : Tok} (N : News h₀ L s.heap news) (hm : (D, listOf vs.toArray n) ∈ news) (hi : IntsAre vs (IN l)) (hx : x = (k : Int)) (hk : k < l.length) (hz : l.length ≤ 16384) (h : ∀ t, Q (.int ((l.getD k 0 : Nat) : Int) t) s)
    (hs : subscripted slice false (.ref D) (.int x u) = operate [.ref D, .int x u] (getItem (.ref D) (.int x u)) := by with_unfolding_all rfl) :
    wpAny (model prog w) A (subscriptTail value slice (.ref D) (.int x u)) Q E s :=
  item_anyK (News.isList N hm) hi (by omega) (by rw [IN_length]; omega) (by omega) (fun t => by
    have e : x.toNat = k := by omega
    rw [e, IN_getD]; exact h t) hs
theorem notin_L {c : Nat} {x : Int} {u : Tok} (N : News h₀ L s.heap news) (hm : (D, listOf vs.toArray n) ∈ news) (hi : IntsAre vs (IN l)) (hx : x = (c : Int)) (h : Q (.bool (decide (c ∉ l))) s) : wpAny (model prog w) A (compareOp .NotIn (.int x u) (.ref D)) Q E s :=
  notin_list_ints (News.isList N hm) hi (by
    subst hx
    rw [IN_any]
    have e : (!l.contains c) = decide (c ∉ l) := by
      by_cases hc : c ∈ l
      · simp [hc]
      · simp [hc]
    rw [e]; exact h)
theorem ne_L (N : News h₀ L s.heap news) (hm : (D, listOf vs.toArray n) ∈ news) (hi : IntsAre vs (IN l)) (hm2 : (D2, listOf ws.toArray n2) ∈ news) (hj : IntsAre ws (IN l2)) (hu : A.units + 64 < cLine) (h : Q (.bool (decide (l ≠ l2))) s) :
    wpAny (model prog w) A (compareOp .NotEq (.ref D) (.ref D2)) Q E s :=
  ke_ne_ints (News.isList N hm) (News.isList N hm2) hi hj hu (by
    have e : (!decide (IN l = IN l2)) = decide (l ≠ l2) := by
      by_cases hc : l = l2
      · simp [hc]
      · have : IN l ≠ IN l2 := fun x => hc (IN_inj x)
        simp [hc, this]
    rw [e]; exact h)
theorem min_L (F : Fr h₀ L s.heap m) (N : News h₀ L s.heap news) (hh : A.handled = none) (hm : (D, listOf vs.toArray n) ∈ news) (hi : IntsAre vs (IN l)) (hne : 0 < l.length)
    (h : ∀ h' M (t : Tok) tk, Fr h₀ L h' m → News h₀ L h' news → M ∈ l → (∀ a, a ∈ l → M ≤ a) → Q (.int (M : Int) t) { s with heap := h', toks := tk }) : wpAny (model prog w) A (call (.builtin "min") [.ref D]) Q E s :=
  kso_min F N (News.isList N hm) hi (by rw [IN_length]; exact hne) hh fun h' M t tk F' N' h1 h2 => by
    obtain ⟨c, hc, rfl⟩ := IN_mem h1
    exact h h' c t tk F' N' hc fun a ha => by
      have := h2 (a : Int) (List.mem_map.mpr ⟨a, ha, rfl⟩)
      omega
theorem add_L (F : Fr h₀ L s.heap m) (N : News h₀ L s.heap news) (hm : (D, listOf vs.toArray n) ∈ news) (hm2 : (D2, listOf ws.toArray n2) ∈ news) (hi : IntsAre vs (IN l)) (hj : IntsAre ws (IN l2)) (hz : l.length + l2.length ≤ 16384)
    (h : ∀ D' us h', Fr h₀ L h' m → News h₀ L h' ((D', listOf (List.toArray us) 0) :: news) → (∀ p ∈ news, p.1 < D') → IntsAre us (IN (l ++ l2)) → Q (.ref D') { s with heap := h' }) : wpAny (model prog w) A (binaryOp .Add (.ref D) (.ref D2)) Q E s :=
  kmk_add_ints F N (News.isList N hm) (News.isList N hm2) hi hj (fun D' us h' F' N' l1 hI => h D' us h' F' N' l1 (by rw [IN_append]; exact hI)) (by rw [IN_length, IN_length, sizeLine_eq]; omega)
theorem upto_L {k : Nat} {y : Int} {u : Tok} (F : Fr h₀ L s.heap m) (N : News h₀ L s.heap news) (hm : (D, listOf vs.toArray n) ∈ news) (hi : IntsAre vs (IN l)) (hy : y = (k : Int)) (hz : l.length ≤ 16384)
    (h : ∀ D' us h', Fr h₀ L h' m → News h₀ L h' ((D', listOf (List.toArray us) 0) :: news) → (∀ p ∈ news, p.1 < D') → IntsAre us (IN (l.take k)) → Q (.ref D') { s with heap := h' })
    (hs : subscripted slice false (.ref D) (.ref s.heap.objs.size) = operate [.ref s.heap.objs.size, .ref D] (getItem (.ref D) (.ref s.heap.objs.size)) := by with_unfolding_all rfl) (ht : ∀ r, letTemporaryGo value (.ref D) r = pure () := by intro _; with_unfolding_all rfl) :
    wpAny (model prog w) A (subscriptTail value slice (.ref D) (.ref s.heap.objs.size)) Q E { s with heap := s.heap.push { cls := .type "slice", data := .fields #[.none, .int y u, .none] } } := by
  refine kmk_slice_ints (c := ((IN l).take y.toNat).length) (lo := none) (hi := some y) F N (News.isList N hm) .none (.int _ _) hi (kmk_upto hi (by omega)) rfl (fun D' us h' F' N' l1 hI _ _ => h D' us h' F' N' l1 ?_) hs ht (by rw [List.size_toArray, ints_len hi, sizeLine_eq]; omega)
  have e : y.toNat = k := by omega
  rw [e, IN_take] at hI
  exact hI
theorem from_L {k : Nat} {x : Int} {u : Tok} (F : Fr h₀ L s.heap m) (N : News h₀ L s.heap news) (hm : (D, listOf vs.toArray n) ∈ news) (hi : IntsAre vs (IN l)) (hx : x = (k : Int)) (hz : l.length ≤ 16384)
    (h : ∀ D' us h', Fr h₀ L h' m → News h₀ L h' ((D', listOf (List.toArray us) 0) :: news) → (∀ p ∈ news, p.1 < D') → IntsAre us (IN (l.drop k)) → Q (.ref D') { s with heap := h' })
    (hs : subscripted slice false (.ref D) (.ref s.heap.objs.size) = operate [.ref s.heap.objs.size, .ref D] (getItem (.ref D) (.ref s.heap.objs.size)) := by with_unfolding_all rfl) (ht : ∀ r, letTemporaryGo value (.ref D) r = pure () := by intro _; with_unfolding_all rfl) :
    wpAny (model prog w) A (subscriptTail value slice (.ref D) (.ref s.heap.objs.size)) Q E { s with heap := s.heap.push { cls := .type "slice", data := .fields #[.int x u, .none, .none] } } := by
  refine kmk_slice_ints (c := ((IN l).drop x.toNat).length) (lo := some x) (hi := none) F N (News.isList N hm) (.int _ _) .none hi (kmk_from hi (by omega)) rfl (fun D' us h' F' N' l1 hI _ _ => h D' us h' F' N' l1 ?_) hs ht (by rw [List.size_toArray, ints_len hi, sizeLine_eq]; omega)
  have e : x.toNat = k := by omega
  rw [e, IN_drop] at hI
  exact hI
end
/-! tuples of two -/
section
variable {A : Around} {s : Shared} {l m : List Nat} {t u : Tok}
theorem eqAt_S : SeqAt.EqAt A s (.str (mkS l) t) (.str (mkS m) u) (decide (l = m)) := by
  have h := SeqAt.EqAt.str_str (A := A) (s := s) (mkS l) t (mkS m) u
  have e : (mkS l == mkS m) = decide (l = m) := by
    by_cases hc : l = m
    · simp [hc]
    · have : mkS l ≠ mkS m := fun x => hc (mkS_inj x)
      simp [hc, this]
  rw [e] at h; exact h
theorem eqAt_B (h1 : Small l) (h2 : Small m) : SeqAt.EqAt A s (.bytes (mkB l) t) (.bytes (mkB m) u) (decide (l = m)) := fun prog w E Q h => by
  unfold eqBool
  refine wpAny_holding ?_
  refine wpAny_ite_split (fun hab => ?_) (fun _ => ?_)
  · have e : Value.bytes (mkB l) t = .bytes (mkB m) u := eq_of_beq hab
    have e2 : l = m := mkB_inj h1 h2 (by injection e)
    exact wpAny_bind (wpAny_rule (wpAny_pure (by simpa [e2] using h)))
  · exact wpAny_bind (eq_B (A := A) (prog := prog) (w := w) (t := t) (u := u) (l := l) (m := m) (s := s) rfl rfl h1 h2 (wpAny_truthy_bool h))
end
section
variable {prog : Program} {w : World} {A : Around} {E : Value → Shared → Prop} {s : Shared} {h₀ : Heap} {L D D2 : Addr} {news : List (Addr × Obj)} {v1 v2 u1 u2 : Value} {p q : Prop} [Decidable p] [Decidable q] {Q : Value → Shared → Prop}
theorem pair_all {b c : Bool} : ((List.range (min ([v1, v2] : List Value).toArray.size ([u1, u2] : List Value).toArray.size)).all (fun j => if j = 0 then b else c) && ([v1, v2] : List Value).toArray.size == ([u1, u2] : List Value).toArray.size) = (b && c) := by
  have e : List.range (min ([v1, v2] : List Value).toArray.size ([u1, u2] : List Value).toArray.size) = [0, 1] := rfl
  rw [e]
  simp
theorem tup_is (N : News h₀ L s.heap news) {vs : List Value} (hm : (D, tupO vs) ∈ news) : s.heap.IsTuple D vs.toArray := ⟨_, (N _ hm).1, rfl, 0, rfl⟩
theorem pair_eq (N : News h₀ L s.heap news) (hm : (D, tupO [v1, v2]) ∈ news) (hm2 : (D2, tupO [u1, u2]) ∈ news) (hu : A.units < cLine) (e1 : SeqAt.EqAt A.in1 s v1 u1 (decide p)) (e2 : SeqAt.EqAt A.in1 s v2 u2 (decide q)) (h : Q (.bool (decide (p ∧ q))) s) :
    wpAny (model prog w) A (compareOp .Eq (.ref D) (.ref D2)) Q E s := by
  refine SeqAt.RcAt.tuples (e := fun j => if j = 0 then decide p else decide q) (tup_is N hm) (tup_is N hm2) hu ?_ prog w E Q ?_
  · intro j h1 h2
    have : j = 0 ∨ j = 1 := by simp at h1; omega
    rcases this with rfl | rfl
    · exact e1
    · exact e2
  · rw [pair_all]
    have e : (decide p && decide q) = decide (p ∧ q) := by by_cases hp : p <;> by_cases hq : q <;> simp [hp, hq]
    rw [e]; exact h
theorem pair_ne (N : News h₀ L s.heap news) (hm : (D, tupO [v1, v2]) ∈ news) (hm2 : (D2, tupO [u1, u2]) ∈ news) (hu : A.units < cLine) (e1 : SeqAt.EqAt A.in1 s v1 u1 (decide p)) (e2 : SeqAt.EqAt A.in1 s v2 u2 (decide q)) (h : Q (.bool (decide (¬ (p ∧ q)))) s) :
    wpAny (model prog w) A (compareOp .NotEq (.ref D) (.ref D2)) Q E s := by
  refine SeqAt.RcNeAt.tuples (e := fun j => if j = 0 then decide p else decide q) (tup_is N hm) (tup_is N hm2) hu ?_ prog w E Q ?_
  · intro j h1 h2
    have : j = 0 ∨ j = 1 := by simp at h1; omega
    rcases this with rfl | rfl
    · exact e1
    · exact e2
  · rw [pair_all]
    have e : (!(decide p && decide q)) = decide (¬ (p ∧ q)) := by by_cases hp : p <;> by_cases hq : q <;> simp [hp, hq]
    rw [e]; exact h
end
section
variable {prog : Program} {w : World} {A : Around} {E : Value → Shared → Prop} {s : Shared} {h₀ : Heap} {L D D2 : Addr} {news : List (Addr × Obj)} {a b c d : List Nat} {t1 t2 t3 t4 : Tok} {Q : Value → Shared → Prop}
theorem pair_eqS (N : News h₀ L s.heap news) (hm : (D, tupO [.str (mkS a) t1, .str (mkS b) t2]) ∈ news) (hm2 : (D2, tupO [.str (mkS c) t3, .str (mkS d) t4]) ∈ news) (hu : A.units < cLine) (h : Q (.bool (decide (a = c ∧ b = d))) s) :
    wpAny (model prog w) A (compareOp .Eq (.ref D) (.ref D2)) Q E s := pair_eq N hm hm2 hu eqAt_S eqAt_S h
theorem pair_neS (N : News h₀ L s.heap news) (hm : (D, tupO [.str (mkS a) t1, .str (mkS b) t2]) ∈ news) (hm2 : (D2, tupO [.str (mkS c) t3, .str (mkS d) t4]) ∈ news) (hu : A.units < cLine) (h : Q (.bool (decide (¬ (a = c ∧ b = d)))) s) :
    wpAny (model prog w) A (compareOp .NotEq (.ref D) (.ref D2)) Q E s := pair_ne N hm hm2 hu eqAt_S eqAt_S h
theorem pair_eqB (N : News h₀ L s.heap news) (hm : (D, tupO [.bytes (mkB a) t1, .bytes (mkB b) t2]) ∈ news) (hm2 : (D2, tupO [.bytes (mkB c) t3, .bytes (mkB d) t4]) ∈ news) (hu : A.units < cLine) (h1 : Small a) (h2 : Small b) (h3 : Small c) (h4 : Small d) (h : Q (.bool (decide (a = c ∧ b = d))) s) :
    wpAny (model prog w) A (compareOp .Eq (.ref D) (.ref D2)) Q E s := pair_eq N hm hm2 hu (eqAt_B h1 h3) (eqAt_B h2 h4) h
theorem pair_neB (N : News h₀ L s.heap news) (hm : (D, tupO [.bytes (mkB a) t1, .bytes (mkB b) t2]) ∈ news) (hm2 : (D2, tupO [.bytes (mkB c) t3, .bytes (mkB d) t4]) ∈ news) (hu : A.units < cLine) (h1 : Small a) (h2 : Small b) (h3 : Small c) (h4 : Small d) (h : Q (.bool (decide (¬ (a = c ∧ b = d)))) s) :
    wpAny (model prog w) A (compareOp .NotEq (.ref D) (.ref D2)) Q E s := pair_ne N hm hm2 hu (eqAt_B h1 h3) (eqAt_B h2 h4) h
end
theorem Small.tk {a : List Nat} (h : Small a) (k : Nat) : Small (a.take k) := h.sub fun _ hc => List.mem_of_mem_take hc
theorem Small.dr {a : List Nat} (h : Small a) (k : Nat) : Small (a.drop k) := h.sub fun _ hc => List.mem_of_mem_drop hc
theorem range_n (n : Nat) : Builtin.Range.rangeSize 0 (n : Int) 1 = (n : Int) := by
  unfold Builtin.Range.rangeSize
  rw [if_pos (by decide)]
  rw [Int.ediv_one]
  split <;> omega
theorem range_small (n : Nat) (h : n ≤ 16384) : Builtin.Range.small 0 (n : Int) 1 = true := by
  unfold Builtin.Range.small
  rw [range_n]
  simp [Builtin.Range.rangeFitsLong]
  omega
theorem int_bne (a b : Int) : (a != b) = decide (a ≠ b) := by by_cases h : a = b <;> simp [h]
theorem nat46 (n : Nat) : decide ((n : Int) ≠ 46) = (n != 46) := by
  by_cases h : n = 46
  · subst h; rfl
  · have : (n : Int) ≠ 46 := by omega
    simp [h, this]
theorem nat4647 (n : Nat) : decide ((n : Int) ≠ 46 ∧ (n : Int) ≠ 47) = decide (n ≠ 46 ∧ n ≠ 47) := by
  have e : ((n : Int) ≠ 46 ∧ (n : Int) ≠ 47) ↔ (n ≠ 46 ∧ n ≠ 47) := by omega
  exact decide_eq_decide.mpr e
theorem IN_ne {l : List Nat} (h : decide (IN l = []) = false) : l ≠ [] := fun e => by rw [e] at h; cases h
theorem IN_eq {l : List Nat} (h : ¬ (decide (IN l = []) = false)) : l = [] := by
  by_cases hl : IN l = []
  · exact List.map_eq_nil_iff.mp hl
  · exact absurd (decide_eq_false hl) h
theorem IN_eq' {l : List Nat} (h : decide (IN l = []) = true) : l = [] := List.map_eq_nil_iff.mp (of_decide_eq_true h)
/-- no sign above the last one -/
def Cps (l : List Nat) : Prop := ∀ c ∈ l, c ≤ 1114111
theorem Cps.sub {a b : List Nat} (h : Cps a) (hb : ∀ c ∈ b, c ∈ a) : Cps b := fun c hc => h c (hb c hc)
theorem Cps.append {a b : List Nat} (ha : Cps a) (hb : Cps b) : Cps (a ++ b) := fun c hc => (List.mem_append.mp hc).elim (ha c) (hb c)
theorem Cps.tk {a : List Nat} (h : Cps a) (k : Nat) : Cps (a.take k) := h.sub fun _ hc => List.mem_of_mem_take hc
theorem Cps.dr {a : List Nat} (h : Cps a) (k : Nat) : Cps (a.drop k) := h.sub fun _ hc => List.mem_of_mem_drop hc
theorem Cps.tl {a : List Nat} (h : Cps a) : Cps (tlL a) := h.sub fun _ hc => List.mem_of_mem_drop hc
end Mine
namespace Mine
/-! a list of numbers cut at a number -/
def splitL (c : Nat) : List Nat → List (List Nat)
  | [] => [[]]
  | x :: l => if x = c then [] :: splitL c l else (x :: (splitL c l).headD []) :: (splitL c l).tail
theorem splitL_cons (c : Nat) (l : List Nat) : ∃ p ps, splitL c l = p :: ps := by
  cases l with
  | nil => exact ⟨_, _, rfl⟩
  | cons x l => unfold splitL; split <;> exact ⟨_, _, rfl⟩
theorem splitL_ne (c : Nat) (l : List Nat) : splitL c l ≠ [] := by
  obtain ⟨p, ps, e⟩ := splitL_cons c l
  rw [e]; simp
theorem splitL_app (c : Nat) (b : List Nat) : ∀ a : List Nat, splitL c (a ++ c :: b) = splitL c a ++ splitL c b
  | [] => by simp [splitL]
  | x :: a => by
    have ih := splitL_app c b a
    obtain ⟨p, ps, e⟩ := splitL_cons c a
    rw [List.cons_append]
    have d : ∀ r, splitL c (x :: r) = if x = c then [] :: splitL c r else (x :: (splitL c r).headD []) :: (splitL c r).tail := fun _ => rfl
    rw [d, d, ih, e]
    split <;> rfl
theorem splitL_none {c : Nat} : ∀ {l : List Nat}, c ∉ l → splitL c l = [l]
  | [], _ => rfl
  | x :: l, h => by
    have h1 : x ≠ c := fun e => h (by rw [e]; exact .head _)
    have ih := splitL_none (c := c) (l := l) fun hm => h (.tail _ hm)
    unfold splitL
    rw [if_neg h1, ih]; rfl
theorem splitL_length (c : Nat) : ∀ l : List Nat, (splitL c l).length ≤ l.length + 1
  | [] => by simp [splitL]
  | x :: l => by
    have ih := splitL_length c l
    obtain ⟨p, ps, e⟩ := splitL_cons c l
    unfold splitL
    split
    · simp only [List.length_cons]; omega
    · rw [e] at ih ⊢; simp only [List.length_cons, List.tail_cons] at *; omega
theorem splitL_mem {c : Nat} : ∀ {l : List Nat} {p : List Nat}, p ∈ splitL c l → c ∉ p ∧ ∀ x ∈ p, x ∈ l
  | [], p, h => by
    have : p = [] := by simpa [splitL] using h
    subst this; exact ⟨by simp, by simp⟩
  | x :: l, p, h => by
    obtain ⟨q, qs, e⟩ := splitL_cons c l
    have ihq := splitL_mem (c := c) (l := l) (p := q) (by rw [e]; exact .head _)
    unfold splitL at h
    split at h
    · rcases List.mem_cons.mp h with h | h
      · subst h; exact ⟨by simp, by simp⟩
      · have ih := splitL_mem (c := c) (l := l) h
        exact ⟨ih.1, fun y hy => .tail _ (ih.2 y hy)⟩
    · rename_i hx
      rw [e] at h
      rcases List.mem_cons.mp h with h | h
      · subst h
        refine ⟨?_, ?_⟩
        · intro hm
          rcases List.mem_cons.mp hm with h1 | h1
          · exact hx h1.symm
          · exact ihq.1 h1
        · intro y hy
          rcases List.mem_cons.mp hy with h1 | h1
          · rw [h1]; exact .head _
          · exact .tail _ (ihq.2 y h1)
      · have ih := splitL_mem (c := c) (l := l) (p := p) (by rw [e]; exact .tail _ h)
        exact ⟨ih.1, fun y hy => .tail _ (ih.2 y hy)⟩
theorem splitL_len {c : Nat} : ∀ {l : List Nat} {p : List Nat}, p ∈ splitL c l → p.length ≤ l.length
  | [], p, h => by
    have : p = [] := by simpa [splitL] using h
    subst this; simp
  | x :: l, p, h => by
    obtain ⟨q, qs, e⟩ := splitL_cons c l
    have ihq := splitL_len (c := c) (l := l) (p := q) (by rw [e]; exact .head _)
    unfold splitL at h
    split at h
    · rcases List.mem_cons.mp h with h | h
      · subst h; simp
      · have ih := splitL_len (c := c) (l := l) h
        simp only [List.length_cons]; omega
    · rw [e] at h
      rcases List.mem_cons.mp h with h | h
      · subst h; simp only [List.length_cons, List.headD_cons]; omega
      · have ih := splitL_len (c := c) (l := l) (p := p) (by rw [e]; exact .tail _ h)
        simp only [List.length_cons]; omega
/-- what is joined and bears no cut inside is the cutting -/
theorem splitL_join (c : Nat) : ∀ ps : List (List Nat), ps ≠ [] → (∀ p ∈ ps, c ∉ p) → splitL c (joinL [c] ps) = ps
  | [], h, _ => absurd rfl h
  | [p], _, h => splitL_none (h p (.head _))
  | p :: q :: r, _, h => by
    have e : joinL [c] (p :: q :: r) = p ++ c :: joinL [c] (q :: r) := by
      show p ++ [c] ++ joinL [c] (q :: r) = _
      rw [List.append_assoc]; rfl
    rw [e, splitL_app, splitL_none (h p (.head _)), splitL_join c (q :: r) (by simp) fun x hx => h x (.tail _ hx)]
    rfl
theorem join_splitL (c : Nat) : ∀ l : List Nat, joinL [c] (splitL c l) = l
  | [] => rfl
  | x :: l => by
    have ih := join_splitL c l
    obtain ⟨p, ps, e⟩ := splitL_cons c l
    unfold splitL
    rw [e] at ih ⊢
    split
    · rename_i hx
      subst hx
      show [] ++ [x] ++ joinL [x] (p :: ps) = _
      rw [ih]; rfl
    · cases ps with
      | nil =>
        have : p = l := ih
        rw [← this]; rfl
      | cons q r =>
        have ih' : p ++ [c] ++ joinL [c] (q :: r) = l := ih
        show (x :: p) ++ [c] ++ joinL [c] (q :: r) = _
        rw [← ih']; rfl
/-! the texts' split -/
open Builtin Builtin.Str in
theorem occ_fold (l : List Nat) (c : Nat) : ∀ (m a : Nat) (st : Array Nat × Nat), a + m = l.length + 1 → st.2 ≤ a → st.1.size ≤ a →
    (forIn (List.range' a m) st (StrLaws.occBody (mkS l) (mkS [c]) (mkS l).length ((mkS l).length + 1))).run.fst.toList = st.1.toList ++ (List.range' a m).filter fun i => l[i]? == some c
  | 0, a, st, _, _, _ => by simp
  | m + 1, a, st, h, h1, h2 => by
    rw [List.range'_succ, List.forIn_cons, List.filter_cons]
    unfold StrLaws.occBody
    by_cases hc : l[a]? = some c
    · have hl : a < l.length := (List.getElem?_eq_some_iff.mp hc).1
      have ht : ((st.fst.size < (mkS l).length + 1 ∧ st.snd ≤ a) ∧ a + (mkS [c]).length ≤ (mkS l).length) ∧ subAt (mkS l) (mkS [c]) a = true :=
        ⟨⟨⟨by rw [mkS_length]; omega, h1⟩, by rw [mkS_length, mkS_length, List.length_singleton]; omega⟩, (subAt_one l c a).mpr hc⟩
      rw [if_pos ht, hc]
      have ih := occ_fold l c m (a + 1) (st.fst.push a, a + (mkS [c]).length) (by omega) (by rw [mkS_length, List.length_singleton]; omega) (by simp; omega)
      refine ih.trans ?_
      simp
    · have ht : ¬ (((st.fst.size < (mkS l).length + 1 ∧ st.snd ≤ a) ∧ a + (mkS [c]).length ≤ (mkS l).length) ∧ subAt (mkS l) (mkS [c]) a = true) := fun x => hc ((subAt_one l c a).mp x.2)
      rw [if_neg ht]
      have ih := occ_fold l c m (a + 1) (st.fst, st.snd) (by omega) (by show st.snd ≤ a + 1; omega) (by show st.fst.size ≤ a + 1; omega)
      refine ih.trans ?_
      rw [show (l[a]? == some c) = false from beq_eq_false_iff_ne.mpr hc]
      rfl
open Builtin Builtin.Str in
theorem occ_all (l : List Nat) (c : Nat) : occurrences (mkS l) (mkS [c]) 0 (mkS l).length ((mkS l).length + 1) = (List.range' 0 (l.length + 1)).filter fun i => l[i]? == some c := by
  rw [StrLaws.occ_eq]
  have h := occ_fold l c (l.length + 1) 0 (#[], 0) (by omega) (Nat.le_refl _) (Nat.le_refl _)
  rw [show (mkS l).length + 1 - 0 = l.length + 1 from by rw [mkS_length]; rfl]
  simpa using h
open Builtin Builtin.Str in
theorem sub_mkS (l : List Nat) (a b : Nat) : strSub (mkS l) a b = mkS ((l.drop a).take (b - a)) := by
  apply Str.ext'
  apply Array.toList_inj.mp
  rw [StrLaws.strSub_toList, mkS_cps, mkS_cps]
theorem headStep (l : List Nat) {a e : Nat} (ha : a < l.length) (he : a + 1 ≤ e) : (l.drop a).take (e - a) = l[a] :: (l.drop (a + 1)).take (e - (a + 1)) := by
  rw [List.drop_eq_getElem_cons ha, show e - a = (e - (a + 1)) + 1 from by omega, List.take_succ_cons]
open Builtin Builtin.Str in
theorem parts_all (l : List Nat) (c : Nat) : ∀ (m a : Nat), a + m = l.length + 1 →
    StrLaws.partsFrom (mkS l) 1 a ((List.range' a m).filter fun i => l[i]? == some c) = (splitL c (l.drop a)).map mkS
  | 0, a, h => by
    rw [List.drop_of_length_le (by omega)]
    show [strSub (mkS l) a (mkS l).length] = _
    rw [sub_mkS, List.drop_of_length_le (by omega), List.take_nil]; rfl
  | m + 1, a, h => by
    rw [List.range'_succ, List.filter_cons]
    by_cases hl : a < l.length
    · have ih := parts_all l c m (a + 1) (by omega)
      rw [List.drop_eq_getElem_cons hl, List.getElem?_eq_getElem hl]
      unfold splitL
      by_cases hc : l[a] = c
      · rw [if_pos (by simp [hc]), if_pos hc]
        show strSub (mkS l) a a :: StrLaws.partsFrom (mkS l) 1 (a + 1) _ = _
        rw [ih, sub_mkS, Nat.sub_self, List.take_zero]; rfl
      · rw [if_neg (by simp [hc]), if_neg hc]
        obtain ⟨p, ps, e⟩ := splitL_cons c (l.drop (a + 1))
        rw [e] at ih ⊢
        have hge : ∀ k ∈ (List.range' (a + 1) m).filter (fun i => l[i]? == some c), a + 1 ≤ k := by
          intro k hk
          have := (List.mem_filter.mp hk).1
          simp [List.mem_range'] at this
          omega
        revert ih hge
        generalize (List.range' (a + 1) m).filter (fun i => l[i]? == some c) = cuts
        intro ih hge
        cases cuts with
        | nil =>
          have i1 : [strSub (mkS l) (a + 1) (mkS l).length] = (p :: ps).map mkS := ih
          show [strSub (mkS l) a (mkS l).length] = _
          rw [sub_mkS] at i1 ⊢
          rw [mkS_length] at i1 ⊢
          rw [headStep l hl (by omega)]
          rw [List.map_cons, List.cons.injEq] at i1
          have i2 := mkS_inj i1.1
          have i3 : ps = [] := List.map_eq_nil_iff.mp i1.2.symm
          rw [i2, i3]; rfl
        | cons k r =>
          have i1 : strSub (mkS l) (a + 1) k :: StrLaws.partsFrom (mkS l) 1 (k + 1) r = (p :: ps).map mkS := ih
          show strSub (mkS l) a k :: StrLaws.partsFrom (mkS l) 1 (k + 1) r = _
          rw [sub_mkS] at i1 ⊢
          rw [headStep l hl (hge k (.head _))]
          rw [List.map_cons, List.cons.injEq] at i1
          have i2 := mkS_inj i1.1
          rw [i1.2, i2]; rfl
    · have hm : m = 0 := by omega
      subst hm
      rw [List.getElem?_eq_none (by omega), List.drop_of_length_le (by omega)]
      show [strSub (mkS l) a (mkS l).length] = _
      rw [sub_mkS, List.drop_of_length_le (by omega), List.take_nil]; rfl
open Builtin Builtin.Str in
theorem split_mkS (l : List Nat) (c : Nat) : Txt.split (mkS l) (mkS [c]) = (splitL c l).map mkS := by
  have e : partsBetween (mkS l) (occurrences (mkS l) (mkS [c]) 0 (mkS l).length ((mkS l).length + 1)) (mkS [c]).length = (splitL c l).map mkS := by
    rw [occ_all, StrLaws.partsBetween_eq]
    have h := parts_all l c (l.length + 1) 0 (by omega)
    rwa [List.drop_zero] at h
  have no : c ∉ l → [mkS l] = (splitL c l).map mkS := fun h => by rw [splitL_none h]; rfl
  unfold Txt.split
  split
  · rename_i h
    refine no fun hc => ?_
    obtain ⟨i, hi⟩ := List.mem_iff_getElem?.mp hc
    have hs := (subAt_one l c i).mpr hi
    rcases Bool.or_eq_true_iff.mp h with h | h
    · have h1 := of_decide_eq_true h
      rw [mkS_length, mkS_length] at h1
      have := (List.getElem?_eq_some_iff.mp hi).1
      rw [List.length_singleton] at h1; omega
    · have h1 := of_decide_eq_true h
      have := PySem.W.kind_le _ _ hs
      omega
  · split
    · rename_i h
      refine no fun hc => ?_
      obtain ⟨i, hi⟩ := List.mem_iff_getElem?.mp hc
      rw [occ_all] at h
      have h1 := List.isEmpty_iff.mp h
      have : i ∈ (List.range' 0 (l.length + 1)).filter fun i => l[i]? == some c := List.mem_filter.mpr ⟨by
        have := (List.getElem?_eq_some_iff.mp hi).1
        simp [List.mem_range']; omega, by simp [hi]⟩
      rw [h1] at this; cases this
    · exact e
end Mine
namespace Mine
/-! lists of texts -/
def SL (ps : List (List Nat)) : List Str := ps.map mkS
theorem SL_length (ps : List (List Nat)) : (SL ps).length = ps.length := by simp [SL]
theorem SL_app (a b : List (List Nat)) : SL (a ++ b) = SL a ++ SL b := by simp [SL]
theorem SL_inj : ∀ {a b : List (List Nat)}, SL a = SL b → a = b
  | [], [], _ => rfl
  | [], _ :: _, h => by cases h
  | _ :: _, [], h => by cases h
  | x :: a, y :: b, h => by
    have h1 : mkS x :: SL a = mkS y :: SL b := h
    rw [List.cons.injEq] at h1
    rw [mkS_inj h1.1, SL_inj h1.2]
section
variable {A : Around} {s : Shared} {D D2 : Addr} {vs ws : List Value} {α : Type} [DecidableEq α] {ps qs : List α}
theorem all_dec (hlen : ps.length = qs.length) : (List.range ps.length).all (fun j => decide (ps[j]? = qs[j]?)) = decide (ps = qs) := by
  by_cases h : ps = qs
  · subst h; simp
  · rw [decide_eq_false h]
    apply Bool.eq_false_iff.mpr
    intro ha
    apply h
    apply List.ext_getElem?
    intro i
    rcases Nat.lt_or_ge i ps.length with hi | hi
    · have := List.all_eq_true.mp ha i (List.mem_range.mpr hi)
      simpa using this
    · rw [List.getElem?_eq_none hi, List.getElem?_eq_none (by omega)]
theorem dec_some {p q : α} : decide (some p = some q) = decide (p = q) := decide_eq_decide.mpr ⟨fun e => Option.some.inj e, fun e => by rw [e]⟩
theorem lists_rc (hl : s.heap.IsList D vs.toArray) (hb : s.heap.IsList D2 ws.toArray) (h1 : vs.length = ps.length) (h2 : ws.length = qs.length) (hu : A.units < cLine)
    (he : ∀ (j : Nat) x y p q, vs[j]? = some x → ws[j]? = some y → ps[j]? = some p → qs[j]? = some q → SeqAt.EqAt A.in1 s x y (decide (p = q))) : SeqAt.RcAt A s (.ref D) (.ref D2) (decide (ps = qs)) := by
  by_cases hlen : ps.length = qs.length
  · have h := SeqAt.RcAt.lists (A := A) (s := s) (e := fun j => decide (ps[j]? = qs[j]?)) hl hb (by simp; omega) hu (fun j j1 j2 => by
      simp at j1 j2
      have e1 : ps[j]? = some ps[j] := List.getElem?_eq_getElem (by omega)
      have e2 : qs[j]? = some qs[j] := List.getElem?_eq_getElem (by omega)
      show SeqAt.EqAt A.in1 s _ _ (decide (ps[j]? = qs[j]?))
      rw [e1, e2, dec_some]
      exact he j _ _ _ _ (by simp) (by simp) e1 e2)
    have e : (List.range vs.toArray.size).all (fun j => decide (ps[j]? = qs[j]?)) = decide (ps = qs) := by
      rw [List.size_toArray, h1]; exact all_dec hlen
    rw [e] at h; exact h
  · have h := SeqAt.RcAt.lists_lengths (A := A) (s := s) hl hb (by simp; omega) hu
    rw [decide_eq_false (fun e => hlen (by rw [e]))]; exact h
theorem lists_rcNe (hl : s.heap.IsList D vs.toArray) (hb : s.heap.IsList D2 ws.toArray) (h1 : vs.length = ps.length) (h2 : ws.length = qs.length) (hu : A.units < cLine)
    (he : ∀ (j : Nat) x y p q, vs[j]? = some x → ws[j]? = some y → ps[j]? = some p → qs[j]? = some q → SeqAt.EqAt A.in1 s x y (decide (p = q))) : SeqAt.RcNeAt A s (.ref D) (.ref D2) (decide (ps ≠ qs)) := by
  by_cases hlen : ps.length = qs.length
  · have h := SeqAt.RcNeAt.lists (A := A) (s := s) (e := fun j => decide (ps[j]? = qs[j]?)) hl hb (by simp; omega) hu (fun j j1 j2 => by
      simp at j1 j2
      have e1 : ps[j]? = some ps[j] := List.getElem?_eq_getElem (by omega)
      have e2 : qs[j]? = some qs[j] := List.getElem?_eq_getElem (by omega)
      show SeqAt.EqAt A.in1 s _ _ (decide (ps[j]? = qs[j]?))
      rw [e1, e2, dec_some]
      exact he j _ _ _ _ (by simp) (by simp) e1 e2)
    have e : (!(List.range vs.toArray.size).all (fun j => decide (ps[j]? = qs[j]?))) = decide (ps ≠ qs) := by
      rw [List.size_toArray, h1, all_dec hlen]
      by_cases hc : ps = qs <;> simp [hc]
    rw [e] at h; exact h
  · have h := SeqAt.RcNeAt.lists_lengths (A := A) (s := s) hl hb (by simp; omega) hu
    rw [decide_eq_true (show ps ≠ qs from fun e => hlen (by rw [e]))]; exact h
end
theorem strs_at {vs : List Value} {ps : List (List Nat)} (h : StrsAre vs (SL ps)) {i : Nat} {v : Value} (hv : vs[i]? = some v) : ∃ p t, ps[i]? = some p ∧ v = .str (mkS p) t := by
  obtain ⟨y, t, rfl, hy⟩ := StrsAre.item h i v hv
  unfold SL at hy
  rw [List.getElem?_map] at hy
  cases e : ps[i]? with
  | none => rw [e] at hy; cases hy
  | some p => rw [e] at hy; cases hy; exact ⟨p, t, rfl, rfl⟩
theorem SL_mem {a : Str} {ps : List (List Nat)} (h : a ∈ SL ps) : ∃ p ∈ ps, a = mkS p := by
  unfold SL at h
  obtain ⟨c, hc, rfl⟩ := List.mem_map.mp h
  exact ⟨c, hc, rfl⟩
theorem strs_len {vs : List Value} {ps : List (List Nat)} (h : StrsAre vs (SL ps)) : vs.length = ps.length := by rw [h.len_eq, SL_length]
theorem SL_filter (pz : Str → Bool) (p : List Nat → Bool) (h : ∀ x, pz (mkS x) = p x) (l : List (List Nat)) : (SL l).filter pz = SL (l.filter p) := by
  unfold SL
  rw [List.filter_map]
  congr 1
  exact List.filter_congr fun n _ => h n
theorem strs_snocS {vs : List Value} {ps : List (List Nat)} {p : List Nat} {t : Tok} (h : StrsAre vs (SL ps)) : StrsAre (vs ++ [.str (mkS p) t]) (SL (ps ++ [p])) := by
  rw [SL_app]
  exact h.append' (.cons _ _ .nil)
theorem strs_one (p : List Nat) (t : Tok) : StrsAre [.str (mkS p) t] (SL [p]) := .cons _ _ .nil
theorem strs_lit0 (t : Tok) : StrsAre [.str (Str.ofString "") t] (SL [[]]) := by rw [lit_nil]; exact .cons _ _ .nil
theorem strs_snocG {vs : List Value} {ps : List (List Nat)} {x : Str} {p : List Nat} {t : Tok} (h : StrsAre vs (SL ps)) (e : x = mkS p) : StrsAre (vs ++ [.str x t]) (SL (ps ++ [p])) := by
  subst e; exact strs_snocS h
theorem strs_nil : StrsAre [] (SL []) := .nil
theorem strs_consS {vs : List Value} {ps : List (List Nat)} {p : List Nat} {t : Tok} (h : StrsAre vs (SL ps)) : StrsAre (.str (mkS p) t :: vs) (SL (p :: ps)) := .cons _ _ h
section
variable {prog : Program} {w : World} {A : Around} {E : Value → Shared → Prop} {s : Shared} {h₀ : Heap} {L D D2 : Addr} {m : PySem.Str → Option Value} {news : List (Addr × Obj)} {vs ws : List Value} {n n2 : Nat} {l l2 : List Nat} {ps qs : List (List Nat)} {t u : Tok} {x y : Str} {Q : Value → Shared → Prop} {value slice : PySem.Expr}
theorem add_S {l l2 : List Nat} (hx : x = mkS l) (hy : y = mkS l2) (hz : l.length ≤ 16384) (hz2 : l2.length ≤ 16384) (h : ∀ t' k, Q (.str (mkS (l ++ l2)) t') { s with toks := k }) : wpAny (model prog w) A (binaryOp .Add (.str x t) (.str y u)) Q E s := by
  subst hx; subst hy
  refine KXadd.add (K := 16384) (L := 16384) (by rw [mkS_length]; omega) (by rw [mkS_length]; omega) (by omega) fun t' k _ => ?_
  rw [mkS_app]
  exact h t' k
theorem strSplit_S {c : Nat} {y : Str} (F : Fr h₀ L s.heap m) (N : News h₀ L s.heap news) (hy : y = mkS [c]) (hz : l.length ≤ 16384)
    (h : ∀ D' us h' k, StrsAre us (SL (splitL c l)) → Fr h₀ L h' m → News h₀ L h' ((D', listOf (List.toArray us) 0) :: news) → (∀ p ∈ news, p.1 < D') → Q (.ref D') { s with heap := h', toks := k }) :
    wpAny (model prog w) A (call (.builtin "str.split") [.str (mkS l) t, .str y u]) Q E s := by
  subst hy
  refine KSpl.split1 F N rfl (fun D vs h' k e a F' N' l1 => h D _ h' k ?_ F' N' l1) (by rw [mkS_length, sizeLine_eq]; omega)
  rw [e, split_mkS] at a
  exact a
theorem eq_T (N : News h₀ L s.heap news) (hm : (D, listOf vs.toArray n) ∈ news) (hi : StrsAre vs (SL ps)) (hm2 : (D2, listOf ws.toArray n2) ∈ news) (hj : StrsAre ws (SL qs)) (hu : A.units < cLine) (h : Q (.bool (decide (ps = qs))) s) :
    wpAny (model prog w) A (compareOp .Eq (.ref D) (.ref D2)) Q E s :=
  lists_rc (News.isList N hm) (News.isList N hm2) (strs_len hi) (strs_len hj) hu (fun j x y p q hx hy hp hq => by
    obtain ⟨p', t, e1, rfl⟩ := strs_at hi hx
    obtain ⟨q', t2, e2, rfl⟩ := strs_at hj hy
    rw [hp] at e1; rw [hq] at e2
    cases e1; cases e2
    exact eqAt_S) prog w E Q h
theorem ne_T (N : News h₀ L s.heap news) (hm : (D, listOf vs.toArray n) ∈ news) (hi : StrsAre vs (SL ps)) (hm2 : (D2, listOf ws.toArray n2) ∈ news) (hj : StrsAre ws (SL qs)) (hu : A.units < cLine) (h : Q (.bool (decide (ps ≠ qs))) s) :
    wpAny (model prog w) A (compareOp .NotEq (.ref D) (.ref D2)) Q E s :=
  lists_rcNe (News.isList N hm) (News.isList N hm2) (strs_len hi) (strs_len hj) hu (fun j x y p q hx hy hp hq => by
    obtain ⟨p', t, e1, rfl⟩ := strs_at hi hx
    obtain ⟨q', t2, e2, rfl⟩ := strs_at hj hy
    rw [hp] at e1; rw [hq] at e2
    cases e1; cases e2
    exact eqAt_S) prog w E Q h
theorem append_V {v : Value} {news' : List (Addr × Obj)} (F : Fr h₀ L s.heap m) (N : News h₀ L s.heap news) (U : Upd D (listOf vs.toArray n) (listOf (vs ++ [v]).toArray (n + 1)) news news') (hz : vs.length ≤ 16384) (h : ∀ h', Fr h₀ L h' m → News h₀ L h' news' → Q .none { s with heap := h' }) :
    wpAny (model prog w) A (call (.builtin "list.append") [.ref D, v]) Q E s := append_L F N U (by omega) h
theorem insert0_V {v : Value} {u : Tok} {news' : List (Addr × Obj)} (F : Fr h₀ L s.heap m) (N : News h₀ L s.heap news) (U : Upd D (listOf vs.toArray n) (listOf (v :: vs).toArray (n + 1)) news news') (hz : vs.length ≤ 16384) (h : ∀ h', Fr h₀ L h' m → News h₀ L h' news' → Q .none { s with heap := h' }) :
    wpAny (model prog w) A (call (.builtin "list.insert") [.ref D, .int 0 u, v]) Q E s :=
  kl_insert (l := v :: vs) F N (by decide) (by simp [kl_ins]) U (by rw [sizeLine_eq]; simp; omega) h
theorem add_T (F : Fr h₀ L s.heap m) (N : News h₀ L s.heap news) (hm : (D, listOf vs.toArray n) ∈ news) (hm2 : (D2, listOf ws.toArray n2) ∈ news) (hi : StrsAre vs (SL ps)) (hj : StrsAre ws (SL qs)) (hz : ps.length + qs.length ≤ 16384)
    (h : ∀ D' us h', Fr h₀ L h' m → News h₀ L h' ((D', listOf (List.toArray us) 0) :: news) → (∀ p ∈ news, p.1 < D') → StrsAre us (SL (ps ++ qs)) → Q (.ref D') { s with heap := h' }) : wpAny (model prog w) A (binaryOp .Add (.ref D) (.ref D2)) Q E s :=
  add_lists F N (News.isList N hm) (News.isList N hm2) (fun h' F' N' => h _ _ h' F' N' (fun p hp => Heap.lt_size (N p hp).1) (by rw [SL_app]; exact hi.append' hj)) (by rw [strs_len hi, strs_len hj, sizeLine_eq]; omega)
theorem itemNeg_S {l : List Nat} {ui : Tok} (h0 : 0 < l.length) (hz : l.length ≤ 8192) (h : ∀ t' k c, l.getLast? = some c → Q (.str (mkS [c]) t') { s with toks := k })
    (hs : subscripted slice false (.str (mkS l) t) (.int (-1) ui) = operate [.str (mkS l) t, .int (-1) ui] (getItem (.str (mkS l) t) (.int (-1) ui)) := by with_unfolding_all rfl)
    (ht : ∀ r, letTemporaryGo value (.str (mkS l) t) r = pure () := by intro _; with_unfolding_all rfl) :
    wpAny (model prog w) A (subscriptTail value slice (.str (mkS l) t) (.int (-1) ui)) Q E s := by
  have hl : l.length - 1 < l.length := by omega
  have hc : (mkS l).cps[((-1 : Int) + (mkS l).length).toNat]? = some l[l.length - 1] := by
    rw [mkS_length, show ((-1 : Int) + (l.length : Nat)).toNat = l.length - 1 from by omega]
    simp [mkS, hl]
  refine tail_of_ItemOn ⟨"str", _, F.slot_str_getitem.lookup, typeIs_str _ _ _, P.getItem_str (c := l[l.length - 1]) (by decide) (StrLaws.at_neg (by decide) (by rw [mkS_length]; omega) hc) ?_⟩ hs ht
  exact h _ _ _ (by rw [List.getLast?_eq_getElem?, List.getElem?_eq_getElem hl])
theorem cps_len (x : Str) : x.cps.toList.length = x.length := by simp [Str.length]
theorem lit_menu4 : Str.ofString "/ab." = mkS [47, 97, 98, 46] := by decide +kernel
end
end Mine
namespace Mine
theorem lit_dds : Str.ofString "../" = mkS [46, 46, 47] := by decide +kernel
theorem lit_ss : Str.ofString "//" = mkS [47, 47] := by decide +kernel
theorem lit_a : Str.ofString "a" = mkS [97] := by decide +kernel
theorem lit_bs : Str.ofString "b/" = mkS [98, 47] := by decide +kernel
def menu6 : List (List Nat) := [[47], [46, 46, 47], [46], [97], [98, 47]]
theorem strs_menu6 (a b c d e : Tok) : StrsAre [.str (Str.ofString "/") a, .str (Str.ofString "../") b, .str (Str.ofString ".") c, .str (Str.ofString "a") d, .str (Str.ofString "b/") e] (SL menu6) := by
  rw [lit_slash, lit_dds, lit_dot, lit_a, lit_bs]
  exact .cons _ _ (.cons _ _ (.cons _ _ (.cons _ _ (.cons _ _ .nil))))
theorem menu6_small {i : Nat} {p : List Nat} (h : menu6[i]? = some p) : p.length ≤ 3 := by
  have : ∀ q ∈ menu6, q.length ≤ 3 := by decide
  exact this p (List.mem_of_getElem? h)
/-! normpath, plainly -/
def rootL (l : List Nat) : List Nat := if l.take 1 ≠ [47] then [] else if (l.drop 1).take 1 ≠ [47] ∨ (l.drop 2).take 1 = [47] then [47] else [47, 47]
def nstep (root : List Nat) (acc : List (List Nat)) (p : List Nat) : List (List Nat) :=
  if p = [] ∨ p = [46] then acc
  else if p ≠ [46, 46] ∨ (root = [] ∧ acc = []) ∨ acc.getLast? = some [46, 46] then acc ++ [p] else acc.dropLast
def ncomps (l : List Nat) : List (List Nat) := (splitL 47 (l.drop (rootL l).length)).foldl (nstep (rootL l)) []
def normL (l : List Nat) : List Nat :=
  if l = [] then [46] else if rootL l ++ joinL [47] (ncomps l) = [] then [46] else rootL l ++ joinL [47] (ncomps l)
theorem pySl01 (l : List Nat) : pySl l none (some 1) = l.take 1 := pySl_to l 1
theorem pySl02 (l : List Nat) : pySl l none (some 2) = l.take 2 := pySl_to l 2
theorem pySl12 (l : List Nat) : pySl l (some 1) (some 2) = (l.drop 1).take 1 := pySl_ft l 1 2
theorem pySl23 (l : List Nat) : pySl l (some 2) (some 3) = (l.drop 2).take 1 := pySl_ft l 2 3
theorem pySl1 (l : List Nat) : pySl l (some 1) none = l.drop 1 := pySl_from l 1
theorem pySl2 (l : List Nat) : pySl l (some 2) none = l.drop 2 := pySl_from l 2
theorem root_0 {l : List Nat} (h : pySl l none (some 1) ≠ [47]) : rootL l = [] := by
  rw [pySl01] at h; unfold rootL; rw [if_pos h]
theorem root_1 {l : List Nat} (h : ¬ pySl l none (some 1) ≠ [47]) (h2 : pySl l (some 1) (some 2) ≠ [47]) : rootL l = [47] := by
  rw [pySl01] at h; rw [pySl12] at h2; unfold rootL; rw [if_neg h, if_pos (.inl h2)]
theorem root_1b {l : List Nat} (h : ¬ pySl l none (some 1) ≠ [47]) (h2 : pySl l (some 2) (some 3) = [47]) : rootL l = [47] := by
  rw [pySl01] at h; rw [pySl23] at h2; unfold rootL; rw [if_neg h, if_pos (.inr h2)]
theorem root_2 {l : List Nat} (h : ¬ pySl l none (some 1) ≠ [47]) (h2 : ¬ pySl l (some 1) (some 2) ≠ [47]) (h3 : ¬ pySl l (some 2) (some 3) = [47]) : rootL l = [47, 47] := by
  rw [pySl01] at h; rw [pySl12] at h2; rw [pySl23] at h3; unfold rootL; rw [if_neg h, if_neg (by rintro (h | h); exact h2 h; exact h3 h)]
theorem two_take {l : List Nat} (h : ¬ pySl l none (some 1) ≠ [47]) (h2 : ¬ pySl l (some 1) (some 2) ≠ [47]) : pySl l none (some 2) = [47, 47] := by
  rw [pySl01] at h; rw [pySl12] at h2; rw [pySl02]
  have e1 : l.take 1 = [47] := Decidable.not_not.mp h
  have e2 : (l.drop 1).take 1 = [47] := Decidable.not_not.mp h2
  have e := List.take_add (l := l) (i := 1) (j := 1)
  rw [e1, e2] at e
  exact e
theorem rootL_length (l : List Nat) : (rootL l).length ≤ 2 := by unfold rootL; split; simp; split <;> simp
theorem nstep_a {root : List Nat} {acc : List (List Nat)} {p : List Nat} (h : ¬ p ≠ []) : nstep root acc p = acc := by
  unfold nstep; rw [if_pos (.inl (Decidable.not_not.mp h))]
theorem nstep_a' {root : List Nat} {acc : List (List Nat)} {p : List Nat} (h : p = []) : nstep root acc p = acc := nstep_a fun x => x h
theorem nstep_b {root : List Nat} {acc : List (List Nat)} {p : List Nat} (h : p = [46]) : nstep root acc p = acc := by
  unfold nstep; rw [if_pos (.inr h)]
theorem nstep_c {root : List Nat} {acc : List (List Nat)} {p : List Nat} (h : p ≠ []) (h2 : ¬ p = [46]) (h3 : p ≠ [46, 46]) : nstep root acc p = acc ++ [p] := by
  unfold nstep; rw [if_neg (by rintro (x | x); exact h x; exact h2 x), if_pos (.inl h3)]
theorem nstep_d {root : List Nat} {acc : List (List Nat)} {p : List Nat} (h : p ≠ []) (h2 : ¬ p = [46]) (h3 : ¬ root ≠ []) (h4 : acc = []) : nstep root acc p = acc ++ [p] := by
  unfold nstep; rw [if_neg (by rintro (x | x); exact h x; exact h2 x), if_pos (.inr (.inl ⟨Decidable.not_not.mp h3, h4⟩))]
theorem nstep_e {root : List Nat} {acc : List (List Nat)} {p q : List Nat} (h : p ≠ []) (h2 : ¬ p = [46]) (h3 : acc.getLast? = some q) (h4 : q = [46, 46]) : nstep root acc p = acc ++ [p] := by
  unfold nstep; rw [if_neg (by rintro (x | x); exact h x; exact h2 x), if_pos (.inr (.inr (by rw [h3, h4])))]
theorem nstep_f {root : List Nat} {acc : List (List Nat)} {p q : List Nat} (h : p ≠ []) (h2 : ¬ p = [46]) (h3 : ¬ p ≠ [46, 46]) (h4 : acc.getLast? = some q) (h5 : ¬ q = [46, 46]) : nstep root acc p = acc.dropLast := by
  unfold nstep; rw [if_neg (by rintro (x | x); exact h x; exact h2 x), if_neg]
  rintro (x | ⟨_, x⟩ | x)
  · exact h3 x
  · rw [x] at h4; cases h4
  · rw [h4] at x; cases x; exact h5 rfl
theorem nstep_g {root : List Nat} {acc : List (List Nat)} {p : List Nat} (h : p ≠ []) (h2 : ¬ p = [46]) (h3 : ¬ p ≠ [46, 46]) (h4 : root ≠ []) (h5 : acc = []) : nstep root acc p = acc := by
  unfold nstep; rw [if_neg (by rintro (x | x); exact h x; exact h2 x), if_neg]
  · rw [h5]; rfl
  · rintro (x | ⟨x, _⟩ | x)
    · exact h3 x
    · exact h4 x
    · rw [h5] at x; cases x
theorem nstep_len {root : List Nat} {acc : List (List Nat)} {p : List Nat} : (nstep root acc p).length ≤ acc.length + 1 := by
  unfold nstep
  split
  · omega
  · split
    · simp
    · rw [List.length_dropLast]; omega
theorem fold_take {root : List Nat} {ps acc : List (List Nat)} {i : Nat} {p : List Nat} (h : ps[i]? = some p) (e : acc = (ps.take i).foldl (nstep root) []) : (ps.take (i + 1)).foldl (nstep root) [] = nstep root acc p := by
  rw [List.take_add_one, h, List.foldl_append, ← e]; rfl
theorem nstep_mem {root : List Nat} {acc : List (List Nat)} {p : List Nat} {P : List Nat → Prop} (h : ∀ q ∈ acc, P q) (hp : P p) : ∀ q ∈ nstep root acc p, P q := by
  unfold nstep
  split
  · exact h
  · split
    · intro q hq
      rcases List.mem_append.mp hq with hq | hq
      · exact h q hq
      · rw [List.mem_singleton.mp hq]; exact hp
    · exact fun q hq => h q (List.dropLast_subset _ hq)
theorem fold_mem {root : List Nat} {P : List Nat → Prop} : ∀ {ps acc : List (List Nat)}, (∀ q ∈ acc, P q) → (∀ q ∈ ps, P q) → ∀ q ∈ ps.foldl (nstep root) acc, P q
  | [], _, h, _ => h
  | _ :: ps, _, h, hp => fold_mem (ps := ps) (nstep_mem h (hp _ (.head _))) fun q hq => hp q (.tail _ hq)
theorem fold_len {root : List Nat} : ∀ {ps acc : List (List Nat)}, (ps.foldl (nstep root) acc).length ≤ acc.length + ps.length
  | [], _ => by simp
  | p :: ps, acc => by
    have := fold_len (root := root) (ps := ps) (acc := nstep root acc p)
    have := nstep_len (root := root) (acc := acc) (p := p)
    rw [List.foldl_cons, List.length_cons]; omega
/-- the weight of what is joined -/
def wt (ps : List (List Nat)) : Nat := (ps.map (·.length + 1)).sum
theorem wt_join (sep : Nat) : ∀ ps : List (List Nat), (joinL [sep] ps).length ≤ wt ps
  | [] => Nat.zero_le _
  | [x] => by show x.length ≤ _; simp [wt]
  | x :: y :: r => by
    have := wt_join sep (y :: r)
    show (x ++ [sep] ++ joinL [sep] (y :: r)).length ≤ _
    simp only [wt, List.map_cons, List.sum_cons, List.length_append, List.length_singleton] at *
    omega
theorem wt_split (c : Nat) : ∀ l : List Nat, wt (splitL c l) = l.length + 1
  | [] => rfl
  | x :: l => by
    have ih := wt_split c l
    obtain ⟨p, ps, e⟩ := splitL_cons c l
    unfold splitL
    split
    · simp only [wt, List.map_cons, List.sum_cons, List.length_cons, List.length_nil] at *; omega
    · rw [e] at ih ⊢
      simp only [wt, List.map_cons, List.sum_cons, List.length_cons, List.headD_cons, List.tail_cons] at *; omega
theorem wt_app (a b : List (List Nat)) : wt (a ++ b) = wt a + wt b := by simp [wt]
theorem wt_drop (a : List (List Nat)) : wt a.dropLast ≤ wt a := by
  rcases List.eq_nil_or_concat a with e | ⟨r, x, e⟩
  · rw [e]; exact Nat.le_refl _
  · rw [e, List.concat_eq_append, List.dropLast_concat, wt_app]; omega
theorem wt_fold {root : List Nat} : ∀ {ps acc : List (List Nat)}, wt (ps.foldl (nstep root) acc) ≤ wt acc + wt ps
  | [], _ => by simp
  | p :: ps, acc => by
    have := wt_fold (root := root) (ps := ps) (acc := nstep root acc p)
    have h2 : wt (nstep root acc p) ≤ wt acc + wt [p] := by
      unfold nstep
      split
      · omega
      · split
        · rw [wt_app]; omega
        · have := wt_drop acc; omega
    have h3 : wt (p :: ps) = wt [p] + wt ps := by rw [← wt_app]; rfl
    rw [List.foldl_cons]; omega
theorem wt_sum (ps : List (List Nat)) : ((SL ps).map (·.length)).sum + ps.length = wt ps := by
  induction ps with
  | nil => rfl
  | cons p ps ih =>
    simp only [SL, wt, List.map_cons, List.sum_cons, List.length_cons, mkS_length] at *
    omega
theorem ncomps_wt (l : List Nat) : wt (ncomps l) ≤ l.length + 1 := by
  unfold ncomps
  have := wt_fold (root := rootL l) (ps := splitL 47 (l.drop (rootL l).length)) (acc := [])
  have h2 := wt_split 47 (l.drop (rootL l).length)
  rw [List.length_drop] at h2
  simp only [wt, List.map_nil, List.sum_nil] at *
  omega
section
variable {prog : Program} {w : World} {A : Around} {E : Value → Shared → Prop} {s : Shared} {h₀ : Heap} {L D D2 : Addr} {m : PySem.Str → Option Value} {news news' : List (Addr × Obj)} {vs ws : List Value} {n n2 : Nat} {l l2 : List Nat} {ps qs : List (List Nat)} {t u : Tok} {x y : Str} {Q : Value → Shared → Prop} {value slice : PySem.Expr}
theorem truthy_V {R : Bool → Shared → Prop} (N : News h₀ L s.heap news) (hm : (D, listOf vs.toArray n) ∈ news) (hl : vs.length = ps.length) (hz : ps.length ≤ 16384) (h : ∀ k, R (decide (ps ≠ [])) { s with toks := k }) : wpAny (model prog w) A (truthy (.ref D)) R E s := by
  refine wpAny_truthy_list (News.isList N hm) (by simp; omega) ?_
  have e : (!vs.toArray.isEmpty) = decide (ps ≠ []) := by
    cases ps with
    | nil => have : vs = [] := List.length_eq_zero_iff.mp hl; subst this; rfl
    | cons p ps => cases vs with
      | nil => cases hl
      | cons v vs => rfl
  rw [e]; exact h _
theorem itemLast_V {v : Value} {u : Tok} (N : News h₀ L s.heap news) (hm : (D, listOf vs.toArray n) ∈ news) (hv : vs.getLast? = some v) (hz : vs.length ≤ 16384) (h : Q v s)
    (hs : subscripted slice false (.ref D) (.int (-1) u) = operate [.ref D, .int (-1) u] (getItem (.ref D) (.int (-1) u)) := by with_unfolding_all rfl) (hg : ∀ r, letTemporaryGo value (.ref D) r = pure () := by intro _; with_unfolding_all rfl) :
    wpAny (model prog w) A (subscriptTail value slice (.ref D) (.int (-1) u)) Q E s := by
  have hne : vs ≠ [] := by intro e; rw [e] at hv; cases hv
  have hp := List.length_pos_iff.mpr hne
  refine subscriptTail_builtin (News.isList N hm).typeIs slot_list_getitem.lookup (wpAny_getItem_list_neg (News.isList N hm) (by decide) (by simp; omega) (by decide) (x := v) ?_ h) hs hg
  rw [show ((-1 : Int) + (vs.toArray.size : Int)).toNat = vs.length - 1 from by simp; omega]
  rw [List.getLast?_eq_getElem?] at hv
  simpa using hv
theorem last_T (hi : StrsAre vs (SL ps)) (hp : ps ≠ []) : ∃ q t, ps.getLast? = some q ∧ vs.getLast? = some (.str (mkS q) t) := by
  have hl := strs_len hi
  have h0 := List.length_pos_iff.mpr hp
  have e : vs.getLast? = vs[vs.length - 1]? := List.getLast?_eq_getElem?
  have e1 : vs[vs.length - 1]? = some vs[vs.length - 1] := List.getElem?_eq_getElem (by omega)
  obtain ⟨p, t, h1, h2⟩ := strs_at hi e1
  refine ⟨p, t, ?_, ?_⟩
  · rw [List.getLast?_eq_getElem?, ← hl, h1]
  · rw [e, e1, h2]
theorem itemLast_T {u : Tok} (N : News h₀ L s.heap news) (hm : (D, listOf vs.toArray n) ∈ news) (hi : StrsAre vs (SL ps)) (hp : ps ≠ []) (hz : ps.length ≤ 16384) (h : ∀ q t, ps.getLast? = some q → Q (.str (mkS q) t) s)
    (hs : subscripted slice false (.ref D) (.int (-1) u) = operate [.ref D, .int (-1) u] (getItem (.ref D) (.int (-1) u)) := by with_unfolding_all rfl) (hg : ∀ r, letTemporaryGo value (.ref D) r = pure () := by intro _; with_unfolding_all rfl) :
    wpAny (model prog w) A (subscriptTail value slice (.ref D) (.int (-1) u)) Q E s := by
  obtain ⟨q, t, h1, h2⟩ := last_T hi hp
  exact itemLast_V N hm h2 (by rw [strs_len hi]; exact hz) (h q t h1) hs hg
theorem itemAt_T {x : Int} {u : Tok} (N : News h₀ L s.heap news) (hm : (D, listOf vs.toArray n) ∈ news) (hi : StrsAre vs (SL ps)) (h0 : 0 ≤ x) (h1 : x < ps.length) (hz : ps.length ≤ 16384) (h : ∀ q t, ps[x.toNat]? = some q → Q (.str (mkS q) t) s)
    (hs : subscripted slice false (.ref D) (.int x u) = operate [.ref D, .int x u] (getItem (.ref D) (.int x u)) := by with_unfolding_all rfl) (hg : ∀ r, letTemporaryGo value (.ref D) r = pure () := by intro _; with_unfolding_all rfl) :
    wpAny (model prog w) A (subscriptTail value slice (.ref D) (.int x u)) Q E s := by
  have hl := strs_len hi
  have e1 : vs[x.toNat]? = some vs[x.toNat] := List.getElem?_eq_getElem (by omega)
  obtain ⟨p, t, h2, h3⟩ := strs_at hi e1
  refine subscriptTail_builtin (News.isList N hm).typeIs slot_list_getitem.lookup (wpAny_getItem_list (News.isList N hm) h0 (by omega) (x := vs[x.toNat]) ?_ ?_) hs hg
  · simpa using e1
  · rw [h3]; exact h p t h2
theorem kl_last_eq : ∀ {vs : List Value} {v : Value}, vs.getLast? = some v → kl_last vs = some (vs.dropLast, v)
  | [], _, h => by cases h
  | [x], _, h => by cases h; rfl
  | x :: y :: r, v, h => by
    have ih := kl_last_eq (vs := y :: r) (v := v) (by simpa using h)
    unfold kl_last
    rw [ih]; rfl
theorem pop_V {v : Value} (F : Fr h₀ L s.heap m) (N : News h₀ L s.heap news) (hv : vs.getLast? = some v) (U : Upd D (listOf vs.toArray n) (listOf vs.dropLast.toArray (n + 1)) news news') (hz : vs.length ≤ 16384) (h : ∀ h', Fr h₀ L h' m → News h₀ L h' news' → Q v { s with heap := h' }) :
    wpAny (model prog w) A (call (.builtin "list.pop") [.ref D]) Q E s :=
  kl_pop F N (kl_last_eq hv) U (by rw [sizeLine_eq]; simp; omega) h
theorem pop_T (F : Fr h₀ L s.heap m) (N : News h₀ L s.heap news) (hi : StrsAre vs (SL ps)) (hp : ps ≠ []) (U : Upd D (listOf vs.toArray n) (listOf vs.dropLast.toArray (n + 1)) news news') (hz : ps.length ≤ 16384) (h : ∀ h' q t, Fr h₀ L h' m → News h₀ L h' news' → Q (.str (mkS q) t) { s with heap := h' }) :
    wpAny (model prog w) A (call (.builtin "list.pop") [.ref D]) Q E s := by
  obtain ⟨q, t, h1, h2⟩ := last_T hi hp
  exact pop_V F N h2 U (by rw [strs_len hi]; exact hz) fun h' F' N' => h h' q t F' N'
theorem strs_dropLast {vs : List Value} {ps : List (List Nat)} (hi : StrsAre vs (SL ps)) : StrsAre vs.dropLast (SL ps.dropLast) := by
  have h := StrsAre.take' hi (vs.length - 1)
  rw [List.dropLast_eq_take, List.dropLast_eq_take]
  unfold SL at *
  rw [← List.map_take] at h
  rw [strs_len hi] at h ⊢
  exact h
theorem strs_rev : ∀ {vs : List Value} {ps : List (List Nat)}, StrsAre vs (SL ps) → StrsAre vs.reverse (SL ps.reverse)
  | [], [], _ => strs_nil
  | [], _ :: _, h => by cases h
  | _ :: _, [], h => by cases h
  | v :: vs, p :: ps, h => by
    have h' : StrsAre (v :: vs) (mkS p :: SL ps) := h
    cases h' with
    | cons _ t r =>
      rw [List.reverse_cons, List.reverse_cons]
      exact strs_snocS (strs_rev r)
theorem rev_T {vk : Value} {ops : List Value} (F : Fr h₀ L s.heap m) (N : News h₀ L s.heap news) (hm : (D, listOf vs.toArray n) ∈ news) (pk : IsPart vk (some (-1))) (hi : StrsAre vs (SL ps)) (hz : ps.length ≤ 16384)
    (h : ∀ D' h', Fr h₀ L h' m → News h₀ L h' ((D', listOf vs.reverse.toArray 0) :: news) → (∀ p ∈ news, p.1 < D') → StrsAre vs.reverse (SL ps.reverse) → Q (.ref D') { s with heap := h' })
    (hs : subscripted slice false (.ref D) (.ref s.heap.objs.size) = operate ops (getItem (.ref D) (.ref s.heap.objs.size))) (ht : ∀ r, letTemporaryGo value (.ref D) r = pure ()) :
    wpAny (model prog w) A (subscriptTail value slice (.ref D) (.ref s.heap.objs.size)) Q E { s with heap := s.heap.push { cls := .type "slice", data := .fields #[.none, .none, vk] } } :=
  krv_lit (its := vs.toArray) (zs := vs.reverse) F N (News.isList N hm) pk rfl (fun D' h' F' N' l1 => h D' h' F' N' l1 (strs_rev hi)) hs ht (by rw [List.size_toArray, strs_len hi, sizeLine_eq]; omega)
theorem strs_repl {v : Value} {p : List Nat} {t : Tok} (h : v = .str (mkS p) t) : ∀ k, StrsAre (List.replicate k v) (SL (List.replicate k p))
  | 0 => strs_nil
  | k + 1 => by
    rw [List.replicate_succ, List.replicate_succ, h]
    exact strs_consS (h ▸ strs_repl h k)
theorem flat_one {α : Type} (v : α) : ∀ k, (List.replicate k [v]).flatten = List.replicate k v
  | 0 => rfl
  | k + 1 => by rw [List.replicate_succ, List.flatten_cons, flat_one v k]; rfl
theorem mul_T {x : Int} {kk : Nat} {u : Tok} {v : Value} {p : List Nat} (hx : x = (kk : Int)) (F : Fr h₀ L s.heap m) (N : News h₀ L s.heap news) (hm : (D, listOf [v].toArray n) ∈ news) (hv : ∃ t, v = .str (mkS p) t) (h1 : kk ≤ 16384)
    (h : ∀ D' us h', Fr h₀ L h' m → News h₀ L h' ((D', listOf (List.toArray us) 0) :: news) → (∀ p ∈ news, p.1 < D') → StrsAre us (SL (List.replicate kk p)) → Q (.ref D') { s with heap := h' }) :
    wpAny (model prog w) A (binaryOp .Mult (.ref D) (.int x u)) Q E s := by
  obtain ⟨t, hv⟩ := hv
  subst hx
  have hk : (kk : Int).toNat = kk := Int.toNat_natCast kk
  refine mul_list F N (N _ hm).1 (by omega) (by omega) (by simp; omega) fun h' F' N' => ?_
  rw [hk] at N'
  have e : (List.foldl (fun x1 x2 => x1 ++ x2) #[] (List.replicate (if ([v].toArray).isEmpty = true then 0 else kk) [v].toArray)) = (List.replicate kk v).toArray := by
    have g : ∀ (k : Nat) (acc : List Value), (List.replicate k [v].toArray).foldl (fun x1 x2 => x1 ++ x2) acc.toArray = (acc ++ List.replicate k v).toArray := by
      intro k
      induction k with
      | zero => intro acc; simp
      | succ k ih =>
        intro acc
        rw [List.replicate_succ, List.foldl_cons]
        have e1 : acc.toArray ++ [v].toArray = (acc ++ [v]).toArray := by simp
        rw [e1, ih, List.replicate_succ, List.append_assoc]; rfl
    have := g kk []
    simpa using this
  rw [e] at N'
  exact h _ _ h' F' N' (fun p hp => Heap.lt_size (N p hp).1) (strs_repl hv _)
theorem notin_T {k : List Nat} (N : News h₀ L s.heap news) (hm : (D, listOf vs.toArray n) ∈ news) (hi : StrsAre vs (SL ps)) (h : Q (.bool (decide (k ∉ ps))) s) : wpAny (model prog w) A (compareOp .NotIn (.str (mkS k) t) (.ref D)) Q E s :=
  notin_list_strs (News.isList N hm) hi (by
    have e : (!((SL ps).any (· == mkS k))) = decide (k ∉ ps) := by
      by_cases hc : k ∈ ps
      · have : (SL ps).any (· == mkS k) = true := List.any_eq_true.mpr ⟨mkS k, List.mem_map.mpr ⟨k, hc, rfl⟩, by simp⟩
        simp [this, hc]
      · have : (SL ps).any (· == mkS k) = false := by
          apply Bool.eq_false_iff.mpr
          intro ha
          obtain ⟨y, hy, he⟩ := List.any_eq_true.mp ha
          obtain ⟨p, hp, rfl⟩ := SL_mem hy
          exact hc (mkS_inj (eq_of_beq he) ▸ hp)
        simp [this, hc]
    rw [e]; exact h)
theorem strs_lit2 (a b : Tok) : StrsAre [.str (Str.ofString "") a, .str (Str.ofString ".") b] (SL [[], [46]]) := by
  rw [lit_nil, lit_dot]; exact .cons _ _ (.cons _ _ .nil)
theorem join_S {c : Nat} {y : Str} (N : News h₀ L s.heap news) (hy : y = mkS [c]) (hm : (D, listOf vs.toArray n) ∈ news) (hi : StrsAre vs (SL ps)) (hz : wt ps ≤ 16384) (h : ∀ t' k, Q (.str (mkS (joinL [c] ps)) t') { s with toks := k }) :
    wpAny (model prog w) A (call (.builtin "str.join") [.str y t, .ref D]) Q E s := by
  subst hy
  refine join_listC (ys := SL ps) (News.isList N hm) hi (by rw [mkS_length]; simp) ?_ fun t' k => ?_
  · have e := wt_sum ps
    have : ps.length ≤ wt ps := by omega
    rw [SL_length]; omega
  · unfold SL; rw [join_mkS]; exact h t' k
end
end Mine
namespace Mine
/-! the plain law of 04 -/
def pcs (l : List Nat) : List (List Nat) := (splitL 47 l).filter (· != [])
def namesL (l : List Nat) : List (List Nat) := [[]] ++ pcs l ++ (if pcs l ≠ [] ∧ l.getLast? = some 47 then [[]] else [])
def leadL (l : List Nat) : List Nat := l.takeWhile (· == 47)
theorem pcs_app (a b : List Nat) : pcs (a ++ 47 :: b) = pcs a ++ pcs b := by unfold pcs; rw [splitL_app, List.filter_append]
theorem pcs_rep : ∀ k, pcs (List.replicate k 47) = []
  | 0 => rfl
  | k + 1 => by
    have h := pcs_app [] (List.replicate k 47)
    rw [List.nil_append, pcs_rep k] at h
    exact h
theorem pcs_trail (a : List Nat) : ∀ k, pcs (a ++ List.replicate k 47) = pcs a
  | 0 => by simp
  | k + 1 => by rw [List.replicate_succ, pcs_app, pcs_rep, List.append_nil]
theorem pcs_none {l : List Nat} (h : 47 ∉ l) : pcs l = if l = [] then [] else [l] := by
  unfold pcs; rw [splitL_none h]
  by_cases hl : l = [] <;> simp [hl]
/-- off the end: what is stripped is a run -/
theorem rstL_run (c : Nat) (l : List Nat) : ∃ k, l = rstL c l ++ List.replicate k c ∧ (rstL c l).getLast? ≠ some c := by
  induction l using snocRec with
  | h0 => exact ⟨0, rfl, by simp [rstL]⟩
  | h1 l x ih =>
    by_cases hx : x = c
    · subst hx
      obtain ⟨k, h1, h2⟩ := ih
      have e : rstL x (l ++ [x]) = rstL x l := by unfold rstL; simp
      rw [e]
      refine ⟨k + 1, ?_, h2⟩
      rw [List.replicate_succ', ← List.append_assoc, ← h1]
    · have e : rstL c (l ++ [x]) = l ++ [x] := by unfold rstL; simp [hx]
      rw [e]
      exact ⟨0, by simp, by simp [hx]⟩
theorem rep_last {c : Nat} : ∀ {l : List Nat}, (∀ x ∈ l, x = c) → l = List.replicate l.length c := fun h => List.eq_replicate_iff.mpr ⟨rfl, h⟩
theorem last_mem {l : List Nat} {c : Nat} (h : l.getLast? = some c) : c ∈ l := List.mem_of_getLast? h
/-- the cut: ahead of the last slash and behind it -/
theorem cut_split (l : List Nat) (h : 0 < cutL 47 l) : ∃ P, l = P ++ 47 :: tlL l ∧ l.take (cutL 47 l) = P ++ [47] := by
  refine ⟨l.take (cutL 47 l - 1), ?_, ?_⟩
  · have hp := cutL_pos 47 l h
    have hl := (List.getElem?_eq_some_iff.mp hp)
    have e1 := List.drop_eq_getElem_cons hl.1
    rw [hl.2, show cutL 47 l - 1 + 1 = cutL 47 l from by omega] at e1
    unfold tlL
    rw [← e1, List.take_append_drop]
  · have hp := cutL_pos 47 l h
    have e := List.take_add_one (l := l) (i := cutL 47 l - 1)
    rw [show cutL 47 l - 1 + 1 = cutL 47 l from by omega, hp] at e
    exact e
theorem tl_slash (l : List Nat) : 47 ∉ tlL l := by
  intro h
  obtain ⟨i, hi⟩ := List.mem_iff_getElem?.mp h
  unfold tlL at hi
  rw [List.getElem?_drop] at hi
  exact cutL_behind 47 l _ (Nat.le_add_right _ _) hi
theorem head_tail (l : List Nat) : l = l.take (cutL 47 l) ++ tlL l := (List.take_append_drop _ _).symm
theorem lead_app {a b : List Nat} (h : ∃ x ∈ a, x ≠ 47) : leadL (a ++ b) = leadL a := by
  induction a with
  | nil => obtain ⟨x, hx, _⟩ := h; cases hx
  | cons y a ih =>
    unfold leadL at *
    rw [List.cons_append, List.takeWhile_cons, List.takeWhile_cons]
    by_cases hy : y = 47
    · subst hy
      obtain ⟨x, hx, h2⟩ := h
      rcases List.mem_cons.mp hx with h3 | h3
      · exact absurd h3 h2
      · rw [ih ⟨x, h3, h2⟩]
    · simp [hy]
theorem lead_run {a b : List Nat} (ha : ∀ x ∈ a, x = 47) (hb : 47 ∉ b) : leadL (a ++ b) = a := by
  induction a with
  | nil =>
    unfold leadL
    cases b with
    | nil => rfl
    | cons y b =>
      rw [List.nil_append, List.takeWhile_cons]
      have : y ≠ 47 := fun e => hb (by rw [e]; exact .head _)
      simp [this]
  | cons y a ih =>
    have hy := ha y (.head _)
    subst hy
    have := ih fun x hx => ha x (.tail _ hx)
    unfold leadL at *
    rw [List.cons_append, List.takeWhile_cons, this]; rfl
theorem headL_a {l : List Nat} (h : ∀ x ∈ l.take (cutL 47 l), x = 47) : headL l = l.take (cutL 47 l) := by
  unfold headL
  rw [if_neg (by
    rintro ⟨h1, h2⟩
    exact h2 (rep_last h))]
theorem headL_b {l : List Nat} (h : ∃ x ∈ l.take (cutL 47 l), x ≠ 47) : headL l = rstL 47 (l.take (cutL 47 l)) := by
  unfold headL
  obtain ⟨x, hx, h2⟩ := h
  rw [if_pos ⟨fun e => (by rw [e] at hx; cases hx), fun e => (by rw [e] at hx; exact h2 (List.eq_of_mem_replicate hx))⟩]
theorem head_or (l : List Nat) : (∀ x ∈ l.take (cutL 47 l), x = 47) ∨ ∃ x ∈ l.take (cutL 47 l), x ≠ 47 := by
  by_cases h : ∃ x ∈ l.take (cutL 47 l), x ≠ 47
  · exact .inr h
  · exact .inl fun x hx => Decidable.byContradiction fun h2 => h ⟨x, hx, h2⟩
theorem head_pre (l : List Nat) : ∃ r, l = headL l ++ r := by
  rcases head_or l with h | h
  · exact ⟨_, by rw [headL_a h]; exact head_tail l⟩
  · obtain ⟨k, h1, _⟩ := rstL_run 47 (l.take (cutL 47 l))
    rw [headL_b h]
    exact ⟨List.replicate k 47 ++ tlL l, by rw [← List.append_assoc, ← h1]; exact head_tail l⟩
theorem head_take (l : List Nat) : l.take (headL l).length = headL l := by
  obtain ⟨r, e⟩ := head_pre l
  have : l.take (headL l).length = (headL l ++ r).take (headL l).length := by rw [← e]
  rw [this, List.take_left']
  rfl
theorem head_stays {l : List Nat} (h : headL l = l) : (∀ x ∈ l, x = 47) ∧ tlL l = [] := by
  have htl := tl_slash l
  have key : tlL l = [] → (∀ x ∈ l, x = 47) → (∀ x ∈ l, x = 47) ∧ tlL l = [] := fun a b => ⟨b, a⟩
  rcases head_or l with ho | ho
  · have e := headL_a ho
    rw [h] at e
    refine ⟨fun x hx => ho x (by rw [← e]; exact hx), ?_⟩
    have e2 := head_tail l
    rw [← e] at e2
    exact List.append_cancel_left (as := l) (by rw [← e2, List.append_nil])
  · obtain ⟨k, h1, h2⟩ := rstL_run 47 (l.take (cutL 47 l))
    have e := headL_b ho
    rw [h] at e
    rw [← e] at h1 h2
    have hl := congrArg List.length h1
    simp at hl
    have hk : k = 0 := by omega
    subst hk
    have h3 : l.take (cutL 47 l) = l := by rw [h1]; simp
    rcases Nat.eq_zero_or_pos (cutL 47 l) with hc | hc
    · rw [hc] at ho; obtain ⟨x, hx, _⟩ := ho; cases hx
    · obtain ⟨P, _, e2⟩ := cut_split l hc
      rw [h3] at e2
      exact absurd (by rw [e2]; simp) h2
theorem names_step {l : List Nat} (h : headL l ≠ l) : namesL l = namesL (headL l) ++ [tlL l] := by
  have htl := tl_slash l
  rcases Nat.eq_zero_or_pos (cutL 47 l) with hc | hc
  · have h0 : l.take (cutL 47 l) = [] := by rw [hc]; rfl
    have e : tlL l = l := by unfold tlL; rw [hc]; rfl
    have eh : headL l = [] := by rw [headL_a (by rw [h0]; simp), h0]
    rw [e] at htl ⊢
    have hl : l ≠ [] := fun e => h (by rw [eh, e])
    have hlast : l.getLast? ≠ some 47 := fun e => htl (last_mem e)
    rw [eh]
    unfold namesL
    rw [pcs_none htl, if_neg hl, if_neg (fun x => hlast x.2)]
    rfl
  · obtain ⟨P, e1, e2⟩ := cut_split l hc
    have hpc : pcs l = pcs P ++ pcs (tlL l) := by
      have := pcs_app P (tlL l)
      rw [← e1] at this; exact this
    have hlast : l.getLast? = if tlL l = [] then some 47 else (tlL l).getLast? := by
      conv => lhs; rw [e1]
      split
      · rename_i ht; rw [ht]; simp
      · rename_i ht
        rw [List.getLast?_append, List.getLast?_cons]
        cases hg : (tlL l).getLast? with
        | none => exact absurd (List.getLast?_eq_none_iff.mp hg) ht
        | some y => rfl
    rcases head_or l with ho | ho
    · have eh := headL_a ho
      have hP : P = List.replicate P.length 47 := rep_last fun x hx => ho x (by rw [e2]; exact List.mem_append_left _ hx)
      have hpP : pcs P = [] := by rw [hP]; exact pcs_rep _
      have ht : tlL l ≠ [] := by
        intro e
        apply h
        rw [eh, e2]
        conv => rhs; rw [e1, e]
      have hph : pcs (headL l) = [] := by
        rw [eh, e2, ← List.replicate_one, pcs_trail, hpP]
      have hl2 : l.getLast? ≠ some 47 := by
        rw [hlast, if_neg ht]
        exact fun e => htl (last_mem e)
      unfold namesL
      rw [hpc, hpP, hph, pcs_none htl, if_neg ht, if_neg (fun x => hl2 x.2), if_neg (fun x => x.1 rfl)]
      rfl
    · have eh := headL_b ho
      obtain ⟨k, h1, h2⟩ := rstL_run 47 (l.take (cutL 47 l))
      rw [← eh] at h1 h2
      have hpQ : pcs (headL l) = pcs P := by
        have a1 := pcs_trail (headL l) k
        rw [← h1, e2, ← List.replicate_one, pcs_trail] at a1
        exact a1.symm
      have hnn : pcs (headL l) ≠ [] := by
        intro hn
        have hq : headL l ≠ [] := by
          intro e
          obtain ⟨x, hx, hx2⟩ := ho
          rw [h1, e, List.nil_append] at hx
          exact hx2 (List.eq_of_mem_replicate hx)
        have : ∀ p ∈ splitL 47 (headL l), p = [] := fun p hp => Decidable.byContradiction fun h3 => by
          have : p ∈ pcs (headL l) := List.mem_filter.mpr ⟨hp, by simp [h3]⟩
          rw [hn] at this; cases this
        have hj := join_splitL 47 (headL l)
        obtain ⟨y, hy⟩ : ∃ y, (headL l).getLast? = some y := by
          cases hg : (headL l).getLast? with
          | none => exact absurd (List.getLast?_eq_none_iff.mp hg) hq
          | some y => exact ⟨y, rfl⟩
        have hall : ∀ ps : List (List Nat), (∀ p ∈ ps, p = []) → ∀ x ∈ joinL [47] ps, x = 47 := by
          intro ps
          induction ps with
          | nil => intro _ x hx; cases hx
          | cons p r ih =>
            intro h x hx
            cases r with
            | nil => rw [h p (.head _)] at hx; cases hx
            | cons q r =>
              have hx' : x ∈ p ++ [47] ++ joinL [47] (q :: r) := hx
              rw [h p (.head _)] at hx'
              rcases List.mem_append.mp hx' with h5 | h5
              · simpa using h5
              · exact ih (fun p hp => h p (.tail _ hp)) x h5
        have := hall _ this y (by rw [hj]; exact last_mem hy)
        rw [this] at hy
        exact h2 hy
      have hnq : namesL (headL l) = [[]] ++ pcs P := by
        unfold namesL
        rw [if_neg (fun x => h2 x.2), hpQ, List.append_nil]
      rw [hnq]
      unfold namesL
      rw [hpc, pcs_none htl]
      by_cases ht : tlL l = []
      · rw [if_pos ht, if_pos ⟨by rw [← hpQ]; simpa using hnn, by rw [hlast, if_pos ht]⟩, ht]
        simp
      · rw [if_neg ht, if_neg (fun x => by
          have := x.2
          rw [hlast, if_neg ht] at this
          exact htl (last_mem this))]
        simp
theorem lead_step (l : List Nat) : leadL (headL l) = leadL l := by
  have htl := tl_slash l
  rcases head_or l with ho | ho
  · rw [headL_a ho]
    conv => rhs; rw [head_tail l]
    rw [lead_run ho htl]
    have := lead_run (b := []) ho (by simp)
    rwa [List.append_nil] at this
  · obtain ⟨k, h1, h2⟩ := rstL_run 47 (l.take (cutL 47 l))
    have eh := headL_b ho
    rw [← eh] at h1 h2
    have hq : ∃ x ∈ headL l, x ≠ 47 := by
      obtain ⟨x, hx, hx2⟩ := ho
      rw [h1] at hx
      rcases List.mem_append.mp hx with h5 | h5
      · exact ⟨x, h5, hx2⟩
      · exact absurd (List.eq_of_mem_replicate h5) hx2
    conv => rhs; rw [head_tail l, h1, List.append_assoc]
    rw [lead_app hq]
theorem head_lt {l : List Nat} (h : headL l ≠ l) : (headL l).length < l.length := by
  obtain ⟨r, e⟩ := head_pre l
  have : r ≠ [] := fun e2 => h (by rw [e2, List.append_nil] at e; exact e.symm)
  have hr := List.length_pos_iff.mpr this
  have := congrArg List.length e
  rw [List.length_append] at this
  omega
theorem lead_all {l : List Nat} (h : ∀ x ∈ l, x = 47) : leadL l = l := by
  have := lead_run (b := []) h (by simp)
  rwa [List.append_nil] at this
theorem names_all {l : List Nat} (h : ∀ x ∈ l, x = 47) : namesL l = [[]] := by
  have : pcs l = [] := by rw [rep_last h]; exact pcs_rep _
  unfold namesL
  rw [this, if_neg (fun x => x.1 rfl)]; rfl
theorem lead_lst (l : List Nat) : l.take (l.length - (lstL 47 l).length) = leadL l := by
  unfold lstL leadL
  rw [dropWhile_drop, List.length_drop]
  have h : l = l.takeWhile (fun x => x == 47) ++ l.dropWhile (fun x => x == 47) := List.takeWhile_append_dropWhile.symm
  have hle : (l.takeWhile (fun x => x == 47)).length ≤ l.length := (List.takeWhile_sublist _).length_le
  rw [show l.length - (l.length - (l.takeWhile (fun x => x == 47)).length) = (l.takeWhile (fun x => x == 47)).length from by omega]
  conv => lhs; arg 2; rw [h]
  rw [List.take_left']
  rfl
theorem pcs_pos {l : List Nat} (h : pcs l ≠ []) : 0 < l.length := by
  cases l with
  | nil => exact absurd rfl h
  | cons => simp
end Mine
namespace Mine
theorem end_nm {here lc : List Nat} {ts Z : List (List Nat)} (hh : headL here = here) (hnm : namesL here ++ ts = namesL lc) (hz : namesL lc = Z) : tlL here :: ts = Z := by
  obtain ⟨h1, h2⟩ := head_stays hh
  rw [← hz, ← hnm, names_all h1, h2]; rfl
theorem names_yes {l : List Nat} {c : Nat} (h1 : pcs l ≠ []) (h2 : l.getLast? = some c) (h3 : [c] = [47]) : namesL l = [[]] ++ pcs l ++ [[]] := by
  have : c = 47 := by simpa using h3
  subst this
  unfold namesL; rw [if_pos ⟨h1, h2⟩]
theorem names_no1 {l : List Nat} {c : Nat} (h2 : l.getLast? = some c) (h3 : ¬ [c] = [47]) : namesL l = [[]] ++ pcs l := by
  unfold namesL
  rw [if_neg (fun x => by
    have := x.2
    rw [h2] at this
    exact h3 (by cases this; rfl)), List.append_nil]
theorem names_no2 {l : List Nat} (h1 : ¬ pcs l ≠ []) : namesL l = [[]] ++ pcs l := by
  unfold namesL
  rw [if_neg (fun x => h1 x.1), List.append_nil]
theorem names_no3 {l : List Nat} (h1 : pcs l = []) : namesL l = [[]] ++ pcs l := names_no2 fun h => h h1
theorem end_top {here lc : List Nat} (hh : headL here = here) (hld : leadL here = leadL lc) : here = pySl lc none (some ((lc.length : Int) - ((lstL 47 lc).length : Int))) := by
  have hl := lstL_length 47 lc
  rw [show (lc.length : Int) - ((lstL 47 lc).length : Int) = ((lc.length - (lstL 47 lc).length : Nat) : Int) from by omega, pySl_to, lead_lst, ← hld, lead_all (head_stays hh).1]
end Mine
namespace Mine
/-! the plain law of 06 -/
def dd : List Nat := [46, 46]
def bstep (st : Nat × List (List Nat)) (p : List Nat) : Nat × List (List Nat) :=
  if p = [46, 46] then (st.1 + 1, st.2) else if p ∉ [[], [46]] then (if 0 < st.1 then (st.1 - 1, st.2) else (st.1, p :: st.2)) else st
def back (ps : List (List Nat)) : Nat × List (List Nat) := ps.reverse.foldl bstep (0, [])
theorem back_nil : back [] = (0, []) := rfl
theorem back_cons (p : List Nat) (ps : List (List Nat)) : back (p :: ps) = bstep (back ps) p := by
  unfold back; rw [List.reverse_cons, List.foldl_append]; rfl
/-- what the forward way makes of a stack: k debts, names ns, by what lies behind -/
theorem forward {root : List Nat} : ∀ (ps : List (List Nat)) (k : Nat) (ns : List (List Nat)), (∀ q ∈ ns, q ≠ [46, 46]) → (root ≠ [] → k = 0) →
    ps.foldl (nstep root) (List.replicate k [46, 46] ++ ns) = (if (back ps).1 ≤ ns.length then List.replicate k [46, 46] ++ ns.take (ns.length - (back ps).1) else if root = [] then List.replicate (k + (back ps).1 - ns.length) [46, 46] else []) ++ (back ps).2
  | [], k, ns, _, _ => by simp [back_nil]
  | p :: ps, k, ns, h, hr => by
    rw [List.foldl_cons, back_cons]
    unfold bstep
    by_cases hd : p = [46, 46]
    · rw [if_pos hd]
      rcases List.eq_nil_or_concat ns with e | ⟨ms, x, e⟩
      · subst e
        by_cases hroot : root = []
        · have e1 : nstep root (List.replicate k [46, 46] ++ []) p = List.replicate (k + 1) [46, 46] ++ [] := by
            unfold nstep
            rw [if_neg (by rw [hd]; simp)]
            rw [if_pos]
            · rw [hd, List.append_nil, List.append_nil, List.replicate_succ']
            · rw [List.append_nil]
              cases k with
              | zero => exact .inr (.inl ⟨hroot, rfl⟩)
              | succ k => exact .inr (.inr (by rw [List.replicate_succ', List.getLast?_append]; rfl))
          rw [e1, forward ps (k + 1) [] (by simp) (fun x => absurd hroot x)]
          simp only [List.length_nil, Nat.le_zero, Nat.add_eq_zero_iff, List.take_nil, hroot, if_true, Nat.sub_zero]
          by_cases hb : (back ps).1 = 0
          · rw [if_pos hb, if_neg (by omega), hb]; simp
          · rw [if_neg hb, if_neg (by omega)]
            congr 2
            omega
        · have hk := hr hroot
          subst hk
          have e1 : nstep root (List.replicate 0 [46, 46] ++ []) p = List.replicate 0 [46, 46] ++ [] := by
            unfold nstep
            rw [if_neg (by rw [hd]; simp), if_neg]
            · rfl
            · rintro (x | ⟨x, _⟩ | x)
              · exact x hd
              · exact hroot x
              · cases x
          rw [e1, forward ps 0 [] (by simp) (fun _ => rfl)]
          simp only [List.length_nil, Nat.le_zero, Nat.add_eq_zero_iff, List.take_nil, hroot, if_false]
          by_cases hb : (back ps).1 = 0
          · rw [if_pos hb, if_neg (by omega)]; rfl
          · rw [if_neg hb, if_neg (by omega)]
      · rw [List.concat_eq_append] at e
        subst e
        have hx := h x (by simp)
        have e1 : nstep root (List.replicate k [46, 46] ++ (ms ++ [x])) p = List.replicate k [46, 46] ++ ms := by
          unfold nstep
          rw [if_neg (by rw [hd]; simp), if_neg]
          · rw [← List.append_assoc, List.dropLast_concat]
          · rintro (y | ⟨_, y⟩ | y)
            · exact y hd
            · simp at y
            · rw [← List.append_assoc, List.getLast?_concat] at y
              exact hx (Option.some.inj y)
        rw [e1, forward ps k ms (fun q hq => h q (by simp [hq])) hr]
        simp only [List.length_append, List.length_singleton]
        by_cases hb : (back ps).1 ≤ ms.length
        · rw [if_pos hb, if_pos (by omega)]
          rw [show ms.length + 1 - ((back ps).1 + 1) = ms.length - (back ps).1 from by omega, List.take_append_of_le_length (by omega)]
        · rw [if_neg hb, if_neg (show ¬ ((back ps).1 + 1 ≤ ms.length + 1) from by omega), show k + (back ps).1 - ms.length = k + ((back ps).1 + 1) - (ms.length + 1) from by omega]
    · rw [if_neg hd]
      by_cases hs : p ∉ [[], [46]]
      · rw [if_pos hs]
        have hp : ¬ (p = [] ∨ p = [46]) := by simpa using hs
        have e1 : nstep root (List.replicate k [46, 46] ++ ns) p = List.replicate k [46, 46] ++ (ns ++ [p]) := by
          unfold nstep
          rw [if_neg hp, if_pos (.inl hd), List.append_assoc]
        rw [e1, forward ps k (ns ++ [p]) (fun q hq => by
          rcases List.mem_append.mp hq with hq | hq
          · exact h q hq
          · rw [List.mem_singleton.mp hq]; exact hd) hr]
        simp only [List.length_append, List.length_singleton]
        by_cases hb : 0 < (back ps).1
        · rw [if_pos hb]
          simp only
          by_cases hc : (back ps).1 ≤ ns.length + 1
          · rw [if_pos hc, if_pos (by omega)]
            rw [show ns.length + 1 - (back ps).1 = ns.length - ((back ps).1 - 1) from by omega, List.take_append_of_le_length (by omega)]
          · rw [if_neg hc, if_neg (show ¬ ((back ps).1 - 1 ≤ ns.length) from by omega), show k + (back ps).1 - (ns.length + 1) = k + ((back ps).1 - 1) - ns.length from by omega]
        · rw [if_neg hb]
          have h0 : (back ps).1 = 0 := by omega
          simp only [h0, Nat.zero_le, if_true, Nat.sub_zero, List.take_length]
          rw [show ns.length + 1 = (ns ++ [p]).length from by simp, List.take_length]
          simp
      · rw [if_neg hs]
        have hp : p = [] ∨ p = [46] := by
          have := Decidable.not_not.mp hs
          simpa using this
        have e1 : nstep root (List.replicate k [46, 46] ++ ns) p = List.replicate k [46, 46] ++ ns := by
          unfold nstep; rw [if_pos hp]
        rw [e1, forward ps k ns h hr]
theorem forward0 (root : List Nat) (ps : List (List Nat)) : ps.foldl (nstep root) [] = (if root = [] then List.replicate (back ps).1 [46, 46] else []) ++ (back ps).2 := by
  have h := forward (root := root) ps 0 [] (by simp) (fun _ => rfl)
  simp only [List.replicate_zero, List.nil_append, List.length_nil, Nat.le_zero, List.take_nil, Nat.sub_zero, Nat.zero_add] at h
  rw [h]
  by_cases h0 : (back ps).1 = 0
  · rw [if_pos h0, h0]; split <;> rfl
  · rw [if_neg h0]
/-- the root, by the run at the front -/
theorem lead_cons (x : Nat) (l : List Nat) : leadL (x :: l) = if x = 47 then x :: leadL l else [] := by
  unfold leadL; rw [List.takeWhile_cons]; by_cases h : x = 47 <;> simp [h]
theorem root_lead (l : List Nat) : rootL l = if (leadL l).length = 2 then [47, 47] else if 0 < (leadL l).length then [47] else [] := by
  unfold rootL
  match l with
  | [] => simp [leadL]
  | [a] => by_cases h : a = 47 <;> simp [h, leadL]
  | [a, b] => by_cases h : a = 47 <;> by_cases h2 : b = 47 <;> simp [h, h2, leadL]
  | a :: b :: c :: r =>
    rw [lead_cons, lead_cons, lead_cons]
    by_cases h : a = 47
    · by_cases h2 : b = 47
      · by_cases h3 : c = 47
        · simp [h, h2, h3]
        · simp [h, h2, h3]
      · simp [h, h2]
    · simp [h]
theorem split_root : ∀ (k : Nat) (r : List Nat), splitL 47 (List.replicate k 47 ++ r) = List.replicate k [] ++ splitL 47 r
  | 0, _ => rfl
  | k + 1, r => by
    rw [List.replicate_succ, List.cons_append, List.replicate_succ, List.cons_append, ← split_root k r]
    show (if (47 : Nat) = 47 then _ else _) = _
    rw [if_pos rfl]
theorem back_nils (ps : List (List Nat)) : ∀ k, back (List.replicate k [] ++ ps) = back ps
  | 0 => rfl
  | k + 1 => by
    rw [List.replicate_succ, List.cons_append, back_cons, back_nils ps k]
    unfold bstep
    rw [if_neg (by simp), if_neg (by simp)]
theorem root_drop (l : List Nat) : l = List.replicate (rootL l).length 47 ++ l.drop (rootL l).length := by
  unfold rootL
  split
  · rfl
  · rename_i h
    have e1 : l.take 1 = [47] := Decidable.not_not.mp h
    split
    · have := List.take_append_drop 1 l
      rw [e1] at this; exact this.symm
    · rename_i h2
      have e2 : (l.drop 1).take 1 = [47] := Decidable.not_not.mp fun x => h2 (.inl x)
      have e := List.take_add (l := l) (i := 1) (j := 1)
      rw [e1, e2] at e
      have := List.take_append_drop 2 l
      rw [show l.take 2 = [47, 47] from e] at this; exact this.symm
theorem ncomps_back (l : List Nat) : ncomps l = (if rootL l = [] then List.replicate (back (splitL 47 l)).1 [46, 46] else []) ++ (back (splitL 47 l)).2 := by
  unfold ncomps
  rw [forward0]
  have e : back (splitL 47 l) = back (splitL 47 (l.drop (rootL l).length)) := by
    conv => lhs; rw [root_drop l]
    rw [split_root, back_nils]
  rw [e]
theorem rootL_nil_of {l : List Nat} (h : l = []) : normL l = [46] := by unfold normL; rw [if_pos h]
/-- normpath, from behind -/
theorem norm_back (l : List Nat) : normL l = (if rootL l ++ joinL [47] ((if rootL l = [] then List.replicate (back (splitL 47 l)).1 [46, 46] else []) ++ (back (splitL 47 l)).2) ≠ [] then rootL l ++ joinL [47] ((if rootL l = [] then List.replicate (back (splitL 47 l)).1 [46, 46] else []) ++ (back (splitL 47 l)).2) else [46]) := by
  rw [← ncomps_back]
  unfold normL
  by_cases h : l = []
  · subst h; rfl
  · rw [if_neg h]
    by_cases h2 : rootL l ++ joinL [47] (ncomps l) = []
    · rw [if_pos h2, if_neg (fun x => x h2)]
    · rw [if_neg h2, if_pos h2]
theorem back_wt : ∀ ps : List (List Nat), 3 * (back ps).1 + wt (back ps).2 ≤ wt ps
  | [] => by simp [back_nil, wt]
  | p :: ps => by
    have ih := back_wt ps
    have e : wt (p :: ps) = (p.length + 1) + wt ps := by simp [wt]
    rw [back_cons, e]
    unfold bstep
    split
    · rename_i h
      rw [h]; simp only [List.length_cons, List.length_nil]; omega
    · split
      · split
        · simp only; omega
        · have : wt (p :: (back ps).2) = (p.length + 1) + wt (back ps).2 := by simp [wt]
          simp only [this]; omega
      · omega
theorem lead_len (l : List Nat) : (leadL l).length + (lstL 47 l).length = l.length := by
  have h : l.takeWhile (fun x => x == 47) ++ l.dropWhile (fun x => x == 47) = l := List.takeWhile_append_dropWhile
  have := congrArg List.length h
  rw [List.length_append] at this
  exact this
theorem root_of2 {l : List Nat} (h : (l.length : Int) - ((lstL 47 l).length : Int) = 2) : rootL l = [47, 47] := by
  have := lead_len l
  rw [root_lead, if_pos (by omega)]
theorem root_of1 {l : List Nat} (h : ¬ (l.length : Int) - ((lstL 47 l).length : Int) = 2) (h2 : 0 < (l.length : Int) - ((lstL 47 l).length : Int)) : rootL l = [47] := by
  have := lead_len l
  rw [root_lead, if_neg (by omega), if_pos (by omega)]
theorem root_of0 {l : List Nat} (h2 : ¬ 0 < (l.length : Int) - ((lstL 47 l).length : Int)) : rootL l = [] := by
  have := lead_len l
  rw [root_lead, if_neg (by omega), if_neg (by omega)]
theorem bstep_a {st : Nat × List (List Nat)} {p : List Nat} (h : p = [46, 46]) : bstep st p = (st.1 + 1, st.2) := by unfold bstep; rw [if_pos h]
theorem bstep_b {st : Nat × List (List Nat)} {p : List Nat} (h : ¬ p = [46, 46]) (h2 : p ∉ [[], [46]]) (h3 : 0 < (st.1 : Int)) : bstep st p = (st.1 - 1, st.2) := by unfold bstep; rw [if_neg h, if_pos h2, if_pos (by omega)]
theorem bstep_c {st : Nat × List (List Nat)} {p : List Nat} (h : ¬ p = [46, 46]) (h2 : p ∉ [[], [46]]) (h3 : ¬ 0 < (st.1 : Int)) : bstep st p = (st.1, p :: st.2) := by unfold bstep; rw [if_neg h, if_pos h2, if_neg (by omega)]
theorem bstep_d {st : Nat × List (List Nat)} {p : List Nat} (h : ¬ p = [46, 46]) (h2 : ¬ p ∉ [[], [46]]) : bstep st p = st := by unfold bstep; rw [if_neg h, if_neg h2]
theorem bfold_take {ps : List (List Nat)} {i : Nat} {p : List Nat} (h : ps[i]? = some p) : (ps.take (i + 1)).foldl bstep (0, []) = bstep ((ps.take i).foldl bstep (0, [])) p := by
  rw [List.take_add_one, h, List.foldl_append]; rfl
theorem fin_r {l r : List Nat} (hr : rootL l = r) (hne : r ≠ []) (h : r ++ joinL [47] (back (splitL 47 l)).2 ≠ []) : normL l = r ++ joinL [47] (back (splitL 47 l)).2 := by
  rw [norm_back, hr, if_neg hne, List.nil_append, if_pos h]
theorem fin_0 {l : List Nat} (hr : rootL l = []) (h : [] ++ joinL [47] (List.replicate (back (splitL 47 l)).1 [46, 46] ++ (back (splitL 47 l)).2) ≠ []) : normL l = [] ++ joinL [47] (List.replicate (back (splitL 47 l)).1 [46, 46] ++ (back (splitL 47 l)).2) := by
  rw [norm_back, hr, if_pos rfl, if_pos h]
theorem fin_dot {l : List Nat} (hr : rootL l = []) (h : ¬ [] ++ joinL [47] (List.replicate (back (splitL 47 l)).1 [46, 46] ++ (back (splitL 47 l)).2) ≠ []) : normL l = [46] := by
  rw [norm_back, hr, if_pos rfl, if_neg h]
theorem fin_0b {l : List Nat} (hr : rootL l = []) (h : joinL [47] (List.replicate (back (splitL 47 l)).1 [46, 46] ++ (back (splitL 47 l)).2) ≠ []) : normL l = joinL [47] (List.replicate (back (splitL 47 l)).1 [46, 46] ++ (back (splitL 47 l)).2) := fin_0 hr h
theorem fin_dotb {l : List Nat} (hr : rootL l = []) (h : ¬ joinL [47] (List.replicate (back (splitL 47 l)).1 [46, 46] ++ (back (splitL 47 l)).2) ≠ []) : normL l = [46] := fin_dot hr h
theorem fin_1 {l : List Nat} (hr : rootL l = [47]) : normL l = 47 :: joinL [47] (back (splitL 47 l)).2 := fin_r hr (by simp) (by simp)
theorem fin_2 {l : List Nat} (hr : rootL l = [47, 47]) : normL l = 47 :: 47 :: joinL [47] (back (splitL 47 l)).2 := fin_r hr (by simp) (by simp)
end Mine
namespace Mine
/-! the walk's own lines -/
local macro_rules | `(tactic| k_room) => `(tactic| ktr_room)
local macro_rules | `(tactic| k_units) => `(tactic| ktr_units)
local macro_rules | `(tactic| walk_at "call builtin:issubclass") => `(tactic| (k_here; first
  | ((with_reducible show wpAny _ _ (call (Value.builtin _) [Value.type "str", Value.ref _]) _ _ _); refine issub_str (News.get (by assumption) (by k_mem)) ?_; intro tk9)
  | ((with_reducible show wpAny _ _ (call (Value.builtin _) [Value.type "bytes", Value.ref _]) _ _ _); refine issub_bytes (News.get (by assumption) (by k_mem)) ?_; intro tk9)))
local macro_rules | `(tactic| walk_at "getMethod bytes") => `(tactic| (k_here; first | with_reducible refine meth_rfind ?_ | with_reducible refine meth_rstrip ?_ | with_reducible refine meth_split ?_ | with_reducible refine meth_join ?_ | with_reducible refine meth_startswith ?_ | with_reducible refine meth_endswith ?_))
local macro_rules | `(tactic| walk_at "call builtin:str.rfind") => `(tactic| (k_here; (with_reducible show wpAny _ _ (call (Value.builtin _) [Value.str (mkS _) _, Value.str _ _]) _ _ _); k_dflt (refine' rfind_S ?hy ?_; (case hy => first | with_reducible rfl | with_reducible exact lit_slash | with_reducible exact lit_dot); k_whole)))
local macro_rules | `(tactic| walk_at "call builtin:str.rstrip") => `(tactic| (k_here; (with_reducible show wpAny _ _ (call (Value.builtin _) [Value.str (mkS _) _, Value.str _ _]) _ _ _); k_dflt (refine' rstrip_S ?hy ?hz ?_; (case hy => first | with_reducible rfl | with_reducible exact lit_slash | with_reducible exact lit_dot); (case hz => omega); k_whole); intro t' tk' hlen'))
local macro_rules | `(tactic| walk_at "call builtin:str.lstrip") => `(tactic| (k_here; (with_reducible show wpAny _ _ (call (Value.builtin _) [Value.str (mkS _) _, Value.str _ _]) _ _ _); k_dflt (refine' lstrip_S ?hy ?hz ?_; (case hy => first | with_reducible rfl | with_reducible exact lit_slash | with_reducible exact lit_dot); (case hz => omega); k_whole); intro t' tk' hlen'))
local macro_rules | `(tactic| walk_at "call builtin:bytes.rfind") => `(tactic| (k_here; (with_reducible show wpAny _ _ (call (Value.builtin _) [Value.bytes (mkB _) _, Value.bytes _ _]) _ _ _); k_dflt (refine' rfind_B ?hs ?hy ?hc ?_; (case hs => with_reducible assumption); (case hy => exact rfl); (case hc => decide); k_whole)))
local macro_rules | `(tactic| walk_at "call builtin:bytes.rstrip") => `(tactic| (k_here; (with_reducible show wpAny _ _ (call (Value.builtin _) [Value.bytes (mkB _) _, Value.bytes _ _]) _ _ _); k_dflt (refine' rstrip_B ?hs ?hy ?hc ?hz ?_; (case hs => first | with_reducible assumption | exact Small.sl (by with_reducible assumption) _ _); (case hy => exact rfl); (case hc => decide); (case hz => omega); k_whole); intro t' tk' hlen'))
local macro_rules | `(tactic| walk_at "call builtin:len") => `(tactic| (k_here; first
  | ((with_reducible show wpAny _ _ (call (Value.builtin "len") [Value.str (mkS _) _]) _ _ _); k_dflt (refine' len_S ?hz ?_; (case hz => omega); k_whole))
  | ((with_reducible show wpAny _ _ (call (Value.builtin "len") [Value.bytes (mkB _) _]) _ _ _); k_dflt (refine' len_B ?hz ?_; (case hz => omega); k_whole))))
local macro_rules | `(tactic| walk_at "truthy str") => `(tactic| (k_here; (with_reducible show wpAny _ _ (truthy (Value.str (mkS _) _)) _ _ _); k_dflt (refine' truthy_S ?hz ?_; (case hz => omega); k_whole)))
local macro_rules | `(tactic| walk_at "truthy bytes") => `(tactic| (k_here; (with_reducible show wpAny _ _ (truthy (Value.bytes (mkB _) _)) _ _ _); k_dflt (refine' truthy_B ?hz ?_; (case hz => omega); k_whole)))
local macro_rules | `(tactic| walk_at "compareOp Eq str str") => `(tactic| (k_here; k_dflt (refine' eq_S ?hx ?hy ?_; (case hx => first | with_reducible rfl | with_reducible exact lit_slash | with_reducible exact lit_dot | with_reducible exact lit_dd | with_reducible exact lit_nil); (case hy => first | with_reducible rfl | with_reducible exact lit_slash | with_reducible exact lit_dot | with_reducible exact lit_dd | with_reducible exact lit_nil); k_whole)))
local macro_rules | `(tactic| walk_at "compareOp NotEq str str") => `(tactic| (k_here; k_dflt (refine' ne_S ?hx ?hy ?_; (case hx => first | with_reducible rfl | with_reducible exact lit_slash | with_reducible exact lit_dot | with_reducible exact lit_dd | with_reducible exact lit_nil); (case hy => first | with_reducible rfl | with_reducible exact lit_slash | with_reducible exact lit_dot | with_reducible exact lit_dd | with_reducible exact lit_nil); k_whole)))
local macro_rules | `(tactic| walk_at "compareOp Eq bytes bytes") => `(tactic| (k_here; k_dflt (refine' eq_B ?hx ?hy ?h1 ?h2 ?_; (case hx => first | with_reducible rfl | with_reducible exact lit_slashB | with_reducible exact lit_dotB | with_reducible exact lit_ddB | with_reducible exact lit_nilB); (case hy => first | with_reducible rfl | with_reducible exact lit_slashB | with_reducible exact lit_dotB | with_reducible exact lit_ddB | with_reducible exact lit_nilB); (case h1 => first | with_reducible assumption | exact Small.sl (by with_reducible assumption) _ _ | (unfold Small; decide)); (case h2 => first | with_reducible assumption | exact Small.sl (by with_reducible assumption) _ _ | (unfold Small; decide)); k_whole)))
local macro_rules | `(tactic| walk_at "compareOp NotEq bytes bytes") => `(tactic| (k_here; k_dflt (refine' ne_B ?hx ?hy ?h1 ?h2 ?_; (case hx => first | with_reducible rfl | with_reducible exact lit_slashB | with_reducible exact lit_dotB | with_reducible exact lit_ddB | with_reducible exact lit_nilB); (case hy => first | with_reducible rfl | with_reducible exact lit_slashB | with_reducible exact lit_dotB | with_reducible exact lit_ddB | with_reducible exact lit_nilB); (case h1 => first | with_reducible assumption | exact Small.sl (by with_reducible assumption) _ _ | (unfold Small; decide) | exact Small.rep (by decide) _); (case h2 => first | with_reducible assumption | exact Small.sl (by with_reducible assumption) _ _ | (unfold Small; decide) | exact Small.rep (by decide) _); k_whole)))
local macro_rules | `(tactic| walk_at "binaryOp Mult str int") => `(tactic| (k_here; (with_reducible show wpAny _ _ (binaryOp Operator.Mult (Value.str _ _) (Value.int (Nat.cast _) _)) _ _ _); k_dflt (refine' mul_S ?hy ?hz ?_; (case hy => first | with_reducible rfl | with_reducible exact lit_slash | with_reducible exact lit_dot); (case hz => omega); k_whole); intro t' tk'))
local macro_rules | `(tactic| walk_at "binaryOp Mult bytes int") => `(tactic| (k_here; (with_reducible show wpAny _ _ (binaryOp Operator.Mult (Value.bytes _ _) (Value.int (Nat.cast _) _)) _ _ _); k_dflt (refine' mul_B ?hy ?hz ?_; (case hy => exact rfl); (case hz => omega); k_whole); intro t' tk'))
local macro_rules | `(tactic| walk_at "subscriptTail Name Slice str ref") => `(tactic| (k_here; (with_reducible show wpAny _ _ (subscriptTail _ (Expr.Slice _ _ none _) (Value.str (mkS _) _) (Value.ref _)) _ _ _); (with_reducible rename Fr _ _ _ _ => F'); (with_reducible rename News _ _ _ _ => N'); k_dflt (refine' slice_S (s := ⟨_, _, _, _, _⟩) F' N' ?h1 ?h2 ?hz ?_; (case h1 => constructor); (case h2 => constructor); (case hz => omega); k_whole); intro h' t' tk' F' N' hlen'; (try k_sweep)))
local macro_rules | `(tactic| walk_at "subscriptTail Name Slice bytes ref") => `(tactic| (k_here; (with_reducible show wpAny _ _ (subscriptTail _ (Expr.Slice _ _ none _) (Value.bytes (mkB _) _) (Value.ref _)) _ _ _); (with_reducible rename Fr _ _ _ _ => F'); (with_reducible rename News _ _ _ _ => N'); k_dflt (refine' slice_B (s := ⟨_, _, _, _, _⟩) F' N' ?h1 ?h2 ?hz ?_; (case h1 => constructor); (case h2 => constructor); (case hz => omega); k_whole); intro h' t' tk' F' N' hlen'; (try k_sweep)))
local macro_rules | `(tactic| walk_at "call type:type") => `(tactic| (k_here; (with_reducible show wpAny _ _ (call (Value.type "type") [Value.bytes _ _]) _ _ _); k_dflt (refine' call_type_of (Tx := "bytes") (typeIs_bytes _ _ _) ?hb ?_; (case hb => decide); k_whole)))
local macro_rules | `(tactic| walk_at "exec While Compare cons nil") => `(tactic| refine Stop.of ?_)
local macro_rules | `(tactic| walk_at "exec While BoolOp cons nil") => `(tactic| refine Stop.of ?_)
local macro_rules | `(tactic| walk_at "exec For Name Name cons nil") => `(tactic| refine Stop.of ?_)
local macro_rules | `(tactic| walk_at "exec For Name Call cons nil") => `(tactic| refine Stop.of ?_)
local macro_rules | `(tactic| walk_at "exec For Name Subscript cons nil") => `(tactic| refine Stop.of ?_)
local macro_rules | `(tactic| walk_at "pyIter ref") => `(tactic| ((with_reducible show wpAny _ _ (pyIter (Value.ref _)) (fun it s₂ => LoopAtV _ _ _ _ _ _ _ _ _ it s₂) _ _); refine Stop.of ?_))
local macro_rules | `(tactic| k_all) => `(tactic| first | exact off_mem (by assumption) | exact off_mem (And.right (by assumption)) | exact off_mem (And.right (And.right (by assumption))))
local macro_rules | `(tactic| walk_at "TurnPost") => `(tactic| (dsimp only [TurnPost]))
local macro_rules | `(tactic| walk_at "binaryOp Add ref ref") => `(tactic| (k_here; (with_reducible show wpAny _ _ (binaryOp Operator.Add (Value.ref _) (Value.ref _)) _ _ _); k_dflt (refine' kmk_add_ints ?F ?N ?a ?b ?i ?j ?_ ?z; (case F => k_asm); (case N => k_asm); (case a => exact News.isList (by k_asm) (by k_mem)); (case b => exact News.isList (by k_asm) (by k_mem)); (case i => first | with_reducible assumption | exact IntsAre.cons _ _ IntsAre.nil); (case j => first | with_reducible assumption | exact IntsAre.cons _ _ IntsAre.nil); (case z => ((simp only [IN_length, sizeLine_eq, List.length_cons, List.length_nil]); omega))); intro D' ws' h' F' N' l1 hI'; (try k_lt l1); (try k_sweep)))
local macro_rules | `(tactic| walk_at "eval ListComp") => `(tactic| refine Stop.of ?_)
local macro_rules | `(tactic| walk_at "exec Assign cons ListComp") => `(tactic| refine Stop.of ?_)
local macro_rules | `(tactic| walk_at "call builtin:chr") => `(tactic| (k_here; (with_reducible show wpAny _ _ (call (Value.builtin "chr") [Value.int _ _]) _ _ _); k_dflt (refine' chr_of_range ?h0 ?h1 ?_; (case h0 => omega); (case h1 => omega); k_whole)))
local macro_rules | `(tactic| walk_at "call builtin:str.join") => `(tactic| refine Stop.of ?_)
local macro_rules | `(tactic| walk_at "subscriptTail Constant BinOp str int") => `(tactic| (k_here; (with_reducible show wpAny _ _ (subscriptTail _ _ (Value.str (Str.ofString "/.a/.b/.") _) (Value.int _ _)) _ _ _); k_dflt (refine' item_S lit_menu ?h0 ?h1 ?hz ?_; (case h0 => omega); (case h1 => ((simp only [List.length_cons, List.length_nil]); omega)); (case hz => decide); k_whole); intro t' tk' c' hc'; (have hm' := menu_small hc')))
local macro_rules | `(tactic| walk_at "call builtin:ord") => `(tactic| (k_here; (with_reducible show wpAny _ _ (call (Value.builtin "ord") [Value.str (mkS [_]) _]) _ _ _); k_dflt (refine' ord_S ?_; k_whole); intro t' tk'))
local macro_rules | `(tactic| walk_at "call builtin:list.append") => `(tactic| (k_here; (with_reducible show wpAny _ _ (call (Value.builtin _) [Value.ref _, _]) _ _ _); k_dflt (refine' append_L ?k1 ?k2 ?k3 ?z ?_; (case k1 => k_asm); (case k2 => k_asm); (case k3 => k_upd); (case z => first | omega | ((try simp only [List.length_append, List.length_cons, List.length_nil]); omega)); k_whole); intro h' F' N'; (try k_sweep)))
local macro_rules | `(tactic| wrow_close) => `(tactic| first
  | ((with_reducible show KswEnd _ _ _ _ _ _ _ _ _ _ _ _); refine' stopG ?_)
  | ((with_reducible show TurnEnd _ _ _ _ _ _ _ _ _ _ _ _); refine' stopG ?_)
  | ((with_reducible show TurnPost _ _ _ _ _ _ _ _ _ _ _ _ _ _); dsimp only [TurnPost])
  | (w_end; refine' goodStop ?_))
local macro_rules | `(tactic| kc_close) => `(tactic| (kc_bool; refine' goodStop ?_))
set_option maxHeartbeats 100000000 in
open_top hd for PySem.Challenge.rw_ko0129_06
theorem filled1 : (PySem.Challenge.rw_ko0129_06.prog, Mine.hd.heap_39) = (PySem.Challenge.rw_ko0129_06.prog, Mine.hd.heap_39) := by
  k_fill
  rfl
set_option maxRecDepth 100000 in
set_option maxHeartbeats 100000000 in
theorem fspath_S (news : List (Addr × Obj)) (l : List Nat) (t : Tok) : Spec PySem.Challenge.rw_ko0129_06.row.prog Mine.hd.view_39 Mine.hd.heap_39 94 4 20 [.str (mkS l) t] news (fun led v => led = [] ∧ v = .str (mkS l) t) := by
  w_top off
  unfold Spec
  intros
  rename_i hret
  refine wpAny_call ?_
  k_dflt cell_enter
  k_steps
  all_goals exact hret [] _ _ _ ⟨rfl, rfl⟩ no_led (by k_asm) (cb_drop (by assumption) (by intro p hp; k_ownIn))
local macro_rules | `(tactic| walk_at "call ref") => `(tactic| (k_here; (with_reducible show wpAny _ _ (call (Value.ref 94) [Value.str (mkS _) _]) _ _ _); k_dflt (refine' Spec.use (fspath_S _ _ _) ?k1 ?k2 ?k3 ?k4 ?k5 ?k6 ?k7 ?k8 ?_; (case k1 => k_asm); (case k2 => k_asm); (case k3 => k_asm); (case k4 => k_asm); (case k5 => k_asm); (case k6 => first | exact rfl | assumption); (case k7 => ktr_room); (case k8 => ktr_units); k_whole); intro led' v' h' tk' hR' hfr' F' N'; (have hL' := hR'.1); (have hV' := hR'.2); clear hR'; subst hL'; subst hV'; (try simp only [List.nil_append, List.cons_append] at F' N'); (try clear hfr'); k_sweep))
set_option maxRecDepth 100000 in
set_option maxHeartbeats 100000000 in
theorem fspath_B (news : List (Addr × Obj)) (l : List Nat) (t : Tok) : Spec PySem.Challenge.rw_ko0129_06.row.prog Mine.hd.view_39 Mine.hd.heap_39 94 4 20 [.bytes (mkB l) t] news (fun led v => led = [] ∧ v = .bytes (mkB l) t) := by
  w_top off
  unfold Spec
  intros
  rename_i hret
  refine wpAny_call ?_
  k_dflt cell_enter
  k_steps
  all_goals exact hret [] _ _ _ ⟨rfl, rfl⟩ no_led (by k_asm) (cb_drop (by assumption) (by intro p hp; k_ownIn))
local macro_rules | `(tactic| walk_at "call ref") => `(tactic| (k_here; (with_reducible show wpAny _ _ (call (Value.ref 94) [Value.bytes (mkB _) _]) _ _ _); k_dflt (refine' Spec.use (fspath_B _ _ _) ?k1 ?k2 ?k3 ?k4 ?k5 ?k6 ?k7 ?k8 ?_; (case k1 => k_asm); (case k2 => k_asm); (case k3 => k_asm); (case k4 => k_asm); (case k5 => k_asm); (case k6 => first | exact rfl | assumption); (case k7 => ktr_room); (case k8 => ktr_units); k_whole); intro led' v' h' tk' hR' hfr' F' N'; (have hL' := hR'.1); (have hV' := hR'.2); clear hR'; subst hL'; subst hV'; (try simp only [List.nil_append, List.cons_append] at F' N'); (try clear hfr'); k_sweep))
set_option maxRecDepth 100000 in
set_option maxHeartbeats 100000000 in
theorem splitroot_S (news : List (Addr × Obj)) (l : List Nat) (t : Tok) (hz : l.length ≤ 4096) : Spec PySem.Challenge.rw_ko0129_06.row.prog Mine.hd.view_39 Mine.hd.heap_39 101 8 60 [.str (mkS l) t] news (fun led v => ∃ (q : Addr) (t1 t2 t3 : Tok) (y1 y2 y3 : Str), v = .ref q ∧ led = [(q, tupO [.str y1 t1, .str y2 t2, .str y3 t3])] ∧ y1 = mkS [] ∧ y2 = mkS (rootL l) ∧ y3 = mkS (l.drop (rootL l).length)) := by
  w_top off
  unfold Spec
  intros
  rename_i hret
  refine wpAny_call ?_
  k_dflt cell_enter
  k_steps
  all_goals (refine hret_one hret (by assumption) (by assumption) ⟨_, _, _, _, _, _, _, rfl, rfl, ?_, ?_, ?_⟩ (by first | assumption | exact allLt_mem (by assumption) | exact allLt_mem (And.right (by assumption)) | exact allLt_mem (And.right (And.right (by assumption))) | exact allLt_mem (And.right (And.right (And.right (by assumption))))) (by intro p hp; k_ownIn))
  all_goals first
    | exact lit_nil
    | (rw [root_0 (by with_reducible assumption)]; exact lit_nil)
    | (rw [root_0 (by with_reducible assumption)]; rfl)
    | (rw [root_1 (by with_reducible assumption) (by with_reducible assumption)]; exact lit_slash)
    | (rw [root_1b (by with_reducible assumption) (by with_reducible assumption)]; exact lit_slash)
    | (rw [root_1 (by with_reducible assumption) (by with_reducible assumption), pySl1]; rfl)
    | (rw [root_1b (by with_reducible assumption) (by with_reducible assumption), pySl1]; rfl)
    | (rw [root_2 (by with_reducible assumption) (by with_reducible assumption) (by with_reducible assumption), two_take (by with_reducible assumption) (by with_reducible assumption)])
    | (rw [root_2 (by with_reducible assumption) (by with_reducible assumption) (by with_reducible assumption), pySl2]; rfl)
local macro_rules | `(tactic| walk_at "call ref") => `(tactic| (k_here; (with_reducible show wpAny _ _ (call (Value.ref 101) [Value.str (mkS _) _]) _ _ _); k_dflt (refine' Spec.use (splitroot_S _ _ _ ?p1) ?k1 ?k2 ?k3 ?k4 ?k5 ?k6 ?k7 ?k8 ?_; (case p1 => first | omega | (rw [List.length_drop]; omega)); (case k1 => k_asm); (case k2 => k_asm); (case k3 => k_asm); (case k4 => k_asm); (case k5 => k_asm); (case k6 => first | exact rfl | assumption); (case k7 => ktr_room); (case k8 => ktr_units); k_whole); intro led' v' h' tk' hR' hfr' F' N'; (obtain ⟨q', t1', t2', t3', y1', y2', y3', hV', hL', e1', e2', e3'⟩ := hR'); subst hV'; subst hL'; subst e1'; subst e2'; subst e3'; (have hfr2 := hfr' _ (List.Mem.head _)); (try k_lt hfr2); (try simp only [List.nil_append, List.cons_append] at F' N'); (try clear hfr'); k_sweep))
local macro_rules | `(tactic| walk_at "call builtin:str.split") => `(tactic| (k_here; (with_reducible show wpAny _ _ (call (Value.builtin "str.split") [Value.str (mkS _) _, Value.str _ _]) _ _ _); k_dflt (refine' strSplit_S ?F ?N ?y ?z ?_; (case F => k_asm); (case N => k_asm); (case y => first | with_reducible rfl | with_reducible exact lit_slash | with_reducible exact lit_dot | with_reducible exact lit_dd | with_reducible exact lit_nil); (case z => first | omega | ((simp only [List.length_append, List.length_take, List.length_drop, List.length_cons, List.length_nil, List.length_replicate, List.length_reverse]); omega)); k_whole); intro D' us' h' tk' hS' F' N' l1; (try k_lt l1); (try k_sweep)))
local macro_rules | `(tactic| walk_at "compareOp Eq ref ref") => `(tactic| (k_here; (with_reducible show wpAny _ _ (compareOp CmpOp.Eq (Value.ref _) (Value.ref _)) _ _ _); k_dflt (refine' eq_T ?N ?m ?i ?m2 ?j ?u ?_; (case N => k_asm); (case m => (repeat (first | (with_reducible assumption) | (with_reducible exact List.mem_cons_self ..) | (with_reducible refine List.mem_cons_of_mem _ ?_)))); (case m2 => (repeat (first | (with_reducible assumption) | (with_reducible exact List.mem_cons_self ..) | (with_reducible refine List.mem_cons_of_mem _ ?_)))); (case i => first | with_reducible assumption | exact strs_lit0 _ | with_reducible exact strs_one _ _ | with_reducible exact strs_nil | with_reducible exact strs_snocS (by with_reducible assumption) | with_reducible exact strs_consS (by with_reducible assumption) | exact strs_snocG (by with_reducible assumption) lit_nil); (case j => first | with_reducible assumption | exact strs_lit0 _ | with_reducible exact strs_one _ _ | with_reducible exact strs_nil | with_reducible exact strs_snocS (by with_reducible assumption) | with_reducible exact strs_consS (by with_reducible assumption) | exact strs_snocG (by with_reducible assumption) lit_nil); (case u => ke_room); k_whole)))
local macro_rules | `(tactic| walk_at "compareOp NotEq ref ref") => `(tactic| (k_here; (with_reducible show wpAny _ _ (compareOp CmpOp.NotEq (Value.ref _) (Value.ref _)) _ _ _); k_dflt (refine' ne_T ?N ?m ?i ?m2 ?j ?u ?_; (case N => k_asm); (case m => (repeat (first | (with_reducible assumption) | (with_reducible exact List.mem_cons_self ..) | (with_reducible refine List.mem_cons_of_mem _ ?_)))); (case m2 => (repeat (first | (with_reducible assumption) | (with_reducible exact List.mem_cons_self ..) | (with_reducible refine List.mem_cons_of_mem _ ?_)))); (case i => first | with_reducible assumption | exact strs_lit0 _ | with_reducible exact strs_one _ _ | with_reducible exact strs_nil | with_reducible exact strs_snocS (by with_reducible assumption) | with_reducible exact strs_consS (by with_reducible assumption) | exact strs_snocG (by with_reducible assumption) lit_nil); (case j => first | with_reducible assumption | exact strs_lit0 _ | with_reducible exact strs_one _ _ | with_reducible exact strs_nil | with_reducible exact strs_snocS (by with_reducible assumption) | with_reducible exact strs_consS (by with_reducible assumption) | exact strs_snocG (by with_reducible assumption) lit_nil); (case u => ke_room); k_whole)))
local macro_rules | `(tactic| walk_at "binaryOp Add ref ref") => `(tactic| (k_here; (with_reducible show wpAny _ _ (binaryOp Operator.Add (Value.ref _) (Value.ref _)) _ _ _); k_dflt (refine' add_T ?F ?N ?m ?m2 ?i ?j ?z ?_; (case F => k_asm); (case N => k_asm); (case m => (repeat (first | (with_reducible assumption) | (with_reducible exact List.mem_cons_self ..) | (with_reducible refine List.mem_cons_of_mem _ ?_)))); (case m2 => (repeat (first | (with_reducible assumption) | (with_reducible exact List.mem_cons_self ..) | (with_reducible refine List.mem_cons_of_mem _ ?_)))); (case i => first | with_reducible assumption | exact strs_lit0 _ | with_reducible exact strs_one _ _ | with_reducible exact strs_nil | with_reducible exact strs_snocS (by with_reducible assumption) | with_reducible exact strs_consS (by with_reducible assumption) | exact strs_snocG (by with_reducible assumption) lit_nil); (case j => first | with_reducible assumption | exact strs_lit0 _ | with_reducible exact strs_one _ _ | with_reducible exact strs_nil | with_reducible exact strs_snocS (by with_reducible assumption) | with_reducible exact strs_consS (by with_reducible assumption) | exact strs_snocG (by with_reducible assumption) lit_nil); (case z => first | omega | ((simp only [List.length_append, List.length_take, List.length_drop, List.length_cons, List.length_nil, List.length_replicate, List.length_reverse]); omega)); k_whole); intro D' us' h' F' N' l1 hS'; (try k_lt l1); (try k_sweep)))
local macro_rules | `(tactic| walk_at "call builtin:list.append") => `(tactic| (k_here; (with_reducible show wpAny _ _ (call (Value.builtin _) [Value.ref _, Value.str _ _]) _ _ _); k_dflt (refine' append_V ?F ?N ?U ?z ?_; (case F => k_asm); (case N => k_asm); (case U => k_upd); (case z => first | omega | ((rw [strs_len (by with_reducible assumption)]); (first | omega | ((simp only [List.length_append, List.length_take, List.length_drop, List.length_cons, List.length_nil, List.length_replicate, List.length_reverse]); omega)))); k_whole); intro h' F' N'; (try k_sweep)))
local macro_rules | `(tactic| walk_at "call builtin:list.insert") => `(tactic| (k_here; (with_reducible show wpAny _ _ (call (Value.builtin _) [Value.ref _, Value.int 0 _, _]) _ _ _); k_dflt (refine' insert0_V ?F ?N ?U ?z ?_; (case F => k_asm); (case N => k_asm); (case U => k_upd); (case z => first | omega | ((simp only [List.length_append, List.length_take, List.length_drop, List.length_cons, List.length_nil, List.length_replicate, List.length_reverse]); omega)); k_whole); intro h' F' N'; (try k_sweep)))
local macro_rules | `(tactic| walk_at "subscriptTail Name UnaryOp str int") => `(tactic| (k_here; (show wpAny _ _ (subscriptTail _ _ (Value.str (mkS _) _) (Value.int (-1) _)) _ _ _); k_dflt (refine' itemNeg_S ?h0 ?hz ?_ ?hs ?ht; (case h0 => first | assumption | omega | exact pcs_pos (by assumption)); (case hz => omega); (case hs => with_unfolding_all rfl); (case ht => (intro _; with_unfolding_all rfl)); k_whole); intro t' tk' c' hc'))
local macro_rules | `(tactic| walk_at "truthy ref") => `(tactic| (k_here; (with_reducible show wpAny _ _ (truthy (Value.ref _)) _ _ _); k_dflt (refine' truthy_V ?N ?m ?l ?z ?_; (case N => k_asm); (case m => (repeat (first | (with_reducible assumption) | (with_reducible exact List.mem_cons_self ..) | (with_reducible refine List.mem_cons_of_mem _ ?_)))); (case l => exact strs_len (by first | with_reducible assumption | exact strs_lit0 _ | with_reducible exact strs_one _ _ | with_reducible exact strs_nil | with_reducible exact strs_snocS (by with_reducible assumption) | with_reducible exact strs_consS (by with_reducible assumption) | exact strs_snocG (by with_reducible assumption) lit_nil)); (case z => first | omega | ((simp only [List.length_append, List.length_take, List.length_drop, List.length_cons, List.length_nil, List.length_replicate, List.length_reverse]); omega)); k_whole); intro tk'))
local macro_rules | `(tactic| walk_at "subscriptTail Name UnaryOp ref int") => `(tactic| (k_here; (show wpAny _ _ (subscriptTail _ _ (Value.ref _) (Value.int (-1) _)) _ _ _); k_dflt (refine' itemLast_T ?N ?m ?i ?p ?z ?_ ?hs ?ht; (case N => k_asm); (case m => (repeat (first | (with_reducible assumption) | (with_reducible exact List.mem_cons_self ..) | (with_reducible refine List.mem_cons_of_mem _ ?_)))); (case i => first | with_reducible assumption | exact strs_lit0 _ | with_reducible exact strs_one _ _ | with_reducible exact strs_nil | with_reducible exact strs_snocS (by with_reducible assumption) | with_reducible exact strs_consS (by with_reducible assumption) | exact strs_snocG (by with_reducible assumption) lit_nil); (case p => first | with_reducible assumption); (case z => first | omega | ((simp only [List.length_append, List.length_take, List.length_drop, List.length_cons, List.length_nil, List.length_replicate, List.length_reverse]); omega)); (case hs => with_unfolding_all rfl); (case ht => (intro _; with_unfolding_all rfl)); k_whole); intro q' t' hq'))
local macro_rules | `(tactic| walk_at "call builtin:list.pop") => `(tactic| (k_here; (with_reducible show wpAny _ _ (call (Value.builtin _) [Value.ref _]) _ _ _); k_dflt (refine' pop_T ?F ?N ?i ?p ?U ?z ?_; (case F => k_asm); (case N => k_asm); (case i => first | with_reducible assumption | exact strs_lit0 _ | with_reducible exact strs_one _ _ | with_reducible exact strs_nil | with_reducible exact strs_snocS (by with_reducible assumption) | with_reducible exact strs_consS (by with_reducible assumption) | exact strs_snocG (by with_reducible assumption) lit_nil); (case p => first | with_reducible assumption); (case U => k_upd); (case z => first | omega | ((simp only [List.length_append, List.length_take, List.length_drop, List.length_cons, List.length_nil, List.length_replicate, List.length_reverse]); omega)); k_whole); intro h' q' t' F' N'; (try k_sweep)))
local macro_rules | `(tactic| walk_at "call builtin:str.join") => `(tactic| (k_here; (with_reducible show wpAny _ _ (call (Value.builtin _) [Value.str _ _, Value.ref _]) _ _ _); k_dflt (refine' join_S ?N ?y ?m ?i ?z ?_; (case N => k_asm); (case y => first | with_reducible rfl | with_reducible exact lit_slash | with_reducible exact lit_dot | with_reducible exact lit_dd | with_reducible exact lit_nil); (case m => (repeat (first | (with_reducible assumption) | (with_reducible exact List.mem_cons_self ..) | (with_reducible refine List.mem_cons_of_mem _ ?_)))); (case i => first | with_reducible assumption | exact strs_lit0 _ | with_reducible exact strs_one _ _ | with_reducible exact strs_nil | with_reducible exact strs_snocS (by with_reducible assumption) | with_reducible exact strs_consS (by with_reducible assumption) | exact strs_snocG (by with_reducible assumption) lit_nil); (case z => first | with_reducible assumption | omega); k_whole); intro t' tk'))
local macro_rules | `(tactic| walk_at "binaryOp Add str str") => `(tactic| (k_here; (show wpAny _ _ (binaryOp Operator.Add (Value.str (mkS _) _) (Value.str _ _)) _ _ _); k_dflt (refine' add_S ?hx ?hy ?hz ?h2 ?_; (case hx => with_reducible rfl); (case hy => first | with_reducible rfl | exact (mkS_eta _).symm); (case hz => first | omega | ((simp only [List.length_append, List.length_take, List.length_drop, List.length_cons, List.length_nil, List.length_replicate, List.length_reverse]); omega)); (case h2 => first | omega | (exact Nat.le_trans (by with_reducible assumption) (by omega)) | ((simp only [List.length_cons, List.length_nil, cps_len]); omega)); k_whole); intro t' tk'))
set_option maxRecDepth 100000 in
set_option maxHeartbeats 100000000 in
theorem normpath_S (news : List (Addr × Obj)) (l : List Nat) (t : Tok) (hz : l.length ≤ 2000) : Spec PySem.Challenge.rw_ko0129_06.row.prog Mine.hd.view_39 Mine.hd.heap_39 108 20 120 [.str (mkS l) t] news (fun led v => led = [] ∧ ∃ (y : Str) (t : Tok), v = .str y t ∧ y = mkS (normL l)) := by
  w_top off
  unfold Spec
  intros
  rename_i hret
  refine wpAny_call ?_
  k_dflt cell_enter
  k_steps
  · unfold Stop
    refine For_invVF (by assumption) rfl rfl ?_
    k_steps
    unfold Stop
    rename StrsAre _ (SL (splitL 47 _)) => hS
    refine' for_list (σ := List Value × Nat) (fun c => (_, listOf c.1.toArray c.2) :: _) (fun c => []) [] (fun i c => ∃ acc, StrsAre c.1 (SL acc) ∧ acc = ((splitL 47 (l.drop (rootL l).length)).take i).foldl (nstep (rootL l)) []) ([], 0) rfl ?h1 ?h2 ?h3 ?h4 ?h5 ?h6 ?turn ?done
    case h4 => exact cb_drop (by assumption) (fun p hp => hp)
    case h3 => assumption
    case h1 => exact News.isList (by assumption) (by (repeat (first | (with_reducible assumption) | (with_reducible exact List.mem_cons_self ..) | (with_reducible refine List.mem_cons_of_mem _ ?_))))
    case h2 => exact .inr ⟨_, fun c => by (repeat (first | (with_reducible assumption) | (with_reducible exact List.mem_cons_self ..) | (with_reducible refine List.mem_cons_of_mem _ ?_)))⟩
    case h5 => kst_all
    case h6 => exact ⟨[], strs_nil, rfl⟩
    case turn =>
      rintro ⟨ws, n⟩ i v u h tk I oI hi' hv ⟨acc, hA, hacc⟩ hne F' N'
      dsimp only at *
      obtain ⟨p, t9, hp, rfl⟩ := strs_at hS hv
      have hpl := splitL_len (List.mem_of_getElem? hp)
      rw [List.length_drop] at hpl
      have hsl := splitL_length 47 (l.drop (rootL l).length)
      rw [List.length_drop] at hsl
      have hus := strs_len hS
      have hal := fold_len (root := rootL l) (ps := (splitL 47 (l.drop (rootL l).length)).take i) (acc := [])
      rw [← hacc, List.length_take, List.length_nil] at hal
      have hal2 : acc.length ≤ 8192 := by omega
      have hwl := strs_len hA
      simp only [List.forall_mem_cons] at hne
      obtain ⟨n1, n3⟩ := hne
      have n2 : @Ne Nat _ _ := n1
      have hrl := rootL_length l
      k_steps
      all_goals try rw [StopG.eq]
      all_goals ((refine' turn_end (σ := List Value × Nat) (_, _) ?F ?N ?hn ?hI ?hne ?hk ?hr ?hp); (case F => with_reducible assumption); (case N => with_reducible assumption); (case hn => exact List.forall_mem_cons.mpr ⟨by (repeat (first | (with_reducible assumption) | (with_reducible exact List.mem_cons_self ..) | (with_reducible refine List.mem_cons_of_mem _ ?_))), by intro p hp; k_ownIn⟩); (case hI => (repeat (first | (with_reducible assumption) | (with_reducible exact List.mem_cons_self ..) | (with_reducible refine List.mem_cons_of_mem _ ?_)))); (case hne => (simp only [List.forall_mem_cons]; exact ⟨n1, n3⟩)); (case hk => kst_all); (case hr => intro z h1 h2 h3; (simp only [List.forall_mem_cons, List.not_mem_nil, false_implies, implies_true, and_true, ne_eq] at h2); first | (simp only [kstB, h1, h2, List.contains_nil, if_false, Bool.false_eq_true, reduceIte]; done) | ((have h4 := h3); (simp only [List.contains_cons, List.contains_nil, Bool.or_false, Bool.or_eq_false_iff, beq_eq_false_iff_ne, ne_eq] at h4); (simp only [kstB, h1, h2, h3, h4, if_false, Bool.false_eq_true, reduceIte]; done))); (case hp =>
        refine ⟨nstep (rootL l) acc p, ?_, (fold_take hp hacc).symm⟩
        dsimp only
        first
          | (rw [nstep_a (by first | with_reducible assumption | exact Decidable.not_not.mp (by with_reducible assumption) | exact not_not_intro (by with_reducible assumption))]; exact hA)
          | (rw [nstep_a' (by first | with_reducible assumption | exact Decidable.not_not.mp (by with_reducible assumption) | exact not_not_intro (by with_reducible assumption))]; exact hA)
          | (rw [nstep_b (by first | with_reducible assumption | exact Decidable.not_not.mp (by with_reducible assumption) | exact not_not_intro (by with_reducible assumption))]; exact hA)
          | (rw [nstep_c (by first | with_reducible assumption | exact Decidable.not_not.mp (by with_reducible assumption) | exact not_not_intro (by with_reducible assumption)) (by first | with_reducible assumption | exact Decidable.not_not.mp (by with_reducible assumption) | exact not_not_intro (by with_reducible assumption)) (by first | with_reducible assumption | exact Decidable.not_not.mp (by with_reducible assumption) | exact not_not_intro (by with_reducible assumption))]; exact strs_snocS hA)
          | (rw [nstep_d (by first | with_reducible assumption | exact Decidable.not_not.mp (by with_reducible assumption) | exact not_not_intro (by with_reducible assumption)) (by first | with_reducible assumption | exact Decidable.not_not.mp (by with_reducible assumption) | exact not_not_intro (by with_reducible assumption)) (by first | with_reducible assumption | exact Decidable.not_not.mp (by with_reducible assumption) | exact not_not_intro (by with_reducible assumption)) (by first | with_reducible assumption | exact Decidable.not_not.mp (by with_reducible assumption) | exact not_not_intro (by with_reducible assumption))]; exact strs_snocS hA)
          | (rw [nstep_e (by first | with_reducible assumption | exact Decidable.not_not.mp (by with_reducible assumption) | exact not_not_intro (by with_reducible assumption)) (by first | with_reducible assumption | exact Decidable.not_not.mp (by with_reducible assumption) | exact not_not_intro (by with_reducible assumption)) (by first | with_reducible assumption | exact Decidable.not_not.mp (by with_reducible assumption) | exact not_not_intro (by with_reducible assumption)) (by first | with_reducible assumption | exact Decidable.not_not.mp (by with_reducible assumption) | exact not_not_intro (by with_reducible assumption))]; exact strs_snocS hA)
          | (rw [nstep_f (by first | with_reducible assumption | exact Decidable.not_not.mp (by with_reducible assumption) | exact not_not_intro (by with_reducible assumption)) (by first | with_reducible assumption | exact Decidable.not_not.mp (by with_reducible assumption) | exact not_not_intro (by with_reducible assumption)) (by first | with_reducible assumption | exact Decidable.not_not.mp (by with_reducible assumption) | exact not_not_intro (by with_reducible assumption)) (by first | with_reducible assumption | exact Decidable.not_not.mp (by with_reducible assumption) | exact not_not_intro (by with_reducible assumption)) (by first | with_reducible assumption | exact Decidable.not_not.mp (by with_reducible assumption) | exact not_not_intro (by with_reducible assumption))]; exact strs_dropLast hA)
          | (rw [nstep_g (by first | with_reducible assumption | exact Decidable.not_not.mp (by with_reducible assumption) | exact not_not_intro (by with_reducible assumption)) (by first | with_reducible assumption | exact Decidable.not_not.mp (by with_reducible assumption) | exact not_not_intro (by with_reducible assumption)) (by first | with_reducible assumption | exact Decidable.not_not.mp (by with_reducible assumption) | exact not_not_intro (by with_reducible assumption)) (by first | with_reducible assumption | exact Decidable.not_not.mp (by with_reducible assumption) | exact not_not_intro (by with_reducible assumption)) (by first | with_reducible assumption | exact Decidable.not_not.mp (by with_reducible assumption) | exact not_not_intro (by with_reducible assumption))]; exact hA)))
    case done =>
      rintro ⟨ws, n⟩ u h tk ⟨acc, hA, hacc⟩ F' N'
      dsimp only at *
      have hus := strs_len hS
      have hac : acc = ncomps l := by rw [hacc, hus, List.take_length]; rfl
      subst hac
      have hw := ncomps_wt l
      have hw2 : wt (ncomps l) ≤ 16384 := by omega
      have hw3 := wt_join 47 (ncomps l)
      have hrl := rootL_length l
      have hw4 : (rootL l ++ joinL [47] (ncomps l)).length ≤ 2010 := by rw [List.length_append]; omega
      k_steps
      all_goals ((refine' hret [] _ _ _ ⟨rfl, _, _, rfl, ?hy⟩ no_led ?F (cb_drop ?N ?sub)); (case F => with_reducible assumption); (case N => with_reducible assumption); (case sub => (intro p hp; k_ownIn)); (case hy =>
        unfold normL
        first
          | rw [if_neg (by first | with_reducible assumption | exact Decidable.not_not.mp (by with_reducible assumption) | exact not_not_intro (by with_reducible assumption)), if_neg (by first | with_reducible assumption | exact Decidable.not_not.mp (by with_reducible assumption) | exact not_not_intro (by with_reducible assumption))]
          | (rw [if_neg (by first | with_reducible assumption | exact Decidable.not_not.mp (by with_reducible assumption) | exact not_not_intro (by with_reducible assumption)), if_pos (Decidable.not_not.mp (by first | with_reducible assumption | exact Decidable.not_not.mp (by with_reducible assumption) | exact not_not_intro (by with_reducible assumption)))]; exact lit_dot)
          | (rw [if_neg (by first | with_reducible assumption | exact Decidable.not_not.mp (by with_reducible assumption) | exact not_not_intro (by with_reducible assumption)), if_pos (by first | with_reducible assumption | exact Decidable.not_not.mp (by with_reducible assumption) | exact not_not_intro (by with_reducible assumption))]; exact lit_dot)))
  · (refine' hret [] _ _ _ ⟨rfl, _, _, rfl, ?hy⟩ no_led ?F (cb_drop ?N ?sub)); (case F => with_reducible assumption); (case N => with_reducible assumption); (case sub => (intro p hp; k_ownIn)); (case hy =>
      unfold normL
      first
        | (rw [if_pos (Decidable.not_not.mp (by first | with_reducible assumption | exact Decidable.not_not.mp (by with_reducible assumption) | exact not_not_intro (by with_reducible assumption)))]; exact lit_dot)
        | (rw [if_pos (by first | with_reducible assumption | exact Decidable.not_not.mp (by with_reducible assumption) | exact not_not_intro (by with_reducible assumption))]; exact lit_dot))
local macro_rules | `(tactic| walk_at "subscriptTail") => `(tactic| (k_here; (show wpAny _ _ (subscriptTail _ _ (Value.ref _) (Value.int (Int.fmod _ 5) _)) _ _ _); k_dflt (refine' itemAt_T ?N ?m ?i ?h0 ?h1 ?z ?_ ?hs ?ht; (case N => k_asm); (case m => (repeat (first | (with_reducible assumption) | (with_reducible exact List.mem_cons_self ..) | (with_reducible refine List.mem_cons_of_mem _ ?_)))); (case i => exact strs_menu6 _ _ _ _ _); (case h0 => exact Int.fmod_nonneg_of_pos _ (by decide)); (case h1 => exact Int.fmod_lt_of_pos _ (by decide)); (case z => decide); (case hs => with_unfolding_all rfl); (case ht => (intro _; with_unfolding_all rfl)); k_whole); intro q' t' hq'; (have hm' := menu6_small hq')))
local macro_rules | `(tactic| walk_at "binaryOp Add str str") => `(tactic| (k_here; (show wpAny _ _ (binaryOp Operator.Add (Value.str (mkS _) _) (Value.str _ _)) _ _ _); k_dflt (refine' add_S ?hx ?hy ?hz ?h2 ?_; (case hx => with_reducible rfl); (case hy => first | with_reducible rfl | with_reducible exact lit_slash | with_reducible exact lit_dds | with_reducible exact lit_dot | with_reducible exact lit_a | with_reducible exact lit_bs | exact (mkS_eta _).symm); (case hz => first | omega | ((simp only [List.length_append, List.length_take, List.length_drop, List.length_cons, List.length_nil, List.length_replicate, List.length_reverse]); omega)); (case h2 => first | omega | (exact Nat.le_trans (by with_reducible assumption) (by omega)) | ((simp only [List.length_cons, List.length_nil, cps_len]); omega)); k_whole); intro t' tk'))
set_option maxRecDepth 100000 in
set_option maxHeartbeats 100000000 in
theorem path_ok (news : List (Addr × Obj)) (l : Addr) (vs : List Value) (ns : List Int) (hi : IntsAre vs ns) (hn : ns.length ≤ 63) : SpecP PySem.Challenge.rw_ko0129_06.row.prog Mine.hd.view_39 Mine.hd.heap_39 115 6 60 [.ref l] news (fun h => h.IsList l vs.toArray) (fun led v => led = [] ∧ ∃ (lc : List Nat) (t : Tok), v = .str (mkS lc) t ∧ lc.length ≤ 18 * ns.length) := by
  w_top off
  unfold SpecP
  intros
  rename_i hpre hret
  refine wpAny_call ?_
  k_dflt cell_enter
  k_steps
  unfold Stop
  refine For_invVF (by assumption) rfl rfl ?_
  k_steps
  unfold Stop
  refine' for_list (σ := Str × Nat) (fun c => news) (fun c => [(Str.ofString "path", .str c.1 c.2)]) [Str.ofString "left", Str.ofString "room", Str.ofString "sign"] (fun i c => ∃ lc, c.1 = mkS lc ∧ lc.length ≤ 18 * i) (_, _) rfl ?h1 ?h2 ?h3 ?h4 ?h5 ?h6 ?turn ?done
  case h4 => exact cb_drop (by assumption) (by intro p hp; k_ownIn)
  case h3 => assumption
  case h1 => exact list_up (list_up hpre (Fr.keep (by assumption))) (Fr.keep (by assumption))
  case h2 => exact .inl ((list_up hpre (Fr.keep (by assumption))).imp fun _ x => x.1)
  case h5 => kst_all
  case h6 => exact ⟨[], lit_nil, Nat.zero_le _⟩
  case turn =>
    rintro ⟨c, tc⟩ i v u h tk I oI hi' hv ⟨lc, hlc, hle⟩ hne F' N'
    dsimp only at *
    subst hlc
    obtain ⟨x0, t9, hx0, rfl⟩ := ints_at hi hv
    have hvl := hi.length
    k_steps
    unfold Stop
    refine' ksw_while (σ := (Str × Nat) × (Int × Nat) × (Int × Nat)) (fun c => (I, oI) :: news) (fun c => [(Str.ofString "path", .str c.1.1 c.1.2), (Str.ofString "left", .int c.2.1.1 c.2.1.2), (Str.ofString "room", .int c.2.2.1 c.2.2.2)]) (fun _ => True) [Str.ofString "left", Str.ofString "room", Str.ofString "sign"] (fun c => ∃ lc, c.1.1 = mkS lc ∧ 0 ≤ c.2.1.1 ∧ 0 ≤ c.2.2.1 ∧ (lc.length : Int) + 3 * c.2.2.1 ≤ 18 * i + 18) (fun c => c.2.2.1.toNat) ((mkS lc, _), (_, _), (_, _)) ?w1 ?w2 trivial ?w3 ?w4 ?w5
    case w1 => assumption
    case w2 => assumption
    case w3 => kst_all
    case w4 => refine ⟨lc, rfl, abs_nonneg _, ?_, ?_⟩ <;> dsimp only <;> omega
    rintro ⟨⟨c, tc⟩, ⟨x1, tx⟩, ⟨r1, tr⟩⟩ u2 h2 tk2 _ ⟨lc, hlc, hx1, hr1, hle2⟩ F' N'
    dsimp only at *
    subst hlc
    k_steps
    all_goals try rw [StopG.eq]
    all_goals first
      | ((with_reducible refine' turn_end (σ := Str × Nat) (_, _) ?F ?N ?hn ?hI ?hne ?hk ?hr ?hp)
         (case F => assumption)
         (case N => assumption)
         (case hk => kst_all)
         (case hn => exact (by intro p hp; k_ownIn))
         (case hI => k_memK)
         (case hne => exact hne)
         (case hr => intro z h1 h2 h3; (simp only [List.forall_mem_cons, List.not_mem_nil, false_implies, implies_true, and_true, ne_eq] at h2); first | (simp only [kstB, h1, h2, List.contains_nil, if_false, Bool.false_eq_true, reduceIte]; done) | ((have h4 := h3); (simp only [List.contains_cons, List.contains_nil, Bool.or_false, Bool.or_eq_false_iff, beq_eq_false_iff_ne, ne_eq] at h4); (simp only [kstB, h1, h2, h3, h4, if_false, Bool.false_eq_true, reduceIte]; done)))
         (case hp => exact ⟨_, rfl, by omega⟩))
      | ((with_reducible refine' ksw_end (σ := (Str × Nat) × (Int × Nat) × (Int × Nat)) ((_, _), (_, _), (_, _)) ?F ?N ?hn ?ht ?hk ?hr ?hp ?hm)
         (case F => assumption)
         (case N => assumption)
         (case ht => exact True.intro)
         (case hk => kst_all)
         (case hn => exact List.forall_mem_cons.mpr ⟨by (repeat (first | (with_reducible assumption) | (with_reducible exact List.mem_cons_self ..) | (with_reducible refine List.mem_cons_of_mem _ ?_))), by intro p hp; k_ownIn⟩)
         (case hr => intro z h2 h3; (simp only [List.forall_mem_cons, List.not_mem_nil, false_implies, implies_true, and_true, ne_eq] at h2); first | (simp only [kstB, h2, List.contains_nil, if_false, Bool.false_eq_true, reduceIte]; done) | ((have h4 := h3); (simp only [List.contains_cons, List.contains_nil, Bool.or_false, Bool.or_eq_false_iff, beq_eq_false_iff_ne, ne_eq] at h4); (simp only [kstB, h2, h3, h4, if_false, Bool.false_eq_true, reduceIte]; done)))
         (case hp =>
           refine ⟨_, rfl, Int.fdiv_nonneg (by omega) (by decide), ?_, ?_⟩ <;> dsimp only
           · omega
           · simp only [List.length_append, List.length_cons, List.length_nil]; omega)
         (case hm =>
           dsimp only
           omega))
  case done =>
    rintro ⟨c, tc⟩ u h tk ⟨lc, hlc, hle⟩ F' N'
    dsimp only at *
    subst hlc
    have hvl := hi.length
    k_steps
    exact hret [] _ _ _ ⟨rfl, _, _, rfl, by omega⟩ no_led (by k_asm) (cb_drop (by assumption) (by intro p hp; k_ownIn))
local macro_rules | `(tactic| walk_at "call ref") => `(tactic| (k_here; (with_reducible show wpAny _ _ (call (Value.ref 115) [Value.ref _]) _ _ _); k_dflt (refine' SpecP.use (path_ok _ _ _ _ ?p1 ?p2) ?k1 ?k2 ?k3 ?k4 ?k5 ?k6 ?k7 ?k8 ?hp ?_; (case k1 => k_asm); (case k2 => k_asm); (case k3 => k_asm); (case k4 => k_asm); (case k5 => k_asm); (case k6 => first | exact rfl | assumption); (case k7 => ktr_room); (case k8 => ktr_units); (case hp => first | assumption | exact list_up (by assumption) (Fr.keep (by assumption)) | is_list); (case p1 => with_reducible assumption); (case p2 => first | assumption | omega); k_whole); intro led' v' h' tk' hR' hfr' F' N'; (have hL' := hR'.1); (obtain ⟨lc', tl', hV', hlc'⟩ := hR'.2); clear hR'; subst hL'; subst hV'; (try simp only [List.nil_append, List.cons_append] at F' N'); (try clear hfr'); k_sweep))
local macro_rules | `(tactic| walk_at "call ref") => `(tactic| (k_here; (with_reducible show wpAny _ _ (call (Value.ref 108) [Value.str (mkS _) _]) _ _ _); k_dflt (refine' Spec.use (normpath_S _ _ _ ?p1) ?k1 ?k2 ?k3 ?k4 ?k5 ?k6 ?k7 ?k8 ?_; (case p1 => omega); (case k1 => k_asm); (case k2 => k_asm); (case k3 => k_asm); (case k4 => k_asm); (case k5 => k_asm); (case k6 => first | exact rfl | assumption); (case k7 => ktr_room); (case k8 => ktr_units); k_whole); intro led' v' h' tk' hR' hfr' F' N'; (have hL' := hR'.1); (obtain ⟨y', t', hV', hY'⟩ := hR'.2); clear hR'; subst hL'; subst hV'; subst hY'; (try simp only [List.nil_append, List.cons_append] at F' N'); (try clear hfr'); k_sweep))
local macro_rules | `(tactic| walk_at "subscriptTail") => `(tactic| (k_here; (with_reducible show wpAny _ _ (subscriptTail _ (PySem.Expr.Slice none none (some _) _) (Value.ref _) (Value.ref _)) _ _ _); k_dflt (refine' rev_T ?F ?N ?m ?k ?i ?z ?_ ?s ?t; (case F => k_asm); (case N => k_asm); (case m => (repeat (first | (with_reducible assumption) | (with_reducible exact List.mem_cons_self ..) | (with_reducible refine List.mem_cons_of_mem _ ?_)))); (case k => exact IsPart.int _ _); (case i => first | with_reducible assumption | exact strs_lit0 _ | with_reducible exact strs_one _ _ | with_reducible exact strs_nil | with_reducible exact strs_snocS (by with_reducible assumption) | with_reducible exact strs_consS (by with_reducible assumption) | exact strs_snocG (by with_reducible assumption) lit_nil); (case z => exact Nat.le_trans (splitL_length _ _) (by omega)); (case s => with_unfolding_all rfl); (case t => kmk_pure)); intro D' h' F' N' l1 hS'; (try k_lt l1); (try k_sweep)))
local macro_rules | `(tactic| walk_at "compareOp NotIn str ref") => `(tactic| (k_here; (with_reducible show wpAny _ _ (compareOp CmpOp.NotIn (Value.str (mkS _) _) (Value.ref _)) _ _ _); k_dflt (refine' notin_T ?N ?m ?i ?_; (case N => k_asm); (case m => (repeat (first | (with_reducible assumption) | (with_reducible exact List.mem_cons_self ..) | (with_reducible refine List.mem_cons_of_mem _ ?_)))); (case i => exact strs_lit2 _ _); k_whole)))
local macro_rules | `(tactic| walk_at "binaryOp Mult ref int") => `(tactic| (k_here; (with_reducible show wpAny _ _ (binaryOp Operator.Mult (Value.ref _) (Value.int _ _)) _ _ _); k_dflt (refine' mul_T (p := [46, 46]) ?hx ?F ?N ?m ?v ?h1 ?_; (case hx => exact rfl); (case F => k_asm); (case N => k_asm); (case m => (repeat (first | (with_reducible assumption) | (with_reducible exact List.mem_cons_self ..) | (with_reducible refine List.mem_cons_of_mem _ ?_)))); (case v => exact ⟨_, by rw [lit_dd]⟩); (case h1 => omega); k_whole); intro D' us' h' F' N' l1 hS'; (try k_lt l1); (try k_sweep)))
local macro_rules | `(tactic| walk_at "binaryOp Add str str") => `(tactic| (k_here; (with_reducible show wpAny _ _ (binaryOp Operator.Add (Value.str (Str.ofString _) _) (Value.str (mkS _) _)) _ _ _); k_dflt (refine' add_S ?hx ?hy ?hz ?h2 ?_; (case hx => first | with_reducible exact lit_nil | with_reducible exact lit_slash | with_reducible exact lit_ss); (case hy => with_reducible rfl); (case hz => decide); (case h2 => first | omega | (exact Nat.le_trans (wt_join _ _) (by omega))); k_whole); intro t' tk'))
set_option maxRecDepth 100000 in
set_option maxHeartbeats 100000000 in
theorem law_holds : PySem.Challenge.rw_ko0129_06.Holds := Mine.hd (by
  k_go0
  (all_goals try k_fold)
  k_steps
  all_goals rename List Nat => lc
  all_goals have hlz : lc.length ≤ 1134 := by omega
  all_goals first
    | have hroot := root_of2 (l := lc) (by with_reducible assumption)
    | have hroot := root_of1 (l := lc) (by with_reducible assumption) (by with_reducible assumption)
    | have hroot := root_of0 (l := lc) (by with_reducible assumption)
  all_goals unfold Stop
  all_goals refine For_invVF (by assumption) rfl rfl ?_
  all_goals k_steps
  all_goals unfold Stop
  all_goals
    rename StrsAre _ (SL (splitL 47 lc).reverse) => hR
    have hrl := strs_len hR
    have hrl2 := strs_len hR
    rw [List.length_reverse, List.length_reverse] at hrl2
    have hsl := splitL_length 47 lc
    have hbw := back_wt (splitL 47 lc)
    rw [wt_split] at hbw
    refine' for_list (σ := (Int × Nat) × (List Value × Nat)) (fun c => _ :: _ :: (_, listOf c.2.1.toArray c.2.2) :: _) (fun c => [(Str.ofString "debts", .int c.1.1 c.1.2)]) [] (fun i c => c.1.1 = ((((splitL 47 lc).reverse.take i).foldl bstep (0, [])).1 : Int) ∧ c.1.1 ≤ i ∧ StrsAre c.2.1 (SL (((splitL 47 lc).reverse.take i).foldl bstep (0, [])).2) ∧ c.2.1.length ≤ i) ((0, _), ([], 0)) rfl ?h1 ?h2 ?h3 ?h4 ?h5 ?h6 ?turn ?done
    case h4 => exact cb_drop (by assumption) (fun p hp => hp)
    case h3 => assumption
    case h1 => exact News.isList (by assumption) (by (repeat (first | (with_reducible assumption) | (with_reducible exact List.mem_cons_self ..) | (with_reducible refine List.mem_cons_of_mem _ ?_))))
    case h2 => exact .inr ⟨_, fun c => by (repeat (first | (with_reducible assumption) | (with_reducible exact List.mem_cons_self ..) | (with_reducible refine List.mem_cons_of_mem _ ?_)))⟩
    case h5 => kst_all
    case h6 => exact ⟨rfl, Int.le_refl _, strs_nil, Nat.le_refl _⟩
    case turn =>
      rintro ⟨⟨d, td⟩, ws, n⟩ i v u h tk I oI hi' hv ⟨hd, hdi, hA, hwi⟩ hne F' N'
      dsimp only at *
      obtain ⟨p, t9, hp, rfl⟩ := strs_at hR hv
      simp only [List.forall_mem_cons] at hne
      obtain ⟨na, nb, n1, n3⟩ := hne
      have n2 : @Ne Nat _ _ := n1
      have n4 : @Ne Nat _ _ := na
      have n5 : @Ne Nat _ _ := nb
      rw [List.length_reverse] at hi'
      k_steps
      all_goals try rw [StopG.eq]
      all_goals
        ((refine' turn_end (σ := (Int × Nat) × (List Value × Nat)) ((_, _), (_, _)) ?F ?N ?hn ?hI ?hne ?hk ?hr ?hp); (case F => assumption); (case N => assumption); (case hn => (simp only [List.forall_mem_cons]; exact ⟨by (repeat (first | (with_reducible assumption) | (with_reducible exact List.mem_cons_self ..) | (with_reducible refine List.mem_cons_of_mem _ ?_))), by (repeat (first | (with_reducible assumption) | (with_reducible exact List.mem_cons_self ..) | (with_reducible refine List.mem_cons_of_mem _ ?_))), by (repeat (first | (with_reducible assumption) | (with_reducible exact List.mem_cons_self ..) | (with_reducible refine List.mem_cons_of_mem _ ?_))), by intro p hp; k_ownIn⟩)); (case hI => (repeat (first | (with_reducible assumption) | (with_reducible exact List.mem_cons_self ..) | (with_reducible refine List.mem_cons_of_mem _ ?_)))); (case hne => (simp only [List.forall_mem_cons]; exact ⟨na, nb, n1, n3⟩)); (case hk => kst_all); (case hr => intro z h1 h2 h3; (simp only [List.forall_mem_cons, List.not_mem_nil, false_implies, implies_true, and_true, ne_eq] at h2); first | (simp only [kstB, h1, h2, List.contains_nil, if_false, Bool.false_eq_true, reduceIte]; done) | ((have h4 := h3); (simp only [List.contains_cons, List.contains_nil, Bool.or_false, Bool.or_eq_false_iff, beq_eq_false_iff_ne, ne_eq] at h4); (simp only [kstB, h1, h2, h3, h4, if_false, Bool.false_eq_true, reduceIte]; done))); (case hp =>
          dsimp only
          rw [bfold_take hp]
          first
            | (rw [bstep_a (by with_reducible assumption)]; exact ⟨by dsimp only; omega, by omega, hA, by omega⟩)
            | (rw [bstep_b (by with_reducible assumption) (by with_reducible assumption) (by omega)]; exact ⟨by dsimp only; omega, by omega, hA, by omega⟩)
            | (rw [bstep_c (by with_reducible assumption) (by with_reducible assumption) (by omega)]; exact ⟨by dsimp only; omega, by omega, strs_consS hA, by simp only [List.length_cons]; omega⟩)
            | (rw [bstep_d (by with_reducible assumption) (by with_reducible assumption)]; exact ⟨hd, by omega, hA, by omega⟩)))
    case done =>
      rintro ⟨⟨d, td⟩, ws, n⟩ u h tk ⟨hd, hdi, hA, hwi⟩ F' N'
      dsimp only at *
      rw [hrl, List.take_length] at hd hA
      replace hd : d = ((back (splitL 47 lc)).1 : Int) := hd
      replace hA : StrsAre ws (SL (back (splitL 47 lc)).2) := hA
      subst hd
      have hwl := strs_len hA
      rw [List.length_reverse, hrl2] at hwi
      have hj1 := wt_join 47 (back (splitL 47 lc)).2
      have hj2 := wt_join 47 (List.replicate (back (splitL 47 lc)).1 [46, 46] ++ (back (splitL 47 lc)).2)
      have hw0 : wt (List.replicate (back (splitL 47 lc)).1 [46, 46] ++ (back (splitL 47 lc)).2) = 3 * (back (splitL 47 lc)).1 + wt (back (splitL 47 lc)).2 := by
        rw [wt_app]; congr 1
        generalize (back (splitL 47 lc)).1 = k
        induction k with
        | zero => rfl
        | succ k ih => rw [List.replicate_succ]; simp only [wt, List.map_cons, List.sum_cons, List.length_cons, List.length_nil] at *; omega
      k_steps
      all_goals try rw [StopG.eq]
      all_goals first
        | (rw [decide_eq_true (fin_0b hroot (by with_reducible assumption))]; exact goodW_bool (by first | with_reducible assumption | assumption) (by with_reducible assumption) (raisesW_false (by wrow_none_raised)) (by wrow_post))
        | (rw [decide_eq_true (fin_dotb hroot (by with_reducible assumption))]; exact goodW_bool (by first | with_reducible assumption | assumption) (by with_reducible assumption) (raisesW_false (by wrow_none_raised)) (by wrow_post))
        | (rw [decide_eq_true (fin_1 hroot)]; exact goodW_bool (by first | with_reducible assumption | assumption) (by with_reducible assumption) (raisesW_false (by wrow_none_raised)) (by wrow_post))
        | (rw [decide_eq_true (fin_2 hroot)]; exact goodW_bool (by first | with_reducible assumption | assumption) (by with_reducible assumption) (raisesW_false (by wrow_none_raised)) (by wrow_post))
        | exact absurd (List.cons_ne_nil _ _) (by with_reducible assumption))
end Mine
theorem PySem.Challenge.cw_ko0129_06_holds : PySem.Challenge.rw_ko0129_06.Holds := by
  exact Mine.law_holds
#print axioms PySem.Challenge.cw_ko0129_06_holds
