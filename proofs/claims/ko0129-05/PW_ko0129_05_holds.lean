import PyProof.Rows.All
import Wide.All
import OpenK.AllK
import Wide.FinOn
import Lean
import PySem.Challenge.RW_ko0129_05
open PySem PySem.W PyProof.Rows PySem.Calls
set_option Elab.async false
set_option maxRecDepth 100000
namespace Mine
theorem kind_issub_nested : builtinKind "issubclass.nested" = none := by decide +kernel
theorem plain_issub_nested : plainId "issubclass.nested" = true := by decide +kernel
theorem args_issub_nested_3 (a b c : Value) : argsOk "issubclass.nested" ⟨[a, b, c], []⟩ := by unfold argsOk; kernel_rfl
theorem sub_str_str : isSubtype (.type "str") (.type "str") = pure true := by rw [isSubtype_type]; kernel_rfl
theorem sub_bytes_str : isSubtype (.type "bytes") (.type "str") = pure false := by rw [isSubtype_type]; kernel_rfl
theorem sub_bytes_bytes : isSubtype (.type "bytes") (.type "bytes") = pure true := by rw [isSubtype_type]; kernel_rfl
theorem ty_str : typeOf (.type "str") = pure (.type "type") := rfl
theorem ty_bytes : typeOf (.type "bytes") = pure (.type "type") := rfl

section
variable {prog : Program} {w : World} {A : Around} {E : Value → Shared → Prop}
theorem issub_nested_type {X T : String} {b : Bool} {dep : Int} {tk : Tok} {s : Shared} {Q : Fin → Shared → Prop} (hX : typeOf (.type X) = pure (.type "type")) (hT : typeOf (.type T) = pure (.type "type"))
    (hs : isSubtype (.type X) (.type T) = pure b) (hq : Q (.done (.ret (.bool b))) s) :
    wpAny (model prog w) A (Builtin.«issubclass.nested» ⟨[.type X, .type T, .int dep tk], []⟩) Q E s := by
  repeat (any_goals (first | assumption | (rw [hs]) | wp_step))
theorem issub_meets {X T : String} {b : Bool} {dep : Int} {tk : Tok} (hX : typeOf (.type X) = pure (.type "type")) (hT : typeOf (.type T) = pure (.type "type")) (hs : isSubtype (.type X) (.type T) = pure b) :
    Meets (Builtin.«issubclass.nested» ⟨[.type X, .type T, .int dep tk], []⟩) (fun _ R s => R (.ok (.ret (.bool b))) s) := fun _ _ _ _ _ h => issub_nested_type hX hT hs h

theorem issub_nested_sb {X : String} {b b2 : Bool} {tp : Addr} {n : Nat} {tk : Tok} {s : Shared} {Q : Fin → Shared → Prop} (hX : typeOf (.type X) = pure (.type "type"))
    (htp : s.heap.get? tp = some { cls := .type "tuple", data := .seq #[.type "str", .type "bytes"] n }) (h1 : isSubtype (.type X) (.type "str") = pure b) (h2 : isSubtype (.type X) (.type "bytes") = pure b2) (hb : (b || b2) = true)
    (hq : ∀ tk', Q (.done (.ret (.bool true))) { s with toks := tk' }) : wpAny (model prog w) A (Builtin.«issubclass.nested» ⟨[.type X, .ref tp, .int 0 tk], []⟩) Q E s := by
  obtain ⟨h, g, d, t, os⟩ := s
  have hT2 : (⟨h, g, d, t, os⟩ : Shared).TypeIs (.ref tp) "tuple" := ⟨_, htp, rfl⟩
  have f1 := F.isi_sub_tuple
  have g1 := fun dep tk => issub_meets (dep := dep) (tk := tk) hX ty_str h1
  have g2 := fun dep tk => issub_meets (dep := dep) (tk := tk) hX ty_bytes h2
  have c1 : ∀ (s : Shared) (Q : Value → Shared → Prop) (dep : Int), Q (.bool b) s → wpAny (model prog w) A (call (.builtin "issubclass.nested") [.type X, .type "str", rawInt dep]) Q E s := fun s Q dep hq =>
    call_function_meets kind_issub_nested plain_issub_nested F.entry_issubclass_nested (args_issub_nested_3 _ _ _) (g1 _ _) hq
  have c2 : ∀ (s : Shared) (Q : Value → Shared → Prop) (dep : Int), Q (.bool b2) s → wpAny (model prog w) A (call (.builtin "issubclass.nested") [.type X, .type "bytes", rawInt dep]) Q E s := fun s Q dep hq =>
    call_function_meets kind_issub_nested plain_issub_nested F.entry_issubclass_nested (args_issub_nested_3 _ _ _) (g2 _ _) hq
  cases b with
  | true => repeat (any_goals (first | assumption | exact hq _ | (refine c1 _ _ _ ?_) | wp_step))
  | false =>
    cases b2 with
    | false => cases hb
    | true => repeat (any_goals (first | assumption | exact hq _ | (refine c1 _ _ _ ?_) | (refine c2 _ _ _ ?_) | wp_step))
theorem issub_sb_call {X : String} {b b2 : Bool} {tp : Addr} {n : Nat} {s : Shared} {Q : Value → Shared → Prop} (hX : typeOf (.type X) = pure (.type "type"))
    (htp : s.heap.get? tp = some { cls := .type "tuple", data := .seq #[.type "str", .type "bytes"] n }) (h1 : isSubtype (.type X) (.type "str") = pure b) (h2 : isSubtype (.type X) (.type "bytes") = pure b2) (hb : (b || b2) = true)
    (hq : ∀ tk', Q (.bool true) { s with toks := tk' }) : wpAny (model prog w) A (call (.builtin "issubclass") [.type X, .ref tp]) Q E s :=
  call_issubclass (S := fun _ R s => s.heap.get? tp = some { cls := .type "tuple", data := .seq #[.type "str", .type "bytes"] n } ∧ ∀ tk', R (.ok (.ret (.bool true))) { s with toks := tk' })
    (fun _ _ _ _ _ hs => issubclass_outer (issub_nested_sb hX hs.1 h1 h2 hb hs.2)) ⟨htp, hq⟩
theorem issub_str {tp : Addr} {n : Nat} {s : Shared} {Q : Value → Shared → Prop}
    (htp : s.heap.get? tp = some { cls := .type "tuple", data := .seq #[.type "str", .type "bytes"] n }) 
    (hq : ∀ tk', Q (.bool true) { s with toks := tk' }) : wpAny (model prog w) A (call (.builtin "issubclass") [.type "str", .ref tp]) Q E s :=
  issub_sb_call (b2 := false) ty_str htp sub_str_str (by rw [isSubtype_type]; kernel_rfl) rfl hq
theorem issub_bytes {tp : Addr} {n : Nat} {s : Shared} {Q : Value → Shared → Prop}
    (htp : s.heap.get? tp = some { cls := .type "tuple", data := .seq #[.type "str", .type "bytes"] n }) 
    (hq : ∀ tk', Q (.bool true) { s with toks := tk' }) : wpAny (model prog w) A (call (.builtin "issubclass") [.type "bytes", .ref tp]) Q E s :=
  issub_sb_call ty_bytes htp sub_bytes_str sub_bytes_bytes rfl hq
end
/-- what a call of the def at f hands back: R of the new ledger and of the value -/
def Spec (prog p : Program) (K : Params → Frag) (f : Addr) (d u : Nat) (vs : List Value) (news : List (Addr × Obj)) (R : List (Addr × Obj) → Value → Prop) : Prop :=
  ∀ (w : World) (loose : List Str) (mean : ExcName → Option Value) (mg mb : Str → Option Value) (dp un : Nat) (gd : Option (List Code)) (cn : Str) (cs : Scope) (a : Addr) (ccd : Value) (cl : List (Str × Addr)) (outer : List Env) (A₀ : Around) (base h₀ : Heap) (L : Addr) (m : Str → Option Value) (s : Shared) (Q E : Value → Shared → Prop),
    Below A₀ base outer h₀ → Fr h₀ L s.heap m → (K w.params).In h₀ → News h₀ L s.heap news → Top p loose mean mg mb h₀ → cs.kind = .function →
    dp + d < recursionLimit → un + u < cLine →
    (∀ led v h' tk', R led v → (∀ q ∈ led, ∀ p ∈ news, p.1 < q.1) → Fr h₀ L h' m → News h₀ L h' (led ++ news) → Q v { s with heap := h', toks := tk' }) →
    wpAny (model prog w) (ktrTop dp un gd cn cs L a ccd cl outer) (call (.ref f) vs) Q E s
theorem Spec.use2 {prog p : Program} {K : Params → Frag} {f : Addr} {d u : Nat} {vs : List Value} {news : List (Addr × Obj)} {R : List (Addr × Obj) → Value → Prop}
    {w : World} {loose : List Str} {mean : ExcName → Option Value} {mg mb : Str → Option Value} {dp un : Nat} {gd : Option (List Code)} {cn : Str} {cs : Scope} {a : Addr} {ccd : Value} {cl : List (Str × Addr)} {outer : List Env} {A₀ : Around} {base h₀ : Heap} {L : Addr} {m : Str → Option Value} {s : Shared} {Q E : Value → Shared → Prop}
    (B : Below A₀ base outer h₀) (F : Fr h₀ L s.heap m) (X : (K w.params).In h₀) (N : News h₀ L s.heap news) (T : Top p loose mean mg mb h₀) (hk : cs.kind = .function) (S : Spec prog p K f d u vs news R)
    (hd : dp + d < recursionLimit) (hu : un + u < cLine)
    (ret : ∀ led v h' tk', R led v → (∀ q ∈ led, ∀ p ∈ news, p.1 < q.1) → Fr h₀ L h' m → News h₀ L h' (led ++ news) → Q v { s with heap := h', toks := tk' }) :
    wpAny (model prog w) (ktrTop dp un gd cn cs L a ccd cl outer) (call (.ref f) vs) Q E s :=
  S w loose mean mg mb dp un gd cn cs a ccd cl outer A₀ base h₀ L m s Q E B F X N T hk hd hu ret
/-- the same with a word of the caller's ground -/
def SpecP (prog p : Program) (K : Params → Frag) (f : Addr) (d u : Nat) (vs : List Value) (news : List (Addr × Obj)) (pre : Heap → Prop) (R : List (Addr × Obj) → Value → Prop) : Prop :=
  ∀ (w : World) (loose : List Str) (mean : ExcName → Option Value) (mg mb : Str → Option Value) (dp un : Nat) (gd : Option (List Code)) (cn : Str) (cs : Scope) (a : Addr) (ccd : Value) (cl : List (Str × Addr)) (outer : List Env) (A₀ : Around) (base h₀ : Heap) (L : Addr) (m : Str → Option Value) (s : Shared) (Q E : Value → Shared → Prop),
    Below A₀ base outer h₀ → Fr h₀ L s.heap m → (K w.params).In h₀ → News h₀ L s.heap news → Top p loose mean mg mb h₀ → cs.kind = .function →
    dp + d < recursionLimit → un + u < cLine → pre h₀ →
    (∀ led v h' tk', R led v → (∀ q ∈ led, ∀ p ∈ news, p.1 < q.1) → Fr h₀ L h' m → News h₀ L h' (led ++ news) → Q v { s with heap := h', toks := tk' }) →
    wpAny (model prog w) (ktrTop dp un gd cn cs L a ccd cl outer) (call (.ref f) vs) Q E s
theorem SpecP.use2 {prog p : Program} {K : Params → Frag} {f : Addr} {d u : Nat} {vs : List Value} {news : List (Addr × Obj)} {pre : Heap → Prop} {R : List (Addr × Obj) → Value → Prop}
    {w : World} {loose : List Str} {mean : ExcName → Option Value} {mg mb : Str → Option Value} {dp un : Nat} {gd : Option (List Code)} {cn : Str} {cs : Scope} {a : Addr} {ccd : Value} {cl : List (Str × Addr)} {outer : List Env} {A₀ : Around} {base h₀ : Heap} {L : Addr} {m : Str → Option Value} {s : Shared} {Q E : Value → Shared → Prop}
    (B : Below A₀ base outer h₀) (F : Fr h₀ L s.heap m) (X : (K w.params).In h₀) (N : News h₀ L s.heap news) (T : Top p loose mean mg mb h₀) (hk : cs.kind = .function) (S : SpecP prog p K f d u vs news pre R)
    (hd : dp + d < recursionLimit) (hu : un + u < cLine) (hp : pre h₀)
    (ret : ∀ led v h' tk', R led v → (∀ q ∈ led, ∀ p ∈ news, p.1 < q.1) → Fr h₀ L h' m → News h₀ L h' (led ++ news) → Q v { s with heap := h', toks := tk' }) :
    wpAny (model prog w) (ktrTop dp un gd cn cs L a ccd cl outer) (call (.ref f) vs) Q E s :=
  S w loose mean mg mb dp un gd cn cs a ccd cl outer A₀ base h₀ L m s Q E B F X N T hk hd hu hp ret
theorem list_up {h₀ h : Heap} {l : Addr} {vs : List Value} (hl : h₀.IsList l vs.toArray) (k : ∀ b o, h₀.get? b = some o → h.get? b = some o) : h.IsList l vs.toArray := hl.at fun o e => k _ o e
abbrev tupO (vs : List Value) : Obj := { cls := .type "tuple", data := .seq vs.toArray }
theorem no_led {news : List (Addr × Obj)} : ∀ q ∈ ([] : List (Addr × Obj)), ∀ p ∈ news, p.1 < q.1 := fun _ h => nomatch h
theorem allLt_mem {d : Addr} : ∀ {l : List (Addr × Obj)}, AllLt d l → ∀ p ∈ l, p.1 < d
  | [], _, _, hp => absurd hp (List.not_mem_nil)
  | q :: l, h, p, hp => (List.mem_cons.mp hp).elim (fun e => by rw [e]; exact h.1) (fun hp => allLt_mem h.2 p hp)
theorem hret_one {news newsN : List (Addr × Obj)} {h₀ h' : Heap} {L : Addr} {m : Str → Option Value} {s : Shared} {Q : Value → Shared → Prop} {R : List (Addr × Obj) → Value → Prop} {q : Addr} {o : Obj} {tk' : Nat}
    (hret : ∀ led v h' tk', R led v → (∀ q ∈ led, ∀ p ∈ news, p.1 < q.1) → Fr h₀ L h' m → News h₀ L h' (led ++ news) → Q v { s with heap := h', toks := tk' })
    (F : Fr h₀ L h' m) (N : News h₀ L h' ((q, o) :: newsN)) (hR : R [(q, o)] (.ref q)) (hf : ∀ p ∈ news, p.1 < q) (hs : ∀ p ∈ news, p ∈ newsN) : Q (.ref q) { s with heap := h', toks := tk' } :=
  hret _ _ _ _ hR (fun q' hq p hp => by rw [List.mem_singleton.mp hq]; exact hf p hp) F (cb_drop N fun p hp => List.mem_cons.mpr ((List.mem_cons.mp hp).imp id (hs p)))
end Mine
namespace Mine
/-! plain lists of signs' numbers, and the texts and bytes that they are -/
def mkS (l : List Nat) : Str := ⟨l.toArray⟩
def mkB (l : List Nat) : Array UInt8 := (l.map Nat.toUInt8).toArray
def Small (l : List Nat) : Prop := ∀ c ∈ l, c < 256
def pySl (l : List Nat) (lo hi : Option Int) : List Nat := (l.drop (lo.elim 0 (clipAt l.length))).take (hi.elim l.length (clipAt l.length) - lo.elim 0 (clipAt l.length))
def tailL (c : Nat) (l : List Nat) : List Nat := (l.reverse.takeWhile (fun x => x != c)).reverse
/-- behind the last c -/
def cutL (c : Nat) (l : List Nat) : Nat := l.length - (tailL c l).length
def rstL (c : Nat) (l : List Nat) : List Nat := (l.reverse.dropWhile (fun x => x == c)).reverse
def lstL (c : Nat) (l : List Nat) : List Nat := l.dropWhile (fun x => x == c)

theorem mkS_length (l : List Nat) : (mkS l).length = l.length := by simp [mkS, Str.length]
theorem mkS_cps (l : List Nat) : (mkS l).cps.toList = l := by simp [mkS]
theorem mkS_eta (x : Str) : mkS x.cps.toList = x := by simp [mkS]
theorem mkB_size (l : List Nat) : (mkB l).size = l.length := by simp [mkB]
theorem toUInt8_inj {a b : Nat} (ha : a < 256) (hb : b < 256) (h : a.toUInt8 = b.toUInt8) : a = b := by
  have h1 : a.toUInt8.toNat = b.toUInt8.toNat := by rw [h]
  simp at h1
  omega
theorem map_u8_inj : ∀ {a b : List Nat}, Small a → Small b → a.map Nat.toUInt8 = b.map Nat.toUInt8 → a = b
  | [], [], _, _, _ => rfl
  | [], _ :: _, _, _, h => by cases h
  | _ :: _, [], _, _, h => by cases h
  | x :: a, y :: b, ha, hb, h => by
    simp only [List.map_cons, List.cons.injEq] at h
    rw [toUInt8_inj (ha x (.head _)) (hb y (.head _)) h.1, map_u8_inj (fun c hc => ha c (.tail _ hc)) (fun c hc => hb c (.tail _ hc)) h.2]
theorem mkB_inj {a b : List Nat} (ha : Small a) (hb : Small b) (h : mkB a = mkB b) : a = b := map_u8_inj ha hb (by simpa [mkB] using h)
theorem mkS_inj {a b : List Nat} (h : mkS a = mkS b) : a = b := by simpa [mkS] using h
theorem Small.nil : Small [] := fun _ h => nomatch h
theorem Small.append {a b : List Nat} (ha : Small a) (hb : Small b) : Small (a ++ b) := fun c hc => (List.mem_append.mp hc).elim (ha c) (hb c)
theorem Small.sub {a b : List Nat} (ha : Small a) (h : ∀ c ∈ b, c ∈ a) : Small b := fun c hc => ha c (h c hc)
theorem pySl_mem {l : List Nat} {lo hi : Option Int} {c : Nat} (h : c ∈ pySl l lo hi) : c ∈ l := List.mem_of_mem_drop (List.mem_of_mem_take h)
theorem Small.sl {a : List Nat} (ha : Small a) (lo hi : Option Int) : Small (pySl a lo hi) := ha.sub fun _ => pySl_mem
theorem rstL_mem {l : List Nat} {k c : Nat} (h : c ∈ rstL k l) : c ∈ l := by
  unfold rstL at h
  rw [List.mem_reverse] at h
  exact List.mem_reverse.mp (List.dropWhile_sublist _ |>.mem h)
theorem pySl_length (l : List Nat) (lo hi : Option Int) : (pySl l lo hi).length ≤ l.length := by
  unfold pySl; rw [List.length_take, List.length_drop]; omega

theorem clip_nat (n k : Nat) : clipAt n (k : Int) = min k n := clipAt_nat n k
theorem pySl_to (l : List Nat) (k : Nat) : pySl l none (some (k : Int)) = l.take k := by
  unfold pySl
  simp only [Option.elim, clip_nat, List.drop_zero, Nat.sub_zero]
  rw [List.take_eq_take_iff]; omega
theorem pySl_from (l : List Nat) (k : Nat) : pySl l (some (k : Int)) none = l.drop k := by
  unfold pySl
  simp only [Option.elim, clip_nat]
  rw [List.take_of_length_le (by rw [List.length_drop]; omega)]
  by_cases h : k ≤ l.length
  · rw [Nat.min_eq_left h]
  · rw [List.drop_of_length_le (by omega), List.drop_of_length_le (by omega)]
theorem pySl_ft (l : List Nat) (a b : Nat) : pySl l (some (a : Int)) (some (b : Int)) = (l.drop a).take (b - a) := by
  unfold pySl
  simp only [Option.elim, clip_nat]
  by_cases h : a ≤ l.length
  · rw [Nat.min_eq_left h, List.take_eq_take_iff, List.length_drop]; omega
  · rw [List.drop_of_length_le (show l.length ≤ min a l.length by omega), List.drop_of_length_le (show l.length ≤ a by omega)]; simp

theorem sliceIdx_eq (lo hi : Option Int) (n : Nat) : Builtin.Str.strSliceIndices lo hi 1 n = sliceRange ((lo.elim 0 (clipAt n) : Nat) : Int) ((hi.elim n (clipAt n) : Nat) : Int) 1 := by
  unfold Builtin.Str.strSliceIndices
  cases lo <;> cases hi <;> simp [clipAt_cast]
theorem clipAt_le (n : Nat) (i : Int) : clipAt n i ≤ n := by
  have h := clipAt_cast n i
  omega
theorem slice_mkS (l : List Nat) (lo hi : Option Int) : Txt.slice (mkS l) lo hi = mkS (pySl l lo hi) := by
  have hb : hi.elim l.length (clipAt l.length) ≤ l.length := by cases hi with
    | none => exact Nat.le_refl _
    | some i => exact clipAt_le _ _
  unfold Txt.slice
  rw [sliceIdx_eq, sliceRange_one, mkS_length]
  split
  · rename_i h
    simp at h
    have e : pySl l lo hi = l := by
      unfold pySl
      generalize hA : lo.elim 0 (clipAt l.length) = a at *
      generalize hB : hi.elim l.length (clipAt l.length) = b at *
      have h2 : (b : Nat) - a = l.length := h
      rw [h2]
      rcases Nat.eq_zero_or_pos l.length with h0 | h0
      · rw [List.length_eq_zero_iff.mp h0]; simp
      · have ha : a = 0 := by omega
        rw [ha]; simp
    rw [e]
  · rw [pick_run, mkS_cps]; rfl
theorem picked_mkB (l : List Nat) (lo hi : Option Int) : KBy.picked (mkB l) lo hi = mkB (pySl l lo hi) := by
  rw [KBc.picked_eq]
  unfold mkB pySl
  simp [List.map_take, List.map_drop]

/-! the last place of a sign -/
theorem subAt_one (l : List Nat) (c i : Nat) : Builtin.Str.subAt (mkS l) (mkS [c]) i = true ↔ l[i]? = some c := by
  rw [StrLaws.subAt_eq, mkS_cps, mkS_cps, mkS_length, beq_iff_eq]
  show List.take 1 (l.drop i) = [c] ↔ _
  rw [List.take_one, List.head?_drop]
  cases l[i]? <;> simp

/-! bytes -/
theorem mkB_extract (l : List Nat) (i j : Nat) : (mkB l).extract i j = mkB ((l.drop i).take (j - i)) := by
  unfold mkB
  rw [List.extract_toArray, List.extract_eq_take_drop, List.map_take, List.map_drop]
theorem mkB_beq {a b : List Nat} (ha : Small a) (hb : Small b) : (mkB a == mkB b) = (a == b) := by
  by_cases h : a = b
  · subst h; simp
  · rw [beq_eq_false_iff_ne.mpr h, beq_eq_false_iff_ne.mpr fun e => h (mkB_inj ha hb e)]
theorem Small.one {c : Nat} (h : c < 256) : Small [c] := fun x hx => by rw [List.mem_singleton.mp hx]; exact h
end Mine
namespace Mine
theorem lit_slash : Str.ofString "/" = mkS [47] := by decide +kernel
theorem lit_dot : Str.ofString "." = mkS [46] := by decide +kernel
theorem lit_dd : Str.ofString ".." = mkS [46, 46] := by decide +kernel
theorem lit_nil : Str.ofString "" = mkS [] := by decide +kernel
theorem lit_slashB : ([47] : List UInt8).toArray = mkB [47] := rfl
theorem lit_dotB : ([46] : List UInt8).toArray = mkB [46] := rfl
theorem lit_ddB : ([46, 46] : List UInt8).toArray = mkB [46, 46] := rfl
theorem lit_nilB : ([] : List UInt8).toArray = mkB [] := rfl
theorem Small.rep {c : Nat} (h : c < 256) (k : Nat) : Small (List.replicate k c) := fun x hx => by rw [List.eq_of_mem_replicate hx]; exact h
theorem len_ne_zero (l : List Nat) : ((l.length : Int) != 0) = decide (l ≠ []) := by
  cases l with
  | nil => rfl
  | cons x l => simp; omega
theorem bne_dec (a b : List Nat) : (a != b) = decide (a ≠ b) := by
  by_cases h : a = b
  · simp [h]
  · simp [h]
theorem beq_dec (a b : List Nat) : (a == b) = decide (a = b) := by
  by_cases h : a = b
  · simp [h]
  · simp [h]
section
variable {prog : Program} {w : World} {A : Around} {E : Value → Shared → Prop} {s : Shared} {l m : List Nat} {t u : Tok}
/-! texts -/
theorem truthy_S {Q : Bool → Shared → Prop} (hz : l.length ≤ 4096) (h : Q (decide (l ≠ [])) { s with toks := s.toks + 1 + 1 }) : wpAny (model prog w) A (truthy (.str (mkS l) t)) Q E s :=
  P.truthy_str (by rw [mkS_length]; omega) (by rw [mkS_length, len_ne_zero]; exact h)
theorem eq_S {x y : Str} {Q : Value → Shared → Prop} (hx : x = mkS l) (hy : y = mkS m) (h : Q (.bool (decide (l = m))) s) : wpAny (model prog w) A (compareOp .Eq (.str x t) (.str y u)) Q E s :=
  P.eq_str (by rw [hx, hy, mkS_cps, mkS_cps, beq_dec]; exact h)
theorem ne_S {x y : Str} {Q : Value → Shared → Prop} (hx : x = mkS l) (hy : y = mkS m) (h : Q (.bool (decide (l ≠ m))) s) : wpAny (model prog w) A (compareOp .NotEq (.str x t) (.str y u)) Q E s :=
  P.ne_str (by rw [hx, hy, mkS_cps, mkS_cps, bne_dec]; exact h)
section
variable {value slice : PySem.Expr} {h₀ : Heap} {L : Addr} {fm : PySem.Str → Option Value} {news : List (Addr × Obj)} {Q : Value → Shared → Prop} {lo hi : Option Int} {vl vu : Value}
theorem slice_S (hF : Fr h₀ L s.heap fm) (hN : News h₀ L s.heap news) (hl : IsPart vl lo) (hu : IsPart vu hi) (hz : l.length ≤ 4096)
    (h : ∀ h' t' k, Fr h₀ L h' fm → News h₀ L h' news → (pySl l lo hi).length ≤ l.length → Q (.str (mkS (pySl l lo hi)) t') { s with heap := h', toks := k })
    (hs : subscripted slice false (.str (mkS l) t) (.ref s.heap.objs.size) = operate [.ref s.heap.objs.size, .str (mkS l) t] (getItem (.str (mkS l) t) (.ref s.heap.objs.size)) := by with_unfolding_all rfl)
    (ht : ∀ r, letTemporaryGo value (.str (mkS l) t) r = pure () := by intro _; with_unfolding_all rfl) :
    wpAny (model prog w) A (subscriptTail value slice (.str (mkS l) t) (.ref s.heap.objs.size)) Q E { s with heap := s.heap.push { cls := .type "slice", data := .fields #[vl, vu, .none] } } := by
  have hsz : (mkS l).length ≤ sizeLine := by rw [mkS_length, sizeLine_eq]; omega
  cases hl <;> cases hu
  · exact slice_strN_nn hF hN (fun h' t' k a b => by rw [slice_mkS]; exact h h' t' k a b (pySl_length _ _ _)) hs ht hsz
  · exact slice_strN_ns hF hN (fun h' t' k a b => by rw [slice_mkS]; exact h h' t' k a b (pySl_length _ _ _)) hs ht hsz
  · exact slice_strN_sn hF hN (fun h' t' k a b => by rw [slice_mkS]; exact h h' t' k a b (pySl_length _ _ _)) hs ht hsz
  · exact slice_strN_ss hF hN (fun h' t' k a b => by rw [slice_mkS]; exact h h' t' k a b (pySl_length _ _ _)) hs ht hsz
theorem slice_B (hF : Fr h₀ L s.heap fm) (hN : News h₀ L s.heap news) (hl : IsPart vl lo) (hu : IsPart vu hi) (hz : l.length ≤ 4096)
    (h : ∀ h' t' k, Fr h₀ L h' fm → News h₀ L h' news → (pySl l lo hi).length ≤ l.length → Q (.bytes (mkB (pySl l lo hi)) t') { s with heap := h', toks := k })
    (hs : subscripted slice false (.bytes (mkB l) t) (.ref s.heap.objs.size) = operate [.ref s.heap.objs.size, .bytes (mkB l) t] (getItem (.bytes (mkB l) t) (.ref s.heap.objs.size)) := by with_unfolding_all rfl)
    (ht : ∀ r, letTemporaryGo value (.bytes (mkB l) t) r = pure () := by intro _; with_unfolding_all rfl) :
    wpAny (model prog w) A (subscriptTail value slice (.bytes (mkB l) t) (.ref s.heap.objs.size)) Q E { s with heap := s.heap.push { cls := .type "slice", data := .fields #[vl, vu, .none] } } :=
  KBc.slice_K hF hN rfl hl hu (by rw [KBw.ints_length, mkB_size]; omega) (fun h' t' k a b _ => by rw [picked_mkB]; exact h h' t' k a b (pySl_length _ _ _)) hs ht
end
/-! bytes -/
theorem truthy_B {Q : Bool → Shared → Prop} (hz : l.length ≤ 4096) (h : Q (decide (l ≠ [])) { s with toks := s.toks + 1 + 1 }) : wpAny (model prog w) A (truthy (.bytes (mkB l) t)) Q E s :=
  truthy_bytes (by rw [mkB_size]; omega) (by rw [mkB_size, len_ne_zero]; exact h)
theorem mkB_list_beq {a b : List Nat} (ha : Small a) (hb : Small b) : ((mkB a).toList == (mkB b).toList) = decide (a = b) := by
  by_cases h : a = b
  · subst h; simp
  · have : (mkB a).toList ≠ (mkB b).toList := fun e => h (mkB_inj ha hb (by rw [← Array.toArray_toList (xs := mkB a), e, Array.toArray_toList]))
    rw [beq_eq_false_iff_ne.mpr this]; simp [h]
theorem eq_B {x y : Array UInt8} {Q : Value → Shared → Prop} (hx : x = mkB l) (hy : y = mkB m) (h1 : Small l) (h2 : Small m) (h : Q (.bool (decide (l = m))) s) : wpAny (model prog w) A (compareOp .Eq (.bytes x t) (.bytes y u)) Q E s :=
  eq_bytes (by rw [hx, hy, mkB_list_beq h1 h2]; exact h)
theorem ne_B {x y : Array UInt8} {Q : Value → Shared → Prop} (hx : x = mkB l) (hy : y = mkB m) (h1 : Small l) (h2 : Small m) (h : Q (.bool (decide (l ≠ m))) s) : wpAny (model prog w) A (compareOp .NotEq (.bytes x t) (.bytes y u)) Q E s :=
  ne_bytes (by rw [hx, hy, bne, mkB_list_beq h1 h2, ← decide_not]; exact h)
end

/-! what the functions of the program give, as plain lists -/
def headL (l : List Nat) : List Nat := if l.take (cutL 47 l) ≠ [] ∧ l.take (cutL 47 l) ≠ List.replicate (l.take (cutL 47 l)).length 47 then rstL 47 (l.take (cutL 47 l)) else l.take (cutL 47 l)
def tlL (l : List Nat) : List Nat := l.drop (cutL 47 l)
theorem headL_mem {l : List Nat} {c : Nat} (h : c ∈ headL l) : c ∈ l := by
  unfold headL at h
  split at h
  · exact List.mem_of_mem_take (rstL_mem h)
  · exact List.mem_of_mem_take h
theorem Small.head {l : List Nat} (h : Small l) : Small (headL l) := h.sub fun _ => headL_mem
/-- where the ending begins -/
def extK (l : List Nat) : Nat := if ((l.take (cutL 46 l - 1)).drop (cutL 47 l)).any (fun c => c != 46) then cutL 46 l - 1 else l.length

theorem drop_one_eq {l : List Nat} {k c : Nat} : (l.drop k).take 1 = [c] ↔ l[k]? = some c := by
  rw [List.take_one, List.head?_drop]
  cases l[k]? <;> simp

/-! methods of bytes -/
theorem slot_split : Slot "bytes" "split" "bytes.split" :=
  .of (owner := "bytes") (n := "split") (by rw [typeLookup_type, builtinLookup_eq_fast]; kernel_rfl) (by decide +kernel) (by decide +kernel) (by decide +kernel)
    (by first | exact .inl (by decide +kernel) | exact .inr (by decide +kernel)) (by rw [isSubtype_type]; kernel_rfl)
theorem type_split : typeOf (.builtin "bytes.split") = pure (.type "method_descriptor") := by show builtinType _ = _; rw [builtinType_eq_fast]; kernel_rfl
theorem entry_split : entryFor table "bytes.split" = some Builtin.«bytes.split» := entryFor_of_tree (by kernel_rfl)
theorem args_split (a b : Value) : argsOk "bytes.split" ⟨[a, b], []⟩ := by
  unfold argsOk; rw [signature?_of (id := "bytes.split") (n := ['t', 'i', 'l', 'p', 's']) (o := ['s', 'e', 't', 'y', 'b']) (by kernel_rfl) FB.owner_bytes]; kernel_rfl
theorem meth_split {M : Model} {A : Around} {E : Value → Shared → Prop} {s : Shared} {b : Array UInt8} {t : Tok} {pl : Sem Bool} {Q : Value × List Value → Shared → Prop} (h : Q (.builtin "bytes.split", [.bytes b t]) s) : wpAny M A (getMethod (.bytes b t) "split" pl) Q E s := by
  with_reducible exact KBd.method_of (.bytes b t) (typeIs_bytes _ _ _) slot_split type_split KBd.noRef h
theorem slot_join : Slot "bytes" "join" "bytes.join" :=
  .of (owner := "bytes") (n := "join") (by rw [typeLookup_type, builtinLookup_eq_fast]; kernel_rfl) (by decide +kernel) (by decide +kernel) (by decide +kernel)
    (by first | exact .inl (by decide +kernel) | exact .inr (by decide +kernel)) (by rw [isSubtype_type]; kernel_rfl)
theorem type_join : typeOf (.builtin "bytes.join") = pure (.type "method_descriptor") := by show builtinType _ = _; rw [builtinType_eq_fast]; kernel_rfl
theorem entry_join : entryFor table "bytes.join" = some Builtin.«bytes.join» := entryFor_of_tree (by kernel_rfl)
theorem args_join (a b : Value) : argsOk "bytes.join" ⟨[a, b], []⟩ := by
  unfold argsOk; rw [signature?_of (id := "bytes.join") (n := ['n', 'i', 'o', 'j']) (o := ['s', 'e', 't', 'y', 'b']) (by kernel_rfl) FB.owner_bytes]; kernel_rfl
theorem meth_join {M : Model} {A : Around} {E : Value → Shared → Prop} {s : Shared} {b : Array UInt8} {t : Tok} {pl : Sem Bool} {Q : Value × List Value → Shared → Prop} (h : Q (.builtin "bytes.join", [.bytes b t]) s) : wpAny M A (getMethod (.bytes b t) "join" pl) Q E s := by
  with_reducible exact KBd.method_of (.bytes b t) (typeIs_bytes _ _ _) slot_join type_join KBd.noRef h

section
open Builtin
variable {prog : Program} {w : World} {A : Around} {E : Value → Shared → Prop} {s : Shared} {l m : List Nat} {t u : Tok}
end
end Mine
namespace Mine
def Stop (P : Prop) : Prop := P
theorem Stop.of {P : Prop} (h : Stop P) : P := h
theorem Stop.un {P : Prop} (h : P) : Stop P := h
@[irreducible] def StopG (P : Prop) : Prop := P
theorem StopG.eq (P : Prop) : StopG P = P := by unfold StopG; rfl
theorem goodStop {c : ClaimW} {cl : Str → Option Addr} {mean : ExcName → Option Value} {args : List WData} {s₁ s' : Shared} {r : Except Value Flow} (h : StopG (GoodW c cl mean args s₁ r s')) : GoodW c cl mean args s₁ r s' := by rw [StopG.eq] at h; exact h
theorem stopG {P : Prop} (h : StopG P) : P := by rw [StopG.eq] at h; exact h
section
variable {prog : Program} {w : World} {A : Around} {E : Value → Shared → Prop} {s : Shared} {env : Env} {h₀ : Heap} {x : Str} {body : List Stmt} {Q : Flow → Shared → Prop}

theorem led_head {h₀ h : Heap} {L a : Addr} {o : Obj} {r : List (Addr × Obj)} (_N : News h₀ L h ((a, o) :: r)) : ∃ b, b = a := ⟨a, rfl⟩
def StopN (P : Prop) : Prop := P
/-- the end of a loop's turn: the state's letters c, their ledger and names -/
def TurnEnd {σ : Type} (h₀ : Heap) (L : Addr) (Led : σ → List (Addr × Obj)) (ps : σ → List (Str × Value)) (x : Str) (stored : List Str) (m₀ : Str → Option Value) (P : σ → Prop) (I : Addr) (oI : Obj) (s₁ s₂ : Shared) : Prop :=
  ∃ c h' tk m' news', s₂ = { s₁ with heap := h', toks := tk } ∧ Fr h₀ L h' m' ∧ News h₀ L h' news' ∧ (∀ p ∈ Led c, p ∈ news') ∧ (I, oI) ∈ news' ∧ (∀ p ∈ Led c, p.1 ≠ I) ∧ (∀ p ∈ ps c, m' p.1 = some p.2) ∧ (∀ z, z ≠ x → (∀ p ∈ ps c, z ≠ p.1) → stored.contains z = false → m' z = m₀ z) ∧ P c
def TurnPost {σ : Type} (h₀ : Heap) (L : Addr) (Led : σ → List (Addr × Obj)) (ps : σ → List (Str × Value)) (x : Str) (stored : List Str) (m₀ : Str → Option Value) (P : σ → Prop) (I : Addr) (oI : Obj) (s₁ : Shared) (Q : Flow → Shared → Prop) (f : Flow) (s₂ : Shared) : Prop :=
  match f with
  | .ret v => Q (.ret v) s₂
  | .brk => Q .next s₂
  | _ => TurnEnd h₀ L Led ps x stored m₀ P I oI s₁ s₂

theorem turn_end {σ : Type} {L : Addr} {Led : σ → List (Addr × Obj)} {ps : σ → List (Str × Value)} {stored : List Str} {m₀ m' : Str → Option Value} {P : σ → Prop} {I : Addr} {oI : Obj} {s₁ : Shared} {h' : Heap} {tk : Nat} {news' : List (Addr × Obj)} (c : σ)
    (F : Fr h₀ L h' m') (N : News h₀ L h' news') (hn : ∀ p ∈ Led c, p ∈ news') (hI : (I, oI) ∈ news') (hne : ∀ p ∈ Led c, p.1 ≠ I) (hk : ∀ p ∈ ps c, m' p.1 = some p.2)
    (hr : ∀ z, z ≠ x → (∀ p ∈ ps c, z ≠ p.1) → stored.contains z = false → m' z = m₀ z) (hp : P c) : TurnEnd h₀ L Led ps x stored m₀ P I oI s₁ { s₁ with heap := h', toks := tk } :=
  ⟨c, h', tk, m', news', rfl, F, N, hn, hI, hne, hk, hr, hp⟩

theorem for_core {σ : Type} {I : Addr} {fp : List Addr} {n : Nat} {Pv : Nat → Value → Prop} {St : Nat → Heap → Prop} {m₀ : Str → Option Value} (Led : σ → List (Addr × Obj)) (ps : σ → List (Str × Value)) (stored : List Str) (P : Nat → σ → Prop) (c₀ : σ)
    (W : Walks prog w A I fp [I] n Pv St) (hLf : env.locals ∉ fp) (hI0 : h₀.get? I = none) (hoI : ∀ i h, St i h → ∃ o, h.get? I = some o)
    (hfp : ∀ b ∈ fp, b = I ∨ (∃ o, h₀.get? b = some o) ∨ ∃ o, ∀ c, (b, o) ∈ Led c)
    (hst : St 0 s.heap) (F : Fr h₀ env.locals s.heap m₀) (N : News h₀ env.locals s.heap (Led c₀)) (hIl : ∀ p ∈ Led c₀, p.1 ≠ I) (hk : ∀ p ∈ ps c₀, m₀ p.1 = some p.2) (hp : P 0 c₀)
    (turn : ∀ (c : σ) i v (u : Str → Option Value) h tk oI, i < n → Pv i v → P i c → (∀ p ∈ Led c, p.1 ≠ I) →
      Fr h₀ env.locals h (fun y => if y = x then some v else kstB (fun z => if stored.contains z then u z else m₀ z) (ps c) y) → News h₀ env.locals h ((I, oI) :: Led c) →
      wpAny (model prog w) A (execs body env) (TurnPost h₀ env.locals Led ps x stored m₀ (P (i + 1)) I oI { s with heap := h, toks := tk } Q) E { s with heap := h, toks := tk })
    (done : ∀ (c : σ) (u : Str → Option Value) h tk, P n c → Fr h₀ env.locals h (fun y => if y = x then u y else kstB (fun z => if stored.contains z then u z else m₀ z) (ps c) y) → News h₀ env.locals h (Led c) → Q .next { s with heap := h, toks := tk }) :
    LoopAtV prog w A h₀ env x body Q E (.ref I) s := by
  let J : Nat → (Str → Option Value) → List (Addr × Obj) → Prop := fun i m nx => ∃ c, nx = Led c ∧ (∀ p ∈ ps c, m p.1 = some p.2) ∧ (∀ z, z ≠ x → (∀ p ∈ ps c, z ≠ p.1) → stored.contains z = false → m z = m₀ z) ∧ P i c
  refine ⟨I, fp, [I], n, Pv, St, m₀, Led c₀, J, rfl, W, hLf, ?_, ?_, hst, F, N, ⟨c₀, rfl, hk, fun _ _ _ _ => rfl, hp⟩, ?_, ?_⟩
  · intro b hb; rw [List.mem_singleton.mp hb]; exact hI0
  · intro p hp hq; exact hIl p hp (List.mem_singleton.mp hq)
  · rintro i v m₁ news₁ s₁ own ⟨hh', tk', rfl⟩ hin hP ⟨c, rfl, h1, h2, hp'⟩ hoff hown hget hmem hst' F₁ N₁
    have hne : ∀ p ∈ Led c, p.1 ≠ I := fun p hp e => hoff p hp (List.mem_singleton.mpr e)
    obtain ⟨oI, hI⟩ := hoI _ _ hst'
    have hIfp : I ∈ fp := W.sub I (.head _)
    have hIown : (I, oI) ∈ own := hmem I hIfp hI0 oI hI
    have N₂ : News h₀ env.locals hh' ((I, oI) :: Led c) := fun p hp => (List.mem_cons.mp hp).elim (fun e => N₁ p (List.mem_append.mpr (.inl (e ▸ hIown)))) fun h => N₁ p (List.mem_append.mpr (.inr h))
    refine wpAny_mono (turn c i v m₁ hh' tk' oI hin hP hp' hne (kst_fr h1 h2 F₁) N₂) (fun f s₂ p => ?_) fun _ _ e => e
    have fin : TurnEnd h₀ env.locals Led ps x stored m₀ (P (i + 1)) I oI { s with heap := hh', toks := tk' } s₂ → LoopStepU h₀ env.locals [I] own (J (i + 1)) { s with heap := hh', toks := tk' } .next s₂ := by
      rintro ⟨c', h', tk, m', news', e, F', N', hn, hI', hne', hk', hr', hp''⟩
      refine ⟨rfl, h', tk, m', Led c', e, F', fun p hp => ?_, fun p hp hq => hne' p hp (List.mem_singleton.mp hq), c', rfl, hk', hr', hp''⟩
      rcases List.mem_append.mp hp with hp | hp
      · have hg : hh'.get? p.1 = some p.2 := hget p hp
        rcases hfp p.1 (hown p hp) with e1 | ⟨o, e1⟩ | ⟨o, e1⟩
        · have : p = (I, oI) := by
            have h5 := hg
            rw [e1, hI] at h5
            exact Prod.ext e1 (Option.some.inj h5).symm
          rw [this]; exact N' _ hI'
        · have h5 := (N₁ p (List.mem_append.mpr (.inl hp))).2.2
          rw [e1] at h5; cases h5
        · have h5 := (N₁ _ (List.mem_append.mpr (.inr (e1 c)))).1
          have : p = (p.1, o) := Prod.ext rfl (by have h6 := hg; simp only at h5; rw [h5] at h6; exact (Option.some.inj h6).symm)
          rw [this]; exact N' _ (hn _ (e1 c'))
      · exact N' p (hn p hp)
    cases f with
    | ret v => exact .ret p
    | brk => exact .brk p
    | next => exact .next (fin p)
    | cont => exact .cont (fin p)
  · rintro h' tk m' news' F' N' _ ⟨c, rfl, h1, h2, hp'⟩
    exact done c m' h' tk hp' (kst_frOut h1 h2 F') N'

/-- a for over a list that stays as it is -/
theorem for_list {σ : Type} {l : Addr} {vs : List Value} {m₀ : Str → Option Value} (Led : σ → List (Addr × Obj)) (ps : σ → List (Str × Value)) (stored : List Str) (P : Nat → σ → Prop) (c₀ : σ)
    (hh : A.handled = none) (hl : s.heap.IsList l vs.toArray) (hl2 : (∃ o, h₀.get? l = some o) ∨ ∃ o, ∀ c, (l, o) ∈ Led c) (F : Fr h₀ env.locals s.heap m₀) (N : News h₀ env.locals s.heap (Led c₀)) (hk : ∀ p ∈ ps c₀, m₀ p.1 = some p.2) (hp : P 0 c₀)
    (turn : ∀ (c : σ) i v (u : Str → Option Value) h tk I oI, i < vs.length → vs[i]? = some v → P i c → (∀ p ∈ Led c, p.1 ≠ I) →
      Fr h₀ env.locals h (fun y => if y = x then some v else kstB (fun z => if stored.contains z then u z else m₀ z) (ps c) y) → News h₀ env.locals h ((I, oI) :: Led c) →
      wpAny (model prog w) A (execs body env) (TurnPost h₀ env.locals Led ps x stored m₀ (P (i + 1)) I oI { s with heap := h, toks := tk } Q) E { s with heap := h, toks := tk })
    (done : ∀ (c : σ) (u : Str → Option Value) h tk, P vs.length c → Fr h₀ env.locals h (fun y => if y = x then u y else kstB (fun z => if stored.contains z then u z else m₀ z) (ps c) y) → News h₀ env.locals h (Led c) → Q .next { s with heap := h, toks := tk }) :
    wpAny (model prog w) A (pyIter (.ref l)) (fun it s₂ => LoopAtV prog w A h₀ env x body Q E it s₂) E s := by
  obtain ⟨ol, hol, _⟩ := id hl
  have hlt : l < s.heap.objs.size := Heap.lt_size hol
  refine wpAny_pyIter_list hl ?_
  have W := Walks.list (prog := prog) (w := w) hh s.heap.objs.size l (Nat.ne_of_lt hlt) vs.toArray
  have hlen : vs.toArray.size = vs.length := by simp
  rw [hlen] at W
  have hne : env.locals ≠ l := by
    intro e
    rcases hl2 with ⟨o, h1⟩ | ⟨o, h1⟩
    · rw [← e] at h1; exact absurd (Nat.lt_of_lt_of_le (Heap.lt_size h1) F.above) (Nat.lt_irrefl _)
    · exact (N _ (h1 c₀)).2.1 e.symm
  refine for_core Led ps stored P c₀ W ?_ (next_is_new F) (fun i h st => st.1.imp fun _ x => x.1) ?_ ⟨⟨_, Heap.get?_push_size _ rfl, rfl, rfl⟩, hl.at fun o e => Heap.get?_push_of_some _ e⟩ (F.push _) (fun p hp => ⟨Heap.get?_push_of_some _ (N p hp).1, (N p hp).2⟩) ?_ hk hp ?_ ?_
  · intro hm
    rcases List.mem_cons.mp hm with e | hm
    · exact absurd F.ns.lt (e ▸ Nat.lt_irrefl _)
    · exact hne (List.mem_singleton.mp hm)
  · intro b hb
    rcases List.mem_cons.mp hb with e | hm
    · exact .inl e
    · rw [List.mem_singleton.mp hm]; exact .inr hl2
  · intro p hp e
    exact absurd (Heap.lt_size (N p hp).1) (e ▸ Nat.lt_irrefl _)
  · intro c i v u h tk oI hi hv hp hne F N
    exact turn c i v u h tk _ oI hi (by simpa using hv) hp hne F N
  · exact done

theorem for_range {σ : Type} {r : Addr} {a₀ b₀ : Int} {t₀ u₀ v₀ : Tok} {n : Nat} {m₀ : Str → Option Value} (Led : σ → List (Addr × Obj)) (ps : σ → List (Str × Value)) (stored : List Str) (P : Nat → σ → Prop) (c₀ : σ)
    (hh : A.handled = none) (hr : IsRange s.heap r a₀ b₀ 1 t₀ u₀ v₀) (hsmall : Builtin.Range.small a₀ b₀ 1 = true) (hn : Builtin.Range.rangeSize a₀ b₀ 1 = (n : Int)) (F : Fr h₀ env.locals s.heap m₀) (N : News h₀ env.locals s.heap (Led c₀)) (hk : ∀ p ∈ ps c₀, m₀ p.1 = some p.2) (hp : P 0 c₀)
    (turn : ∀ (c : σ) i k t (u : Str → Option Value) h tk I oI, i < n → k = a₀ + (i : Int) → P i c → (∀ p ∈ Led c, p.1 ≠ I) →
      Fr h₀ env.locals h (fun y => if y = x then some (.int k t) else kstB (fun z => if stored.contains z then u z else m₀ z) (ps c) y) → News h₀ env.locals h ((I, oI) :: Led c) →
      wpAny (model prog w) A (execs body env) (TurnPost h₀ env.locals Led ps x stored m₀ (P (i + 1)) I oI { s with heap := h, toks := tk } Q) E { s with heap := h, toks := tk })
    (done : ∀ (c : σ) (u : Str → Option Value) h tk, P n c → Fr h₀ env.locals h (fun y => if y = x then u y else kstB (fun z => if stored.contains z then u z else m₀ z) (ps c) y) → News h₀ env.locals h (Led c) → Q .next { s with heap := h, toks := tk }) :
    wpAny (model prog w) A (pyIter (.ref r)) (fun it s₂ => LoopAtV prog w A h₀ env x body Q E it s₂) E s := by
  refine wpAny_pyIter_range hr hsmall ?_
  refine for_core Led ps stored P c₀ (Walks.range hh s.heap.objs.size a₀ 1 n) ?_ (next_is_new F) (fun i h st => ⟨_, st⟩) (fun b hb => .inl (List.mem_singleton.mp hb)) (by show IsRangeIter _ _ _ _ _; rw [hn]; simpa using Heap.get?_push_size _ rfl) (F.push _) (fun p hp => ⟨Heap.get?_push_of_some _ (N p hp).1, (N p hp).2⟩) ?_ hk hp ?_ done
  · intro hm
    exact absurd F.ns.lt ((List.mem_singleton.mp hm) ▸ Nat.lt_irrefl _)
  · intro p hp e
    exact absurd (Heap.lt_size (N p hp).1) (e ▸ Nat.lt_irrefl _)
  · rintro c i v u h tk oI hi ⟨t, rfl⟩ hp hne F N
    exact turn c i _ t u h tk _ oI hi (by omega) hp hne F N
end
def IN (l : List Nat) : List Int := l.map (fun c : Nat => (c : Int))
theorem IN_length (l : List Nat) : (IN l).length = l.length := by simp [IN]
theorem IN_append (a b : List Nat) : IN (a ++ b) = IN a ++ IN b := by simp [IN]
theorem ints_at {vs : List Value} {ns : List Int} (h : IntsAre vs ns) : ∀ {i : Nat} {v : Value}, vs[i]? = some v → ∃ n t, ns[i]? = some n ∧ v = .int n t := by
  induction h with
  | nil => intro i v h; simp at h
  | cons n t _ ih =>
    intro i v h
    cases i with
    | zero => simp at h; exact ⟨n, t, rfl, h.symm⟩
    | succ i => simp at h; exact ih h
theorem IN_at {vs : List Value} {l : List Nat} (h : IntsAre vs (IN l)) {i : Nat} {v : Value} (hv : vs[i]? = some v) : ∃ c t, l[i]? = some c ∧ v = .int (c : Int) t := by
  obtain ⟨n, t, h1, h2⟩ := ints_at h hv
  unfold IN at h1
  rw [List.getElem?_map] at h1
  cases e : l[i]? with
  | none => rw [e] at h1; cases h1
  | some c => rw [e] at h1; cases h1; exact ⟨c, t, rfl, h2⟩
theorem ints_len {vs : List Value} {l : List Nat} (h : IntsAre vs (IN l)) : vs.length = l.length := by rw [h.length, IN_length]
theorem carried_ints {α : Type} {f : α → Int} : ∀ {as : List α} {ys : List Value}, CarriedAll ys (as.map fun a => PyData.int (f a)) → IntsAre ys (as.map f)
  | [], _, h => by cases h; exact .nil
  | a :: as, _, h => by
    cases h with
    | cons h r =>
      cases h
      exact .cons _ _ (carried_ints r)
theorem carried_strs {α : Type} {f : α → Str} : ∀ {as : List α} {ys : List Value}, CarriedAll ys (as.map fun a => PyData.str (f a)) → StrsAre ys (as.map f)
  | [], _, h => by cases h; exact .nil
  | a :: as, _, h => by
    cases h with
    | cons h r =>
      cases h
      exact .cons _ _ (carried_strs r)
theorem Keeps.rfl' {s : Shared} : Keeps s s := ⟨s.heap, s.toks, rfl, fun _ _ e => e⟩
theorem Keeps.toks {s : Shared} (k : Nat) : Keeps s { s with toks := k } := ⟨s.heap, k, rfl, fun _ _ e => e⟩
theorem News.ofPlain {h₀ h : Heap} {L D : Addr} {m : Str → Option Value} {news : List (Addr × Obj)} {ys : List Value} (F : Fr h₀ L h m) (N : News h₀ L h news) (h0 : h₀.get? D = none) (hp : NewPlain h news D ys.toArray) : ∃ n, News h₀ L h ((D, listOf ys.toArray n) :: news) := by
  obtain ⟨n, e⟩ := hp.1
  refine ⟨n, fun p hm => ?_⟩
  rcases List.mem_cons.mp hm with rfl | hm
  · exact ⟨e, hp.ne_locals F, h0⟩
  · exact N p hm
theorem take_snoc {l : List Nat} {i c : Nat} (h : l[i]? = some c) : l.take (i + 1) = l.take i ++ [c] := by rw [List.take_add_one, h]; rfl
theorem off_mem {d : Addr} {l : List (Addr × Obj)} (h : AllLt d l) : ∀ p ∈ l, p.1 ≠ d := fun p hp => Nat.ne_of_lt (by
  induction l with
  | nil => exact absurd hp (List.not_mem_nil)
  | cons q l ih => exact (List.mem_cons.mp hp).elim (fun e => by rw [e]; exact h.1) (fun hp => ih h.2 hp))
end Mine
namespace Mine
section
variable {prog : Program} {w : World} {A : Around} {E : Value → Shared → Prop} {s : Shared} {h₀ : Heap} {L : Addr} {m : Str → Option Value} {env : Env}

/-- what a comprehension over a list asks behind its source: pz the test, d the element -/
def CompAsk {α : Type} (K : ItemKind α) (prog : Program) (w : World) (A : Around) (h₀ : Heap) (L : Addr) (m : Str → Option Value) (env : Env) (elt : Expr) (x : Str) (tests : List Expr) (scope : Scope) (cl : List (Str × Addr)) (pz : α → Bool) (d : α → PyData)
    (cont : Addr → List Value → Heap → Nat → Prop → Prop) (xv : Value) (s₁ : Shared) : Prop :=
  ∃ (news : List (Addr × Obj)) (l : Addr) (vs : List Value) (n : Nat) (as : List α), xv = .ref l ∧ (l, listOf vs.toArray n) ∈ news ∧ AreOf K vs as ∧ as.length ≤ 8192 ∧ Fr h₀ L s₁.heap m ∧ News h₀ L s₁.heap news ∧
    (∀ C a v s₂ m₂ E', a ∈ as → K.is a v → Fr s₁.heap (compEnvC scope cl C env).locals s₂.heap m₂ → (∀ b o, s₁.heap.get? b = some o → s₂.heap.get? b = some o) → m₂ x = some v →
      match tests with
      | [] => pz a = true
      | [c] => wpAny (model prog w) A (isTrue c (compEnvC scope cl C env) (eval c (compEnvC scope cl C env))) (fun ok s₃ => ok = pz a ∧ Keeps s₂ s₃) E' s₂
      | _ => False) ∧
    (∀ C a v s₂ m₂ E', a ∈ as → K.is a v → pz a = true → Fr s₁.heap (compEnvC scope cl C env).locals s₂.heap m₂ → (∀ b o, s₁.heap.get? b = some o → s₂.heap.get? b = some o) → m₂ x = some v → wpAny (model prog w) A (eval elt (compEnvC scope cl C env)) (fun y s₃ => Carried y (d a) ∧ Keeps s₂ s₃) E' s₂) ∧
    (∀ D ys h' tk n', News h₀ L h' ((D, listOf ys.toArray n') :: news) → (∀ p ∈ news, p.1 ≠ D) → cont D ys h' tk (CarriedAll ys ((as.filter pz).map d)))

theorem comp_tests {tests : List Expr} {cenv : Env} {P : Bool} {M : Model} {s₂ : Shared} {Q : Bool → Shared → Prop} {E' : Value → Shared → Prop}
    (h : match tests with
      | [] => Q true s₂
      | [c] => wpAny M A (isTrue c cenv (eval c cenv)) Q E' s₂
      | _ => False) :
    wpAny M A (forIn tests true fun c r => if r = true then do let ok ← isTrue c cenv (eval c cenv); pure (ForInStep.yield ok) else pure (ForInStep.yield r)) Q E' s₂ := by
  match tests, h with
  | [], h => exact wpAny_pure h
  | [c], h =>
    rw [List.forIn_cons]
    exact wpAny_bind (wpAny_bind (wpAny_mono h (fun ok s₃ hk => wpAny_pure (wpAny_pure hk)) fun _ _ e => e))

theorem comp_eval {α : Type} {K : ItemKind α} {elt iter : Expr} {x : Str} {px : Pos} {tests : List Expr} {scope : Scope} {cl : List (Str × Addr)} {pos : Pos} {Q : Value → Shared → Prop} (pz : α → Bool) (d : α → PyData)
    (_F : Fr h₀ L s.heap m) (hh : A.handled = none) (hclos : closureFor scope env = pure cl) (hcell : ∀ y ∈ scope.names, y.2 ≠ .cell) (hkind : scope.kind = .function)
    (hnames : ∀ y ∈ scope.names, y.2 = .local → scope.names.lookup y.1 = some .local) (hx : scope.names.lookup x = some .local) (hs : ∀ x, foldedSetIterable iter env x = pure x)
    (h : wpAny (model prog w) A (eval iter env) (fun xv s₁ => Stop (CompAsk K prog w A h₀ L m env elt x tests scope cl pz d (fun D _ h' tk C => Fr h₀ L h' m → C → Q (.ref D) { s₁ with heap := h', toks := tk }) xv s₁)) E s) :
    wpAny (model prog w) A (eval (.ListComp elt [⟨.Name x px, iter, tests, 0⟩] scope pos) env) Q E s := by
  refine ListComp_DCn (K := K) (pz := pz) (d := d) (m := m) (h₀ := h₀) (L := L) hh hclos hcell hkind hnames hx (wpAny_mono h (fun xv s₁ h₁ => ?_) fun _ _ e => e) hs
  obtain ⟨news, l, vs, n, as, rfl, hl, hi, hz, F, N, ht, he, hc⟩ := h₁
  refine ⟨news, l, vs, as, rfl, News.isList N hl, hi, by rw [sizeLine_eq]; omega, F, N, ?_, ?_, ?_⟩
  · intro C a v s₂ m₂ E' hC ha hv hn hm hk
    have h2 := ht C a v s₂ m₂ E' ha hv (frInComp hn hk hC) hk hm
    refine comp_tests (P := true) ?_
    match tests, h2 with
    | [], h2 => exact ⟨h2.symm, Keeps.rfl'⟩
    | [c], h2 => exact h2
  · intro C a v s₂ m₂ E' hC ha hv hp hn hm hk
    exact he C a v s₂ m₂ E' ha hv hp (frInComp hn hk hC) hk hm
  · intro D ys h' tk F' N' h0 _ hp hca
    obtain ⟨n', N2⟩ := News.ofPlain F' N' h0 hp
    exact hc D ys h' tk n' N2 hp.2 F' hca

theorem comp_asg {α : Type} {K : ItemKind α} {elt iter : Expr} {x y : Str} {px py : Pos} {tests : List Expr} {scope : Scope} {cl : List (Str × Addr)} {pos spos : Pos} {Q : Flow → Shared → Prop} (pz : α → Bool) (d : α → PyData)
    (_F : Fr h₀ L s.heap m) (hsw : swapsWith (.ListComp elt [⟨.Name x px, iter, tests, 0⟩] scope pos) (some (.Name y py)) spos.line env = pure true) (hL : env.locals = L)
    (hh : A.handled = none) (hclos : closureFor scope env = pure cl) (hcell : ∀ z ∈ scope.names, z.2 ≠ .cell) (hkind : scope.kind = .function)
    (hnames : ∀ z ∈ scope.names, z.2 = .local → scope.names.lookup z.1 = some .local) (hx : scope.names.lookup x = some .local)
    (hy : env.kindOf y = some .local) (hp : (env.scope.kind == .class || (env.scope.kind == .module && env.locals != env.globals)) = false) (hs : ∀ x, foldedSetIterable iter env x = pure x)
    (h : wpAny (model prog w) A (eval iter env) (fun xv s₁ => Stop (CompAsk K prog w A h₀ L m env elt x tests scope cl pz d (fun D _ h' tk C => Fr h₀ L h' (fun z => if z = y then some (.ref D) else m z) → C → Q .next { s₁ with heap := h', toks := tk }) xv s₁)) E s) :
    wpAny (model prog w) A (exec (.Assign [.Name y py] (.ListComp elt [⟨.Name x px, iter, tests, 0⟩] scope pos) spos) env) Q E s := by
  refine Assign_ListComp_DCn (K := K) (pz := pz) (d := d) (m := m) (h₀ := h₀) (L := L) hsw hL hh hclos hcell hkind hnames hx hy hp (wpAny_mono h (fun xv s₁ h₁ => ?_) fun _ _ e => e) hs
  obtain ⟨news, l, vs, n, as, rfl, hl, hi, hz, F, N, ht, he, hc⟩ := h₁
  refine ⟨news, l, vs, as, rfl, News.isList N hl, hi, by rw [sizeLine_eq]; omega, F, N, ?_, ?_, ?_⟩
  · intro C a v s₂ m₂ E' hC ha hv hn hm hk
    have h2 := ht C a v s₂ m₂ E' ha hv (frInComp hn hk hC) hk hm
    refine comp_tests (P := true) ?_
    match tests, h2 with
    | [], h2 => exact ⟨h2.symm, Keeps.rfl'⟩
    | [c], h2 => exact h2
  · intro C a v s₂ m₂ E' hC ha hv hp hn hm hk
    exact he C a v s₂ m₂ E' ha hv hp (frInComp hn hk hC) hk hm
  · intro D ys h' tk F' N' h0 _ hp hca
    obtain ⟨n', N2⟩ := News.ofPlain F' N' h0 hp
    exact hc D ys h' tk n' N2 hp.2 F' hca
end
theorem IN_mem {a : Int} {l : List Nat} (h : a ∈ IN l) : ∃ c ∈ l, a = (c : Int) := by
  unfold IN at h
  obtain ⟨c, hc, rfl⟩ := List.mem_map.mp h
  exact ⟨c, hc, rfl⟩
def joinL (sep : List Nat) : List (List Nat) → List Nat
  | [] => []
  | [x] => x
  | x :: y :: r => x ++ sep ++ joinL sep (y :: r)
theorem mkS_app (a b : List Nat) : mkS a ++ mkS b = mkS (a ++ b) := by
  apply Str.ext'
  show (mkS a).cps ++ (mkS b).cps = _
  simp [mkS]
theorem join_mkS (sep : List Nat) : ∀ ps : List (List Nat), Txt.join (mkS sep) (ps.map mkS) = mkS (joinL sep ps) := by
  have h : ∀ ps : List (List Nat), Str.join (mkS sep) (ps.map mkS) = mkS (joinL sep ps) := by
    intro ps
    induction ps with
    | nil => rfl
    | cons x r ih =>
      cases r with
      | nil => rfl
      | cons y r =>
        show mkS x ++ mkS sep ++ Str.join (mkS sep) ((y :: r).map mkS) = _
        rw [ih, mkS_app, mkS_app]; rfl
  intro ps
  rw [← h ps]
  exact StrLaws.glued_eq_join _ _
theorem joinL_nil : ∀ l : List Nat, joinL [] (l.map fun c => [c]) = l
  | [] => rfl
  | [x] => rfl
  | x :: y :: r => by
    show [x] ++ [] ++ joinL [] ((y :: r).map fun c => [c]) = _
    rw [joinL_nil (y :: r)]; rfl
theorem chrs_eq (codes : List Nat) : (((IN codes).filter fun _ => true).map fun n => (⟨#[n.toNat]⟩ : Str)) = (codes.map fun c => [c]).map mkS := by
  rw [List.filter_eq_self.mpr (fun _ _ => rfl)]
  unfold IN
  rw [List.map_map, List.map_map]
  rfl
theorem chrs_weight (codes : List Nat) : ((((codes.map fun c => [c]).map mkS)).map (·.length)).sum = codes.length := by
  induction codes with
  | nil => rfl
  | cons c r ih => simp only [List.map_cons, List.sum_cons, ih, List.length_cons, mkS_length, List.length_nil]; omega
theorem byteArr_IN (codes : List Nat) : byteArr (IN codes) = mkB codes := by
  unfold byteArr IN mkB
  rw [List.map_map]
  rfl
theorem IN_in {codes : List Nat} (h : Small codes) : KBa.In (IN codes) := fun n hn => by
  obtain ⟨c, hc, rfl⟩ := IN_mem hn
  have := h c hc
  omega
section
variable {prog : Program} {w : World} {A : Around} {E : Value → Shared → Prop} {s : Shared} {h₀ : Heap} {L D : Addr} {m : PySem.Str → Option Value} {news : List (Addr × Obj)} {vs : List Value} {n : Nat}
theorem bytes_IN {codes : List Nat} {Q : Value → Shared → Prop} (F : Fr h₀ L s.heap m) (N : News h₀ L s.heap news) (hh : A.handled = none) (hl : (D, listOf vs.toArray n) ∈ news) (hi : IntsAre vs (IN codes)) (hr : Small codes) (hn : codes.length ≤ 8192)
    (h : ∀ h' t' k, Fr h₀ L h' m → News h₀ L h' news → Q (.bytes (mkB codes) t') { s with heap := h', toks := k }) : wpAny (model prog w) A (call (.type "bytes") [.ref D]) Q E s :=
  KBa.make_K F N hh (News.isList N hl) hi (IN_in hr) (by rw [IN_length]; omega) fun h' t' k a b _ => by rw [byteArr_IN]; exact h h' t' k a b
theorem join_chrs {codes : List Nat} {ys : List Value} {x : Str} {t : Tok} {Q : Value → Shared → Prop} (N : News h₀ L s.heap news) (hx : x = mkS []) (hl : (D, listOf ys.toArray n) ∈ news) (hi : CarriedAll ys (((IN codes).filter fun _ => true).map fun n => PyData.str ⟨#[n.toNat]⟩)) (hn : codes.length ≤ 8192)
    (h : ∀ t' k, Q (.str (mkS codes) t') { s with toks := k }) : wpAny (model prog w) A (call (.builtin "str.join") [.str x t, .ref D]) Q E s := by
  have hi2 := carried_strs (f := fun n : Int => (⟨#[n.toNat]⟩ : Str)) hi
  rw [chrs_eq] at hi2
  refine join_listC (ys := (codes.map fun c => [c]).map mkS) (News.isList N hl) (show StrsAre ys _ from hi2) (by rw [hx, mkS_length]; exact Nat.zero_le _) ?_ fun t' k => ?_
  · rw [chrs_weight, List.length_map, List.length_map]; omega
  · rw [hx, join_mkS, joinL_nil]; exact h t' k
end
section
variable {prog : Program} {w : World} {A : Around} {E : Value → Shared → Prop} {s : Shared} {h₀ : Heap} {L D : Addr} {m : PySem.Str → Option Value} {news news' : List (Addr × Obj)} {vs : List Value} {n : Nat} {x : Value}
theorem append_L {Q : Value → Shared → Prop} (F : Fr h₀ L s.heap m) (N : News h₀ L s.heap news) (U : Upd D (listOf vs.toArray n) (listOf (vs ++ [x]).toArray (n + 1)) news news')
    (hz : vs.length ≤ 16777216) (h : ∀ h', Fr h₀ L h' m → News h₀ L h' news' → Q .none { s with heap := h' }) : wpAny (model prog w) A (call (.builtin "list.append") [.ref D, x]) Q E s :=
  append_K (its := vs.toArray) F N (by rw [List.push_toArray]; exact U) h (by rw [sizeLine_eq]; simpa using hz)
theorem ord_S {c : Nat} {t : Tok} {Q : Value → Shared → Prop} (h : ∀ t' k, Q (.int (c : Int) t') { s with toks := k }) : wpAny (model prog w) A (call (.builtin "ord") [.str (mkS [c]) t]) Q E s := P.ord_of_char (h _ _)
end
theorem IN_snoc {vs : List Value} {l : List Nat} {n : Int} {t : Tok} (h : IntsAre vs (IN l)) (h0 : 0 ≤ n) : IntsAre (vs ++ [.int n t]) (IN (l ++ [n.toNat])) := by
  rw [IN_append]
  have e : IN [n.toNat] = [n] := by simp only [IN, List.map_cons, List.map_nil]; rw [Int.toNat_of_nonneg h0]
  rw [e]
  exact h.append (.cons _ _ .nil)
theorem menuZ (i : Nat) : 0 ≤ ([47, 46, 97, 47, 46, 98, 47, 46] : List Int).getD i 0 ∧ ([47, 46, 97, 47, 46, 98, 47, 46] : List Int).getD i 0 ≤ 1114111 := by
  have h : ∀ n ∈ ([47, 46, 97, 47, 46, 98, 47, 46] : List Int), 0 ≤ n ∧ n ≤ 1114111 := by decide
  rw [List.getD_eq_getElem?_getD]
  cases e : ([47, 46, 97, 47, 46, 98, 47, 46] : List Int)[i]? with
  | none => simp
  | some n => exact h n (List.mem_of_getElem? e)
/-- what the building loops of the laws turn -/
structure SignSt where
  vc : List Value
  vm : List Value
  nc : Nat
  nm : Nat
  size : Int
  ts : Nat
  into : Int
  ti : Nat
def SignSt.ok (c : SignSt) : Prop := ∃ codes more : List Nat, IntsAre c.vc (IN codes) ∧ IntsAre c.vm (IN more) ∧ ((codes.length : Int) + more.length ≤ c.size) ∧ c.size ≤ 40 ∧ (∀ k ∈ codes, k ≤ 1114111) ∧ (∀ k ∈ more, k ≤ 1114111)
theorem SignSt.start {a b ts ti : Nat} : SignSt.ok ⟨[], [], a, b, 0, ts, 0, ti⟩ := ⟨[], [], .nil, .nil, by simp, by simp, by simp, by simp⟩
theorem abs_nonneg (x : Int) : 0 ≤ (if x < 0 then -x else x) := by split <;> omega
theorem all_snoc {l : List Nat} {n : Int} (h : ∀ k ∈ l, k ≤ 1114111) (h1 : n ≤ 1114111) : ∀ k ∈ l ++ [n.toNat], k ≤ 1114111 := by
  intro k hk
  rcases List.mem_append.mp hk with hk | hk
  · exact h k hk
  · rw [List.mem_singleton.mp hk]; omega
end Mine
namespace Mine
theorem IntsAre.one' (k : Nat) (t : Tok) : IntsAre [.int (k : Int) t] (IN [k]) := .cons _ _ .nil
theorem IN_drop (l : List Nat) (k : Nat) : (IN l).drop k = IN (l.drop k) := by unfold IN; rw [List.map_drop]
theorem IN_getD (l : List Nat) (k : Nat) : (IN l).getD k 0 = ((l.getD k 0 : Nat) : Int) := by
  unfold IN
  rw [List.getD_eq_getElem?_getD, List.getD_eq_getElem?_getD, List.getElem?_map]
  cases l[k]? <;> rfl
section
variable {prog : Program} {w : World} {A : Around} {E : Value → Shared → Prop} {s : Shared} {h₀ : Heap} {L D D2 : Addr} {m : PySem.Str → Option Value} {news : List (Addr × Obj)} {vs ws : List Value} {n n2 : Nat} {l l2 : List Nat} {Q : Value → Shared → Prop} {value slice : PySem.Expr}
theorem len_L (N : News h₀ L s.heap news) (hm : (D, listOf vs.toArray n) ∈ news) (hi : IntsAre vs (IN l)) (hz : l.length ≤ 16384) (h : ∀ t' k, Q (.int (l.length : Int) t') { s with toks := k }) : wpAny (model prog w) A (call (.builtin "len") [.ref D]) Q E s :=
  kst_len N hm (ints_len hi) (by omega) (h _ _)
theorem item_L {k : Nat} {x : Int} {u : Tok} (N : News h₀ L s.heap news) (hm : (D, listOf vs.toArray n) ∈ news) (hi : IntsAre vs (IN l)) (hx : x = (k : Int)) (hk : k < l.length) (hz : l.length ≤ 16384) (h : ∀ t, Q (.int ((l.getD k 0 : Nat) : Int) t) s)
    (hs : subscripted slice false (.ref D) (.int x u) = operate [.ref D, .int x u] (getItem (.ref D) (.int x u)) := by with_unfolding_all rfl) :
    wpAny (model prog w) A (subscriptTail value slice (.ref D) (.int x u)) Q E s :=
  item_anyK (News.isList N hm) hi (by omega) (by rw [IN_length]; omega) (by omega) (fun t => by
    have e : x.toNat = k := by omega
    rw [e, IN_getD]; exact h t) hs
theorem from_L {k : Nat} {x : Int} {u : Tok} (F : Fr h₀ L s.heap m) (N : News h₀ L s.heap news) (hm : (D, listOf vs.toArray n) ∈ news) (hi : IntsAre vs (IN l)) (hx : x = (k : Int)) (hz : l.length ≤ 16384)
    (h : ∀ D' us h', Fr h₀ L h' m → News h₀ L h' ((D', listOf (List.toArray us) 0) :: news) → (∀ p ∈ news, p.1 < D') → IntsAre us (IN (l.drop k)) → Q (.ref D') { s with heap := h' })
    (hs : subscripted slice false (.ref D) (.ref s.heap.objs.size) = operate [.ref s.heap.objs.size, .ref D] (getItem (.ref D) (.ref s.heap.objs.size)) := by with_unfolding_all rfl) (ht : ∀ r, letTemporaryGo value (.ref D) r = pure () := by intro _; with_unfolding_all rfl) :
    wpAny (model prog w) A (subscriptTail value slice (.ref D) (.ref s.heap.objs.size)) Q E { s with heap := s.heap.push { cls := .type "slice", data := .fields #[.int x u, .none, .none] } } := by
  refine kmk_slice_ints (c := ((IN l).drop x.toNat).length) (lo := some x) (hi := none) F N (News.isList N hm) (.int _ _) .none hi (kmk_from hi (by omega)) rfl (fun D' us h' F' N' l1 hI _ _ => h D' us h' F' N' l1 ?_) hs ht (by rw [List.size_toArray, ints_len hi, sizeLine_eq]; omega)
  have e : x.toNat = k := by omega
  rw [e, IN_drop] at hI
  exact hI
end
/-! tuples of two -/
section
variable {A : Around} {s : Shared} {l m : List Nat} {t u : Tok}
end
section
variable {prog : Program} {w : World} {A : Around} {E : Value → Shared → Prop} {s : Shared} {h₀ : Heap} {L D D2 : Addr} {news : List (Addr × Obj)} {v1 v2 u1 u2 : Value} {p q : Prop} [Decidable p] [Decidable q] {Q : Value → Shared → Prop}
end
section
variable {prog : Program} {w : World} {A : Around} {E : Value → Shared → Prop} {s : Shared} {h₀ : Heap} {L D D2 : Addr} {news : List (Addr × Obj)} {a b c d : List Nat} {t1 t2 t3 t4 : Tok} {Q : Value → Shared → Prop}
end
theorem Small.tk {a : List Nat} (h : Small a) (k : Nat) : Small (a.take k) := h.sub fun _ hc => List.mem_of_mem_take hc
theorem Small.dr {a : List Nat} (h : Small a) (k : Nat) : Small (a.drop k) := h.sub fun _ hc => List.mem_of_mem_drop hc
/-- no sign above the last one -/
def Cps (l : List Nat) : Prop := ∀ c ∈ l, c ≤ 1114111
theorem Cps.sub {a b : List Nat} (h : Cps a) (hb : ∀ c ∈ b, c ∈ a) : Cps b := fun c hc => h c (hb c hc)
theorem Cps.append {a b : List Nat} (ha : Cps a) (hb : Cps b) : Cps (a ++ b) := fun c hc => (List.mem_append.mp hc).elim (ha c) (hb c)
theorem Cps.tk {a : List Nat} (h : Cps a) (k : Nat) : Cps (a.take k) := h.sub fun _ hc => List.mem_of_mem_take hc
theorem Cps.dr {a : List Nat} (h : Cps a) (k : Nat) : Cps (a.drop k) := h.sub fun _ hc => List.mem_of_mem_drop hc
end Mine
namespace Mine
/-! a list of numbers cut at a number -/
def splitL (c : Nat) : List Nat → List (List Nat)
  | [] => [[]]
  | x :: l => if x = c then [] :: splitL c l else (x :: (splitL c l).headD []) :: (splitL c l).tail
theorem splitL_cons (c : Nat) (l : List Nat) : ∃ p ps, splitL c l = p :: ps := by
  cases l with
  | nil => exact ⟨_, _, rfl⟩
  | cons x l => unfold splitL; split <;> exact ⟨_, _, rfl⟩
theorem splitL_app (c : Nat) (b : List Nat) : ∀ a : List Nat, splitL c (a ++ c :: b) = splitL c a ++ splitL c b
  | [] => by simp [splitL]
  | x :: a => by
    have ih := splitL_app c b a
    obtain ⟨p, ps, e⟩ := splitL_cons c a
    rw [List.cons_append]
    have d : ∀ r, splitL c (x :: r) = if x = c then [] :: splitL c r else (x :: (splitL c r).headD []) :: (splitL c r).tail := fun _ => rfl
    rw [d, d, ih, e]
    split <;> rfl
theorem splitL_none {c : Nat} : ∀ {l : List Nat}, c ∉ l → splitL c l = [l]
  | [], _ => rfl
  | x :: l, h => by
    have h1 : x ≠ c := fun e => h (by rw [e]; exact .head _)
    have ih := splitL_none (c := c) (l := l) fun hm => h (.tail _ hm)
    unfold splitL
    rw [if_neg h1, ih]; rfl
theorem splitL_length (c : Nat) : ∀ l : List Nat, (splitL c l).length ≤ l.length + 1
  | [] => by simp [splitL]
  | x :: l => by
    have ih := splitL_length c l
    obtain ⟨p, ps, e⟩ := splitL_cons c l
    unfold splitL
    split
    · simp only [List.length_cons]; omega
    · rw [e] at ih ⊢; simp only [List.length_cons, List.tail_cons] at *; omega
theorem splitL_mem {c : Nat} : ∀ {l : List Nat} {p : List Nat}, p ∈ splitL c l → c ∉ p ∧ ∀ x ∈ p, x ∈ l
  | [], p, h => by
    have : p = [] := by simpa [splitL] using h
    subst this; exact ⟨by simp, by simp⟩
  | x :: l, p, h => by
    obtain ⟨q, qs, e⟩ := splitL_cons c l
    have ihq := splitL_mem (c := c) (l := l) (p := q) (by rw [e]; exact .head _)
    unfold splitL at h
    split at h
    · rcases List.mem_cons.mp h with h | h
      · subst h; exact ⟨by simp, by simp⟩
      · have ih := splitL_mem (c := c) (l := l) h
        exact ⟨ih.1, fun y hy => .tail _ (ih.2 y hy)⟩
    · rename_i hx
      rw [e] at h
      rcases List.mem_cons.mp h with h | h
      · subst h
        refine ⟨?_, ?_⟩
        · intro hm
          rcases List.mem_cons.mp hm with h1 | h1
          · exact hx h1.symm
          · exact ihq.1 h1
        · intro y hy
          rcases List.mem_cons.mp hy with h1 | h1
          · rw [h1]; exact .head _
          · exact .tail _ (ihq.2 y h1)
      · have ih := splitL_mem (c := c) (l := l) (p := p) (by rw [e]; exact .tail _ h)
        exact ⟨ih.1, fun y hy => .tail _ (ih.2 y hy)⟩
theorem splitL_len {c : Nat} : ∀ {l : List Nat} {p : List Nat}, p ∈ splitL c l → p.length ≤ l.length
  | [], p, h => by
    have : p = [] := by simpa [splitL] using h
    subst this; simp
  | x :: l, p, h => by
    obtain ⟨q, qs, e⟩ := splitL_cons c l
    have ihq := splitL_len (c := c) (l := l) (p := q) (by rw [e]; exact .head _)
    unfold splitL at h
    split at h
    · rcases List.mem_cons.mp h with h | h
      · subst h; simp
      · have ih := splitL_len (c := c) (l := l) h
        simp only [List.length_cons]; omega
    · rw [e] at h
      rcases List.mem_cons.mp h with h | h
      · subst h; simp only [List.length_cons, List.headD_cons]; omega
      · have ih := splitL_len (c := c) (l := l) (p := p) (by rw [e]; exact .tail _ h)
        simp only [List.length_cons]; omega
/-- what is joined and bears no cut inside is the cutting -/
theorem splitL_join (c : Nat) : ∀ ps : List (List Nat), ps ≠ [] → (∀ p ∈ ps, c ∉ p) → splitL c (joinL [c] ps) = ps
  | [], h, _ => absurd rfl h
  | [p], _, h => splitL_none (h p (.head _))
  | p :: q :: r, _, h => by
    have e : joinL [c] (p :: q :: r) = p ++ c :: joinL [c] (q :: r) := by
      show p ++ [c] ++ joinL [c] (q :: r) = _
      rw [List.append_assoc]; rfl
    rw [e, splitL_app, splitL_none (h p (.head _)), splitL_join c (q :: r) (by simp) fun x hx => h x (.tail _ hx)]
    rfl
/-! the texts' split -/
open Builtin Builtin.Str in
theorem occ_fold (l : List Nat) (c : Nat) : ∀ (m a : Nat) (st : Array Nat × Nat), a + m = l.length + 1 → st.2 ≤ a → st.1.size ≤ a →
    (forIn (List.range' a m) st (StrLaws.occBody (mkS l) (mkS [c]) (mkS l).length ((mkS l).length + 1))).run.fst.toList = st.1.toList ++ (List.range' a m).filter fun i => l[i]? == some c
  | 0, a, st, _, _, _ => by simp
  | m + 1, a, st, h, h1, h2 => by
    rw [List.range'_succ, List.forIn_cons, List.filter_cons]
    unfold StrLaws.occBody
    by_cases hc : l[a]? = some c
    · have hl : a < l.length := (List.getElem?_eq_some_iff.mp hc).1
      have ht : ((st.fst.size < (mkS l).length + 1 ∧ st.snd ≤ a) ∧ a + (mkS [c]).length ≤ (mkS l).length) ∧ subAt (mkS l) (mkS [c]) a = true :=
        ⟨⟨⟨by rw [mkS_length]; omega, h1⟩, by rw [mkS_length, mkS_length, List.length_singleton]; omega⟩, (subAt_one l c a).mpr hc⟩
      rw [if_pos ht, hc]
      have ih := occ_fold l c m (a + 1) (st.fst.push a, a + (mkS [c]).length) (by omega) (by rw [mkS_length, List.length_singleton]; omega) (by simp; omega)
      refine ih.trans ?_
      simp
    · have ht : ¬ (((st.fst.size < (mkS l).length + 1 ∧ st.snd ≤ a) ∧ a + (mkS [c]).length ≤ (mkS l).length) ∧ subAt (mkS l) (mkS [c]) a = true) := fun x => hc ((subAt_one l c a).mp x.2)
      rw [if_neg ht]
      have ih := occ_fold l c m (a + 1) (st.fst, st.snd) (by omega) (by show st.snd ≤ a + 1; omega) (by show st.fst.size ≤ a + 1; omega)
      refine ih.trans ?_
      rw [show (l[a]? == some c) = false from beq_eq_false_iff_ne.mpr hc]
      rfl
open Builtin Builtin.Str in
theorem occ_all (l : List Nat) (c : Nat) : occurrences (mkS l) (mkS [c]) 0 (mkS l).length ((mkS l).length + 1) = (List.range' 0 (l.length + 1)).filter fun i => l[i]? == some c := by
  rw [StrLaws.occ_eq]
  have h := occ_fold l c (l.length + 1) 0 (#[], 0) (by omega) (Nat.le_refl _) (Nat.le_refl _)
  rw [show (mkS l).length + 1 - 0 = l.length + 1 from by rw [mkS_length]; rfl]
  simpa using h
open Builtin Builtin.Str in
theorem sub_mkS (l : List Nat) (a b : Nat) : strSub (mkS l) a b = mkS ((l.drop a).take (b - a)) := by
  apply Str.ext'
  apply Array.toList_inj.mp
  rw [StrLaws.strSub_toList, mkS_cps, mkS_cps]
theorem headStep (l : List Nat) {a e : Nat} (ha : a < l.length) (he : a + 1 ≤ e) : (l.drop a).take (e - a) = l[a] :: (l.drop (a + 1)).take (e - (a + 1)) := by
  rw [List.drop_eq_getElem_cons ha, show e - a = (e - (a + 1)) + 1 from by omega, List.take_succ_cons]
open Builtin Builtin.Str in
theorem parts_all (l : List Nat) (c : Nat) : ∀ (m a : Nat), a + m = l.length + 1 →
    StrLaws.partsFrom (mkS l) 1 a ((List.range' a m).filter fun i => l[i]? == some c) = (splitL c (l.drop a)).map mkS
  | 0, a, h => by
    rw [List.drop_of_length_le (by omega)]
    show [strSub (mkS l) a (mkS l).length] = _
    rw [sub_mkS, List.drop_of_length_le (by omega), List.take_nil]; rfl
  | m + 1, a, h => by
    rw [List.range'_succ, List.filter_cons]
    by_cases hl : a < l.length
    · have ih := parts_all l c m (a + 1) (by omega)
      rw [List.drop_eq_getElem_cons hl, List.getElem?_eq_getElem hl]
      unfold splitL
      by_cases hc : l[a] = c
      · rw [if_pos (by simp [hc]), if_pos hc]
        show strSub (mkS l) a a :: StrLaws.partsFrom (mkS l) 1 (a + 1) _ = _
        rw [ih, sub_mkS, Nat.sub_self, List.take_zero]; rfl
      · rw [if_neg (by simp [hc]), if_neg hc]
        obtain ⟨p, ps, e⟩ := splitL_cons c (l.drop (a + 1))
        rw [e] at ih ⊢
        have hge : ∀ k ∈ (List.range' (a + 1) m).filter (fun i => l[i]? == some c), a + 1 ≤ k := by
          intro k hk
          have := (List.mem_filter.mp hk).1
          simp [List.mem_range'] at this
          omega
        revert ih hge
        generalize (List.range' (a + 1) m).filter (fun i => l[i]? == some c) = cuts
        intro ih hge
        cases cuts with
        | nil =>
          have i1 : [strSub (mkS l) (a + 1) (mkS l).length] = (p :: ps).map mkS := ih
          show [strSub (mkS l) a (mkS l).length] = _
          rw [sub_mkS] at i1 ⊢
          rw [mkS_length] at i1 ⊢
          rw [headStep l hl (by omega)]
          rw [List.map_cons, List.cons.injEq] at i1
          have i2 := mkS_inj i1.1
          have i3 : ps = [] := List.map_eq_nil_iff.mp i1.2.symm
          rw [i2, i3]; rfl
        | cons k r =>
          have i1 : strSub (mkS l) (a + 1) k :: StrLaws.partsFrom (mkS l) 1 (k + 1) r = (p :: ps).map mkS := ih
          show strSub (mkS l) a k :: StrLaws.partsFrom (mkS l) 1 (k + 1) r = _
          rw [sub_mkS] at i1 ⊢
          rw [headStep l hl (hge k (.head _))]
          rw [List.map_cons, List.cons.injEq] at i1
          have i2 := mkS_inj i1.1
          rw [i1.2, i2]; rfl
    · have hm : m = 0 := by omega
      subst hm
      rw [List.getElem?_eq_none (by omega), List.drop_of_length_le (by omega)]
      show [strSub (mkS l) a (mkS l).length] = _
      rw [sub_mkS, List.drop_of_length_le (by omega), List.take_nil]; rfl
open Builtin Builtin.Str in
theorem split_mkS (l : List Nat) (c : Nat) : Txt.split (mkS l) (mkS [c]) = (splitL c l).map mkS := by
  have e : partsBetween (mkS l) (occurrences (mkS l) (mkS [c]) 0 (mkS l).length ((mkS l).length + 1)) (mkS [c]).length = (splitL c l).map mkS := by
    rw [occ_all, StrLaws.partsBetween_eq]
    have h := parts_all l c (l.length + 1) 0 (by omega)
    rwa [List.drop_zero] at h
  have no : c ∉ l → [mkS l] = (splitL c l).map mkS := fun h => by rw [splitL_none h]; rfl
  unfold Txt.split
  split
  · rename_i h
    refine no fun hc => ?_
    obtain ⟨i, hi⟩ := List.mem_iff_getElem?.mp hc
    have hs := (subAt_one l c i).mpr hi
    rcases Bool.or_eq_true_iff.mp h with h | h
    · have h1 := of_decide_eq_true h
      rw [mkS_length, mkS_length] at h1
      have := (List.getElem?_eq_some_iff.mp hi).1
      rw [List.length_singleton] at h1; omega
    · have h1 := of_decide_eq_true h
      have := PySem.W.kind_le _ _ hs
      omega
  · split
    · rename_i h
      refine no fun hc => ?_
      obtain ⟨i, hi⟩ := List.mem_iff_getElem?.mp hc
      rw [occ_all] at h
      have h1 := List.isEmpty_iff.mp h
      have : i ∈ (List.range' 0 (l.length + 1)).filter fun i => l[i]? == some c := List.mem_filter.mpr ⟨by
        have := (List.getElem?_eq_some_iff.mp hi).1
        simp [List.mem_range']; omega, by simp [hi]⟩
      rw [h1] at this; cases this
    · exact e
end Mine
namespace Mine
/-! lists of texts -/
def SL (ps : List (List Nat)) : List Str := ps.map mkS
theorem SL_length (ps : List (List Nat)) : (SL ps).length = ps.length := by simp [SL]
theorem SL_app (a b : List (List Nat)) : SL (a ++ b) = SL a ++ SL b := by simp [SL]
section
variable {A : Around} {s : Shared} {D D2 : Addr} {vs ws : List Value} {α : Type} [DecidableEq α] {ps qs : List α}
end
theorem strs_at {vs : List Value} {ps : List (List Nat)} (h : StrsAre vs (SL ps)) {i : Nat} {v : Value} (hv : vs[i]? = some v) : ∃ p t, ps[i]? = some p ∧ v = .str (mkS p) t := by
  obtain ⟨y, t, rfl, hy⟩ := StrsAre.item h i v hv
  unfold SL at hy
  rw [List.getElem?_map] at hy
  cases e : ps[i]? with
  | none => rw [e] at hy; cases hy
  | some p => rw [e] at hy; cases hy; exact ⟨p, t, rfl, rfl⟩
theorem strs_len {vs : List Value} {ps : List (List Nat)} (h : StrsAre vs (SL ps)) : vs.length = ps.length := by rw [h.len_eq, SL_length]
theorem strs_snocS {vs : List Value} {ps : List (List Nat)} {p : List Nat} {t : Tok} (h : StrsAre vs (SL ps)) : StrsAre (vs ++ [.str (mkS p) t]) (SL (ps ++ [p])) := by
  rw [SL_app]
  exact h.append' (.cons _ _ .nil)
theorem strs_nil : StrsAre [] (SL []) := .nil
section
variable {prog : Program} {w : World} {A : Around} {E : Value → Shared → Prop} {s : Shared} {h₀ : Heap} {L D D2 : Addr} {m : PySem.Str → Option Value} {news : List (Addr × Obj)} {vs ws : List Value} {n n2 : Nat} {l l2 : List Nat} {ps qs : List (List Nat)} {t u : Tok} {x y : Str} {Q : Value → Shared → Prop} {value slice : PySem.Expr}
theorem add_S {l l2 : List Nat} (hx : x = mkS l) (hy : y = mkS l2) (hz : l.length ≤ 16384) (hz2 : l2.length ≤ 16384) (h : ∀ t' k, Q (.str (mkS (l ++ l2)) t') { s with toks := k }) : wpAny (model prog w) A (binaryOp .Add (.str x t) (.str y u)) Q E s := by
  subst hx; subst hy
  refine KXadd.add (K := 16384) (L := 16384) (by rw [mkS_length]; omega) (by rw [mkS_length]; omega) (by omega) fun t' k _ => ?_
  rw [mkS_app]
  exact h t' k
theorem strSplit_S {c : Nat} {y : Str} (F : Fr h₀ L s.heap m) (N : News h₀ L s.heap news) (hy : y = mkS [c]) (hz : l.length ≤ 16384)
    (h : ∀ D' us h' k, StrsAre us (SL (splitL c l)) → Fr h₀ L h' m → News h₀ L h' ((D', listOf (List.toArray us) 0) :: news) → (∀ p ∈ news, p.1 < D') → Q (.ref D') { s with heap := h', toks := k }) :
    wpAny (model prog w) A (call (.builtin "str.split") [.str (mkS l) t, .str y u]) Q E s := by
  subst hy
  refine KSpl.split1 F N rfl (fun D vs h' k e a F' N' l1 => h D _ h' k ?_ F' N' l1) (by rw [mkS_length, sizeLine_eq]; omega)
  rw [e, split_mkS] at a
  exact a
theorem append_V {v : Value} {news' : List (Addr × Obj)} (F : Fr h₀ L s.heap m) (N : News h₀ L s.heap news) (U : Upd D (listOf vs.toArray n) (listOf (vs ++ [v]).toArray (n + 1)) news news') (hz : vs.length ≤ 16384) (h : ∀ h', Fr h₀ L h' m → News h₀ L h' news' → Q .none { s with heap := h' }) :
    wpAny (model prog w) A (call (.builtin "list.append") [.ref D, v]) Q E s := append_L F N U (by omega) h
theorem cps_len (x : Str) : x.cps.toList.length = x.length := by simp [Str.length]
end
end Mine
namespace Mine
def menu6 : List (List Nat) := [[47], [46, 46, 47], [46], [97], [98, 47]]
/-! normpath, plainly -/
def rootL (l : List Nat) : List Nat := if l.take 1 ≠ [47] then [] else if (l.drop 1).take 1 ≠ [47] ∨ (l.drop 2).take 1 = [47] then [47] else [47, 47]
def nstep (root : List Nat) (acc : List (List Nat)) (p : List Nat) : List (List Nat) :=
  if p = [] ∨ p = [46] then acc
  else if p ≠ [46, 46] ∨ (root = [] ∧ acc = []) ∨ acc.getLast? = some [46, 46] then acc ++ [p] else acc.dropLast
def ncomps (l : List Nat) : List (List Nat) := (splitL 47 (l.drop (rootL l).length)).foldl (nstep (rootL l)) []
def normL (l : List Nat) : List Nat :=
  if l = [] then [46] else if rootL l ++ joinL [47] (ncomps l) = [] then [46] else rootL l ++ joinL [47] (ncomps l)
theorem pySl01 (l : List Nat) : pySl l none (some 1) = l.take 1 := pySl_to l 1
theorem pySl02 (l : List Nat) : pySl l none (some 2) = l.take 2 := pySl_to l 2
theorem pySl12 (l : List Nat) : pySl l (some 1) (some 2) = (l.drop 1).take 1 := pySl_ft l 1 2
theorem pySl23 (l : List Nat) : pySl l (some 2) (some 3) = (l.drop 2).take 1 := pySl_ft l 2 3
theorem pySl1 (l : List Nat) : pySl l (some 1) none = l.drop 1 := pySl_from l 1
theorem pySl2 (l : List Nat) : pySl l (some 2) none = l.drop 2 := pySl_from l 2
theorem root_0 {l : List Nat} (h : pySl l none (some 1) ≠ [47]) : rootL l = [] := by
  rw [pySl01] at h; unfold rootL; rw [if_pos h]
theorem root_1 {l : List Nat} (h : ¬ pySl l none (some 1) ≠ [47]) (h2 : pySl l (some 1) (some 2) ≠ [47]) : rootL l = [47] := by
  rw [pySl01] at h; rw [pySl12] at h2; unfold rootL; rw [if_neg h, if_pos (.inl h2)]
theorem root_1b {l : List Nat} (h : ¬ pySl l none (some 1) ≠ [47]) (h2 : pySl l (some 2) (some 3) = [47]) : rootL l = [47] := by
  rw [pySl01] at h; rw [pySl23] at h2; unfold rootL; rw [if_neg h, if_pos (.inr h2)]
theorem root_2 {l : List Nat} (h : ¬ pySl l none (some 1) ≠ [47]) (h2 : ¬ pySl l (some 1) (some 2) ≠ [47]) (h3 : ¬ pySl l (some 2) (some 3) = [47]) : rootL l = [47, 47] := by
  rw [pySl01] at h; rw [pySl12] at h2; rw [pySl23] at h3; unfold rootL; rw [if_neg h, if_neg (by rintro (h | h); exact h2 h; exact h3 h)]
theorem two_take {l : List Nat} (h : ¬ pySl l none (some 1) ≠ [47]) (h2 : ¬ pySl l (some 1) (some 2) ≠ [47]) : pySl l none (some 2) = [47, 47] := by
  rw [pySl01] at h; rw [pySl12] at h2; rw [pySl02]
  have e1 : l.take 1 = [47] := Decidable.not_not.mp h
  have e2 : (l.drop 1).take 1 = [47] := Decidable.not_not.mp h2
  have e := List.take_add (l := l) (i := 1) (j := 1)
  rw [e1, e2] at e
  exact e
theorem rootL_length (l : List Nat) : (rootL l).length ≤ 2 := by unfold rootL; split; simp; split <;> simp
theorem nstep_a {root : List Nat} {acc : List (List Nat)} {p : List Nat} (h : ¬ p ≠ []) : nstep root acc p = acc := by
  unfold nstep; rw [if_pos (.inl (Decidable.not_not.mp h))]
theorem nstep_a' {root : List Nat} {acc : List (List Nat)} {p : List Nat} (h : p = []) : nstep root acc p = acc := nstep_a fun x => x h
theorem nstep_b {root : List Nat} {acc : List (List Nat)} {p : List Nat} (h : p = [46]) : nstep root acc p = acc := by
  unfold nstep; rw [if_pos (.inr h)]
theorem nstep_c {root : List Nat} {acc : List (List Nat)} {p : List Nat} (h : p ≠ []) (h2 : ¬ p = [46]) (h3 : p ≠ [46, 46]) : nstep root acc p = acc ++ [p] := by
  unfold nstep; rw [if_neg (by rintro (x | x); exact h x; exact h2 x), if_pos (.inl h3)]
theorem nstep_d {root : List Nat} {acc : List (List Nat)} {p : List Nat} (h : p ≠ []) (h2 : ¬ p = [46]) (h3 : ¬ root ≠ []) (h4 : acc = []) : nstep root acc p = acc ++ [p] := by
  unfold nstep; rw [if_neg (by rintro (x | x); exact h x; exact h2 x), if_pos (.inr (.inl ⟨Decidable.not_not.mp h3, h4⟩))]
theorem nstep_e {root : List Nat} {acc : List (List Nat)} {p q : List Nat} (h : p ≠ []) (h2 : ¬ p = [46]) (h3 : acc.getLast? = some q) (h4 : q = [46, 46]) : nstep root acc p = acc ++ [p] := by
  unfold nstep; rw [if_neg (by rintro (x | x); exact h x; exact h2 x), if_pos (.inr (.inr (by rw [h3, h4])))]
theorem nstep_f {root : List Nat} {acc : List (List Nat)} {p q : List Nat} (h : p ≠ []) (h2 : ¬ p = [46]) (h3 : ¬ p ≠ [46, 46]) (h4 : acc.getLast? = some q) (h5 : ¬ q = [46, 46]) : nstep root acc p = acc.dropLast := by
  unfold nstep; rw [if_neg (by rintro (x | x); exact h x; exact h2 x), if_neg]
  rintro (x | ⟨_, x⟩ | x)
  · exact h3 x
  · rw [x] at h4; cases h4
  · rw [h4] at x; cases x; exact h5 rfl
theorem nstep_g {root : List Nat} {acc : List (List Nat)} {p : List Nat} (h : p ≠ []) (h2 : ¬ p = [46]) (h3 : ¬ p ≠ [46, 46]) (h4 : root ≠ []) (h5 : acc = []) : nstep root acc p = acc := by
  unfold nstep; rw [if_neg (by rintro (x | x); exact h x; exact h2 x), if_neg]
  · rw [h5]; rfl
  · rintro (x | ⟨x, _⟩ | x)
    · exact h3 x
    · exact h4 x
    · rw [h5] at x; cases x
theorem nstep_len {root : List Nat} {acc : List (List Nat)} {p : List Nat} : (nstep root acc p).length ≤ acc.length + 1 := by
  unfold nstep
  split
  · omega
  · split
    · simp
    · rw [List.length_dropLast]; omega
theorem fold_take {root : List Nat} {ps acc : List (List Nat)} {i : Nat} {p : List Nat} (h : ps[i]? = some p) (e : acc = (ps.take i).foldl (nstep root) []) : (ps.take (i + 1)).foldl (nstep root) [] = nstep root acc p := by
  rw [List.take_add_one, h, List.foldl_append, ← e]; rfl
theorem nstep_mem {root : List Nat} {acc : List (List Nat)} {p : List Nat} {P : List Nat → Prop} (h : ∀ q ∈ acc, P q) (hp : P p) : ∀ q ∈ nstep root acc p, P q := by
  unfold nstep
  split
  · exact h
  · split
    · intro q hq
      rcases List.mem_append.mp hq with hq | hq
      · exact h q hq
      · rw [List.mem_singleton.mp hq]; exact hp
    · exact fun q hq => h q (List.dropLast_subset _ hq)
theorem fold_mem {root : List Nat} {P : List Nat → Prop} : ∀ {ps acc : List (List Nat)}, (∀ q ∈ acc, P q) → (∀ q ∈ ps, P q) → ∀ q ∈ ps.foldl (nstep root) acc, P q
  | [], _, h, _ => h
  | _ :: ps, _, h, hp => fold_mem (ps := ps) (nstep_mem h (hp _ (.head _))) fun q hq => hp q (.tail _ hq)
theorem fold_len {root : List Nat} : ∀ {ps acc : List (List Nat)}, (ps.foldl (nstep root) acc).length ≤ acc.length + ps.length
  | [], _ => by simp
  | p :: ps, acc => by
    have := fold_len (root := root) (ps := ps) (acc := nstep root acc p)
    have := nstep_len (root := root) (acc := acc) (p := p)
    rw [List.foldl_cons, List.length_cons]; omega
/-- the weight of what is joined -/
def wt (ps : List (List Nat)) : Nat := (ps.map (·.length + 1)).sum
theorem wt_join (sep : Nat) : ∀ ps : List (List Nat), (joinL [sep] ps).length ≤ wt ps
  | [] => Nat.zero_le _
  | [x] => by show x.length ≤ _; simp [wt]
  | x :: y :: r => by
    have := wt_join sep (y :: r)
    show (x ++ [sep] ++ joinL [sep] (y :: r)).length ≤ _
    simp only [wt, List.map_cons, List.sum_cons, List.length_append, List.length_singleton] at *
    omega
theorem wt_split (c : Nat) : ∀ l : List Nat, wt (splitL c l) = l.length + 1
  | [] => rfl
  | x :: l => by
    have ih := wt_split c l
    obtain ⟨p, ps, e⟩ := splitL_cons c l
    unfold splitL
    split
    · simp only [wt, List.map_cons, List.sum_cons, List.length_cons, List.length_nil] at *; omega
    · rw [e] at ih ⊢
      simp only [wt, List.map_cons, List.sum_cons, List.length_cons, List.headD_cons, List.tail_cons] at *; omega
theorem wt_app (a b : List (List Nat)) : wt (a ++ b) = wt a + wt b := by simp [wt]
theorem wt_drop (a : List (List Nat)) : wt a.dropLast ≤ wt a := by
  rcases List.eq_nil_or_concat a with e | ⟨r, x, e⟩
  · rw [e]; exact Nat.le_refl _
  · rw [e, List.concat_eq_append, List.dropLast_concat, wt_app]; omega
theorem wt_fold {root : List Nat} : ∀ {ps acc : List (List Nat)}, wt (ps.foldl (nstep root) acc) ≤ wt acc + wt ps
  | [], _ => by simp
  | p :: ps, acc => by
    have := wt_fold (root := root) (ps := ps) (acc := nstep root acc p)
    have h2 : wt (nstep root acc p) ≤ wt acc + wt [p] := by
      unfold nstep
      split
      · omega
      · split
        · rw [wt_app]; omega
        · have := wt_drop acc; omega
    have h3 : wt (p :: ps) = wt [p] + wt ps := by rw [← wt_app]; rfl
    rw [List.foldl_cons]; omega
theorem wt_sum (ps : List (List Nat)) : ((SL ps).map (·.length)).sum + ps.length = wt ps := by
  induction ps with
  | nil => rfl
  | cons p ps ih =>
    simp only [SL, wt, List.map_cons, List.sum_cons, List.length_cons, mkS_length] at *
    omega
theorem ncomps_wt (l : List Nat) : wt (ncomps l) ≤ l.length + 1 := by
  unfold ncomps
  have := wt_fold (root := rootL l) (ps := splitL 47 (l.drop (rootL l).length)) (acc := [])
  have h2 := wt_split 47 (l.drop (rootL l).length)
  rw [List.length_drop] at h2
  simp only [wt, List.map_nil, List.sum_nil] at *
  omega
section
variable {prog : Program} {w : World} {A : Around} {E : Value → Shared → Prop} {s : Shared} {h₀ : Heap} {L D D2 : Addr} {m : PySem.Str → Option Value} {news news' : List (Addr × Obj)} {vs ws : List Value} {n n2 : Nat} {l l2 : List Nat} {ps qs : List (List Nat)} {t u : Tok} {x y : Str} {Q : Value → Shared → Prop} {value slice : PySem.Expr}
theorem truthy_V {R : Bool → Shared → Prop} (N : News h₀ L s.heap news) (hm : (D, listOf vs.toArray n) ∈ news) (hl : vs.length = ps.length) (hz : ps.length ≤ 16384) (h : ∀ k, R (decide (ps ≠ [])) { s with toks := k }) : wpAny (model prog w) A (truthy (.ref D)) R E s := by
  refine wpAny_truthy_list (News.isList N hm) (by simp; omega) ?_
  have e : (!vs.toArray.isEmpty) = decide (ps ≠ []) := by
    cases ps with
    | nil => have : vs = [] := List.length_eq_zero_iff.mp hl; subst this; rfl
    | cons p ps => cases vs with
      | nil => cases hl
      | cons v vs => rfl
  rw [e]; exact h _
theorem itemLast_V {v : Value} {u : Tok} (N : News h₀ L s.heap news) (hm : (D, listOf vs.toArray n) ∈ news) (hv : vs.getLast? = some v) (hz : vs.length ≤ 16384) (h : Q v s)
    (hs : subscripted slice false (.ref D) (.int (-1) u) = operate [.ref D, .int (-1) u] (getItem (.ref D) (.int (-1) u)) := by with_unfolding_all rfl) (hg : ∀ r, letTemporaryGo value (.ref D) r = pure () := by intro _; with_unfolding_all rfl) :
    wpAny (model prog w) A (subscriptTail value slice (.ref D) (.int (-1) u)) Q E s := by
  have hne : vs ≠ [] := by intro e; rw [e] at hv; cases hv
  have hp := List.length_pos_iff.mpr hne
  refine subscriptTail_builtin (News.isList N hm).typeIs slot_list_getitem.lookup (wpAny_getItem_list_neg (News.isList N hm) (by decide) (by simp; omega) (by decide) (x := v) ?_ h) hs hg
  rw [show ((-1 : Int) + (vs.toArray.size : Int)).toNat = vs.length - 1 from by simp; omega]
  rw [List.getLast?_eq_getElem?] at hv
  simpa using hv
theorem last_T (hi : StrsAre vs (SL ps)) (hp : ps ≠ []) : ∃ q t, ps.getLast? = some q ∧ vs.getLast? = some (.str (mkS q) t) := by
  have hl := strs_len hi
  have h0 := List.length_pos_iff.mpr hp
  have e : vs.getLast? = vs[vs.length - 1]? := List.getLast?_eq_getElem?
  have e1 : vs[vs.length - 1]? = some vs[vs.length - 1] := List.getElem?_eq_getElem (by omega)
  obtain ⟨p, t, h1, h2⟩ := strs_at hi e1
  refine ⟨p, t, ?_, ?_⟩
  · rw [List.getLast?_eq_getElem?, ← hl, h1]
  · rw [e, e1, h2]
theorem itemLast_T {u : Tok} (N : News h₀ L s.heap news) (hm : (D, listOf vs.toArray n) ∈ news) (hi : StrsAre vs (SL ps)) (hp : ps ≠ []) (hz : ps.length ≤ 16384) (h : ∀ q t, ps.getLast? = some q → Q (.str (mkS q) t) s)
    (hs : subscripted slice false (.ref D) (.int (-1) u) = operate [.ref D, .int (-1) u] (getItem (.ref D) (.int (-1) u)) := by with_unfolding_all rfl) (hg : ∀ r, letTemporaryGo value (.ref D) r = pure () := by intro _; with_unfolding_all rfl) :
    wpAny (model prog w) A (subscriptTail value slice (.ref D) (.int (-1) u)) Q E s := by
  obtain ⟨q, t, h1, h2⟩ := last_T hi hp
  exact itemLast_V N hm h2 (by rw [strs_len hi]; exact hz) (h q t h1) hs hg
theorem kl_last_eq : ∀ {vs : List Value} {v : Value}, vs.getLast? = some v → kl_last vs = some (vs.dropLast, v)
  | [], _, h => by cases h
  | [x], _, h => by cases h; rfl
  | x :: y :: r, v, h => by
    have ih := kl_last_eq (vs := y :: r) (v := v) (by simpa using h)
    unfold kl_last
    rw [ih]; rfl
theorem pop_V {v : Value} (F : Fr h₀ L s.heap m) (N : News h₀ L s.heap news) (hv : vs.getLast? = some v) (U : Upd D (listOf vs.toArray n) (listOf vs.dropLast.toArray (n + 1)) news news') (hz : vs.length ≤ 16384) (h : ∀ h', Fr h₀ L h' m → News h₀ L h' news' → Q v { s with heap := h' }) :
    wpAny (model prog w) A (call (.builtin "list.pop") [.ref D]) Q E s :=
  kl_pop F N (kl_last_eq hv) U (by rw [sizeLine_eq]; simp; omega) h
theorem pop_T (F : Fr h₀ L s.heap m) (N : News h₀ L s.heap news) (hi : StrsAre vs (SL ps)) (hp : ps ≠ []) (U : Upd D (listOf vs.toArray n) (listOf vs.dropLast.toArray (n + 1)) news news') (hz : ps.length ≤ 16384) (h : ∀ h' q t, Fr h₀ L h' m → News h₀ L h' news' → Q (.str (mkS q) t) { s with heap := h' }) :
    wpAny (model prog w) A (call (.builtin "list.pop") [.ref D]) Q E s := by
  obtain ⟨q, t, h1, h2⟩ := last_T hi hp
  exact pop_V F N h2 U (by rw [strs_len hi]; exact hz) fun h' F' N' => h h' q t F' N'
theorem strs_dropLast {vs : List Value} {ps : List (List Nat)} (hi : StrsAre vs (SL ps)) : StrsAre vs.dropLast (SL ps.dropLast) := by
  have h := StrsAre.take' hi (vs.length - 1)
  rw [List.dropLast_eq_take, List.dropLast_eq_take]
  unfold SL at *
  rw [← List.map_take] at h
  rw [strs_len hi] at h ⊢
  exact h
theorem join_S {c : Nat} {y : Str} (N : News h₀ L s.heap news) (hy : y = mkS [c]) (hm : (D, listOf vs.toArray n) ∈ news) (hi : StrsAre vs (SL ps)) (hz : wt ps ≤ 16384) (h : ∀ t' k, Q (.str (mkS (joinL [c] ps)) t') { s with toks := k }) :
    wpAny (model prog w) A (call (.builtin "str.join") [.str y t, .ref D]) Q E s := by
  subst hy
  refine join_listC (ys := SL ps) (News.isList N hm) hi (by rw [mkS_length]; simp) ?_ fun t' k => ?_
  · have e := wt_sum ps
    have : ps.length ≤ wt ps := by omega
    rw [SL_length]; omega
  · unfold SL; rw [join_mkS]; exact h t' k
end
end Mine
namespace Mine
/-! lists of bytes -/
def BysAre : List Value → List (List Nat) → Prop
  | [], [] => True
  | v :: vs, p :: ps => (∃ t, v = .bytes (mkB p) t) ∧ BysAre vs ps
  | _, _ => False
theorem bys_nil : BysAre [] [] := True.intro
theorem bys_len : ∀ {vs : List Value} {ps : List (List Nat)}, BysAre vs ps → vs.length = ps.length
  | [], [], _ => rfl
  | [], _ :: _, h => h.elim
  | _ :: _, [], h => h.elim
  | _ :: _, _ :: _, h => by rw [List.length_cons, List.length_cons, bys_len h.2]
theorem bys_at : ∀ {vs : List Value} {ps : List (List Nat)}, BysAre vs ps → ∀ {i : Nat} {v : Value}, vs[i]? = some v → ∃ p t, ps[i]? = some p ∧ v = .bytes (mkB p) t
  | [], [], _, i, v, h => by simp at h
  | [], _ :: _, h, _, _, _ => h.elim
  | _ :: _, [], h, _, _, _ => h.elim
  | w :: vs, p :: ps, h, i, v, hv => by
    cases i with
    | zero => obtain ⟨⟨t, e⟩, _⟩ := h; simp at hv; exact ⟨p, t, rfl, by rw [← hv, e]⟩
    | succ i => simp at hv; simpa using bys_at h.2 hv
theorem bys_app : ∀ {vs ws : List Value} {ps qs : List (List Nat)}, BysAre vs ps → BysAre ws qs → BysAre (vs ++ ws) (ps ++ qs)
  | [], _, [], _, _, h2 => h2
  | [], _, _ :: _, _, h, _ => h.elim
  | _ :: _, _, [], _, h, _ => h.elim
  | _ :: _, _, _ :: _, _, h, h2 => ⟨h.1, bys_app h.2 h2⟩
theorem bys_snoc {vs : List Value} {ps : List (List Nat)} {p : List Nat} {t : Tok} (h : BysAre vs ps) : BysAre (vs ++ [.bytes (mkB p) t]) (ps ++ [p]) := bys_app h ⟨⟨t, rfl⟩, True.intro⟩
theorem bys_take : ∀ {vs : List Value} {ps : List (List Nat)}, BysAre vs ps → ∀ k, BysAre (vs.take k) (ps.take k)
  | _, _, _, 0 => by simp [BysAre]
  | [], [], _, k + 1 => by simp [BysAre]
  | [], _ :: _, h, _ => h.elim
  | _ :: _, [], h, _ => h.elim
  | _ :: _, _ :: _, h, k + 1 => ⟨h.1, bys_take h.2 k⟩
theorem bys_dropLast {vs : List Value} {ps : List (List Nat)} (h : BysAre vs ps) : BysAre vs.dropLast ps.dropLast := by
  rw [List.dropLast_eq_take, List.dropLast_eq_take, bys_len h]
  exact bys_take h _
theorem small_join : ∀ {ps : List (List Nat)}, (∀ p ∈ ps, Small p) → Small (joinL [47] ps)
  | [], _ => Small.nil
  | [x], h => h x (.head _)
  | x :: y :: r, h => ((h x (.head _)).append (Small.one (by decide))).append (small_join (ps := y :: r) fun p hp => h p (.tail _ hp))
theorem small_root (l : List Nat) : Small (rootL l) := by
  unfold rootL
  split
  · exact Small.nil
  · split
    · exact Small.one (by decide)
    · intro c hc; simp at hc; omega
theorem small_comps {l : List Nat} (hs : Small l) : ∀ p ∈ ncomps l, Small p := by
  unfold ncomps
  exact fold_mem (by simp) fun q hq c hc => hs c (List.mem_of_mem_drop ((splitL_mem hq).2 c hc))
theorem small_norm {l : List Nat} (hs : Small l) : Small (rootL l ++ joinL [47] (ncomps l)) := (small_root l).append (small_join (small_comps hs))
end Mine
namespace Mine
open Builtin in
theorem bocc_go (l : List Nat) (c : Nat) (hs : Small l) (hc : c < 256) : ∀ n, n ≤ l.length → ∃ k, k ≤ n ∧
    ((List.range n).map (· + 0)).foldl (fun (acc : List Nat × Nat) (i : Nat) => if i ≥ acc.2 && (mkB l).extract i (i + (mkB [c]).size) == mkB [c] then (i :: acc.1, i + (mkB [c]).size) else acc) ([], 0) = (((List.range n).filter fun i => l[i]? == some c).reverse, k)
  | 0, _ => ⟨0, Nat.le_refl _, rfl⟩
  | n + 1, h => by
    obtain ⟨k, hk, e⟩ := bocc_go l c hs hc n (by omega)
    have hn : n < l.length := by omega
    have e2 : ((mkB l).extract n (n + (mkB [c]).size) == mkB [c]) = (l[n]? == some c) := by
      rw [mkB_extract, mkB_size, mkB_beq (hs.sub fun x hx => List.mem_of_mem_drop (List.mem_of_mem_take hx)) (Small.one hc)]
      rw [List.length_singleton, Nat.add_sub_cancel_left, List.take_one, List.head?_drop, List.getElem?_eq_getElem hn]
      simp
    rw [List.range_succ, List.map_append, List.foldl_append, e, List.filter_append, List.reverse_append]
    simp only [List.map_cons, List.map_nil, List.foldl_cons, List.foldl_nil, Nat.add_zero, e2]
    by_cases hx : l[n]? = some c
    · refine ⟨n + 1, Nat.le_refl _, ?_⟩
      rw [if_pos (by simp [hx]; omega), List.filter_cons, if_pos (by simp [hx]), mkB_size]
      rfl
    · refine ⟨k, by omega, ?_⟩
      rw [if_neg (by simp [hx]), List.filter_cons, if_neg (by simp [hx])]
      rfl
open Builtin in
theorem bocc_all (l : List Nat) (c : Nat) (hs : Small l) (hc : c < 256) : Bytes.occurrences (mkB l) (mkB [c]) 0 (mkB l).size = (List.range l.length).filter fun i => l[i]? == some c := by
  unfold Bytes.occurrences
  obtain ⟨k, _, e⟩ := bocc_go l c hs hc l.length (Nat.le_refl _)
  have e1 : (mkB l).size + 1 - (0 + (mkB [c]).size) = l.length := by rw [mkB_size, mkB_size]; simp
  rw [e1]
  show ((((List.range l.length).map (· + 0)).foldl _ ([], 0)).1).reverse = _
  rw [e, List.reverse_reverse]
end Mine
namespace Mine
def bfrom (b : Array UInt8) : Nat → List Nat → List (Array UInt8)
  | a, [] => [b.extract a b.size]
  | a, c :: r => b.extract a c :: bfrom b (c + 1) r
open Builtin in
theorem between_go (b : Array UInt8) : ∀ (cuts : List Nat) (parts : Array (Array UInt8)) (a : Nat),
    (((cuts.foldl (fun (st : Array (Array UInt8) × Nat) p => (st.1.push (b.extract st.2 p), p + 1)) (parts, a)).1).push (b.extract (cuts.foldl (fun (st : Array (Array UInt8) × Nat) p => (st.1.push (b.extract st.2 p), p + 1)) (parts, a)).2 b.size)).toList = parts.toList ++ bfrom b a cuts
  | [], parts, a => by simp [bfrom]
  | c :: r, parts, a => by
    rw [List.foldl_cons]
    have ih := between_go b r (parts.push (b.extract a c)) (c + 1)
    rw [ih]
    simp [bfrom]
open Builtin in
theorem between_eq (b : Array UInt8) (cuts : List Nat) : Bytes.between b 1 cuts = bfrom b 0 cuts := by
  have h := between_go b cuts #[] 0
  simpa [Bytes.between] using h
theorem bparts_all (l : List Nat) (c : Nat) : ∀ (m a : Nat), a + m = l.length →
    bfrom (mkB l) a ((List.range' a m).filter fun i => l[i]? == some c) = (splitL c (l.drop a)).map mkB
  | 0, a, h => by
    rw [List.drop_of_length_le (by omega)]
    show [(mkB l).extract a (mkB l).size] = _
    rw [mkB_extract, List.drop_of_length_le (by omega), List.take_nil]; rfl
  | m + 1, a, h => by
    rw [List.range'_succ, List.filter_cons]
    have hl : a < l.length := by omega
    have ih := bparts_all l c m (a + 1) (by omega)
    rw [List.drop_eq_getElem_cons hl, List.getElem?_eq_getElem hl]
    unfold splitL
    by_cases hc : l[a] = c
    · rw [if_pos (by simp [hc]), if_pos hc]
      show (mkB l).extract a a :: bfrom (mkB l) (a + 1) _ = _
      rw [ih, mkB_extract, Nat.sub_self, List.take_zero]; rfl
    · rw [if_neg (by simp [hc]), if_neg hc]
      obtain ⟨p, ps, e⟩ := splitL_cons c (l.drop (a + 1))
      rw [e] at ih ⊢
      have hge : ∀ k ∈ (List.range' (a + 1) m).filter (fun i => l[i]? == some c), a + 1 ≤ k := by
        intro k hk
        have := (List.mem_filter.mp hk).1
        simp [List.mem_range'] at this
        omega
      revert ih hge
      generalize (List.range' (a + 1) m).filter (fun i => l[i]? == some c) = cuts
      intro ih hge
      have cons2 : ∀ e2, a + 1 ≤ e2 → (mkB l).extract a e2 = ⟨(l[a].toUInt8) :: ((mkB l).extract (a + 1) e2).toList⟩ := by
        intro e2 he
        rw [mkB_extract, mkB_extract, headStep l hl he]
        simp [mkB]
      have head : ∀ (x : Array UInt8), x = mkB p → (⟨(l[a].toUInt8) :: x.toList⟩ : Array UInt8) = mkB (l[a] :: p) := by
        intro x hx; rw [hx]; simp [mkB]
      cases cuts with
      | nil =>
        have i1 : [(mkB l).extract (a + 1) (mkB l).size] = (p :: ps).map mkB := ih
        show [(mkB l).extract a (mkB l).size] = _
        rw [List.map_cons, List.cons.injEq] at i1
        have i3 : ps = [] := List.map_eq_nil_iff.mp i1.2.symm
        rw [cons2 _ (by rw [mkB_size]; omega), head _ i1.1, i3]; rfl
      | cons k r =>
        have i1 : (mkB l).extract (a + 1) k :: bfrom (mkB l) (k + 1) r = (p :: ps).map mkB := ih
        show (mkB l).extract a k :: bfrom (mkB l) (k + 1) r = _
        rw [List.map_cons, List.cons.injEq] at i1
        rw [cons2 _ (hge k (.head _)), head _ i1.1, i1.2]; rfl
open Builtin in
theorem split_mkB (l : List Nat) (c : Nat) (hs : Small l) (hc : c < 256) : Bytes.between (mkB l) 1 (Bytes.occurrences (mkB l) (mkB [c]) 0 (mkB l).size) = (splitL c l).map mkB := by
  rw [between_eq, bocc_all l c hs hc, List.range_eq_range']
  have h := bparts_all l c l.length 0 (by omega)
  rwa [List.drop_zero] at h
end Mine
namespace Mine
/-! bytes.split and bytes.join called -/
theorem mapM_mkB {M : Model} {A : Around} {E : Value → Shared → Prop} : ∀ (ps : List (List Nat)) (s : Shared) (Q : List Value → Shared → Prop), (∀ p ∈ ps, p.length ≤ sizeLine) → (∀ us k, BysAre us ps → Q us { s with toks := k }) → wpAny M A ((ps.map mkB).mapM mkBytes) Q E s
  | [], s, Q, _, h => by rw [List.map_nil, List.mapM_nil]; exact wpAny_pure (h [] s.toks bys_nil)
  | p :: ps, s, Q, hx, h => by
    rw [List.map_cons, List.mapM_cons]
    refine wpAny_bind (wpAny_mkBytes (wpAny_bind (mapM_mkB ps _ _ (fun y hy => hx y (.tail _ hy)) fun us k hu => wpAny_pure ?_)) (by rw [mkB_size]; exact hx p (.head _)))
    exact h (.bytes (mkB p) s.toks :: us) k ⟨⟨_, rfl⟩, hu⟩
section
open Builtin
variable {prog : Program} {w : World} {A : Around} {E : Value → Shared → Prop} {s : Shared} {h₀ : Heap} {L D : Addr} {m : PySem.Str → Option Value} {news : List (Addr × Obj)} {l : List Nat} {c : Nat} {t u : Tok} {vs : List Value} {n : Nat} {ps : List (List Nat)} {b : Array UInt8}
theorem wt_mem {p : List Nat} : ∀ {ps : List (List Nat)}, p ∈ ps → p.length + 1 ≤ wt ps
  | q :: ps, h => by
    have e : wt (q :: ps) = q.length + 1 + wt ps := by simp [wt]
    rw [e]
    rcases List.mem_cons.mp h with rfl | h
    · omega
    · have := wt_mem h; omega
theorem bind_sep {x : Value} : Bytes.bindOptional "bytes.split" "split" ["sep", "maxsplit"] [x] [] = pure [some x, none] := rfl
theorem gives_splitB {Q : Fin → Shared → Prop} (F : Fr h₀ L s.heap m) (N : News h₀ L s.heap news) (hs : Small l) (hc : c < 256) (hz : l.length ≤ 4096)
    (h : ∀ D' us h' k, BysAre us (splitL c l) → Fr h₀ L h' m → News h₀ L h' ((D', listOf (List.toArray us) 0) :: news) → (∀ p ∈ news, p.1 < D') → Q (.done (.ret (.ref D'))) { s with heap := h', toks := k }) :
    wpAny (model prog w) A («bytes.split» ⟨[.bytes (mkB l) t, .bytes (mkB [c]) u], []⟩) Q E s := by
  have hlen := splitL_length c l
  show wpAny _ A (Bytes.bindOptional _ _ _ [.bytes (mkB [c]) u] [] >>= fun r => _) Q E s
  refine wpAny_bind (wpAny_of_eq bind_sep ?_)
  refine wpAny_bind (wpAny_pure ?_)
  refine wpAny_bind (wpAny_of_eq (a := mkB l) rfl ?_)
  show wpAny _ A (Bytes.bytesLike _ (.bytes (mkB [c]) u) >>= fun set => _) Q E s
  rw [KBd.like_eq]
  refine wpAny_bind (wpAny_pure ?_)
  have hall : (Bytes.occurrences (mkB l) (mkB [c]) 0 (mkB l).size).take (if (-1 : Int) < 0 then (mkB l).size + 1 else (-1 : Int).toNat) = Bytes.occurrences (mkB l) (mkB [c]) 0 (mkB l).size := by
    rw [if_pos (by decide), bocc_all l c hs hc, List.take_of_length_le]
    refine Nat.le_trans (List.length_filter_le _ _) ?_
    rw [List.length_range, mkB_size]; omega
  have hbt := split_mkB l c hs hc
  show wpAny _ A (if ((Bytes.occurrences (mkB l) (mkB [c]) 0 (mkB l).size).take (if (-1 : Int) < 0 then (mkB l).size + 1 else (-1 : Int).toNat)).isEmpty = true then _ else _) Q E s
  rw [hall]
  by_cases he : (Bytes.occurrences (mkB l) (mkB [c]) 0 (mkB l).size).isEmpty = true
  · rw [if_pos he]
    rw [List.isEmpty_iff.mp he] at hbt
    have e1 : [(mkB l).extract 0 (mkB l).size] = (splitL c l).map mkB := hbt
    have e2 : splitL c l = [l] := by
      cases h2 : splitL c l with
      | nil => rw [h2] at e1; cases e1
      | cons p r =>
        rw [h2, List.map_cons, List.cons.injEq] at e1
        have h3 : r = [] := List.map_eq_nil_iff.mp e1.2.symm
        have h4 : mkB l = mkB p := by rw [← e1.1]; simp
        have h5 : ∀ q ∈ splitL c l, ∀ x ∈ q, x ∈ l := fun q hq x hx => (splitL_mem hq).2 x hx
        have h6 : Small p := fun x hx => hs x (h5 p (by rw [h2]; exact .head _) x hx)
        rw [h3, mkB_inj hs h6 h4]
    rw [e2] at h
    refine wpAny_bind (wpAny_rule ?_)
    refine wpAny_bind (wpAny_bind (wpAny_typeOf (typeIs_bytes _ _ _) ?_))
    refine wpAny_pure ?_
    refine wpAny_bind (newList_K F N (fun D' h' F' N' l1 => ?_) (by rw [sizeLine_eq, List.length_singleton]; decide))
    exact wpAny_pure (h D' [.bytes (mkB l) t] h' s.toks ⟨⟨_, rfl⟩, True.intro⟩ F' N' l1)
  · rw [if_neg he]
    show wpAny _ A ((Bytes.between (mkB l) (mkB [c]).size (Bytes.occurrences (mkB l) (mkB [c]) 0 (mkB l).size)).mapM mkBytes >>= fun r => _) Q E s
    rw [show (mkB [c]).size = 1 from rfl, hbt]
    refine wpAny_bind (mapM_mkB _ _ _ (fun p hp => ?_) fun us k hu => ?_)
    · rw [sizeLine_eq]; have h1 := wt_mem hp; rw [wt_split] at h1; omega
    · refine wpAny_bind (newList_K F N (fun D' h' F' N' l1 => ?_) (by rw [bys_len hu, sizeLine_eq]; omega))
      exact wpAny_pure (h D' us h' k hu F' N' l1)
theorem bsplit_B {y : Array UInt8} {Q : Value → Shared → Prop} (F : Fr h₀ L s.heap m) (N : News h₀ L s.heap news) (hs : Small l) (hy : y = mkB [c]) (hc : c < 256) (hz : l.length ≤ 4096)
    (h : ∀ D' us h' k, BysAre us (splitL c l) → Fr h₀ L h' m → News h₀ L h' ((D', listOf (List.toArray us) 0) :: news) → (∀ p ∈ news, p.1 < D') → Q (.ref D') { s with heap := h', toks := k }) :
    wpAny (model prog w) A (call (.builtin "bytes.split") [.bytes (mkB l) t, .bytes y u]) Q E s := by
  subst hy
  refine call_meets (S := fun _ R s' => s' = s ∧ ∀ D' us h' k, BysAre us (splitL c l) → Fr h₀ L h' m → News h₀ L h' ((D', listOf (List.toArray us) 0) :: news) → (∀ p ∈ news, p.1 < D') → R (.ok (.ret (.ref D'))) { s with heap := h', toks := k }) slot_split (typeIs_bytes _ _ _) entry_split (args_split _ _) ?_ ⟨rfl, h⟩
  rintro prog w A R s' ⟨rfl, h⟩
  exact gives_splitB F N hs hc hz h
theorem bufferF_eq {id : String} {f : Bool} : Bytes.buffer? id (.bytes b t) f = pure (some b) := by
  unfold Bytes.buffer?
  rw [KBy.special_eq KBy.look_buffer, KBy.own_buffer, KBy.own_release]
  kernel_rfl
theorem take_eq {id : String} : Bytes.takeBuffer? id (.bytes b t) 0 = pure (some (b, none)) := by
  unfold Bytes.takeBuffer?
  rw [KBy.special_eq KBy.look_buffer, KBy.own_buffer, bufferF_eq]
  kernel_rfl
theorem takeQ_eq {id : String} : Bytes.takeBufferQuiet? id (.bytes b t) 0 = pure (some (b, none)) := by
  unfold Bytes.takeBufferQuiet?
  rw [take_eq]
  rfl
theorem joinLetGo_none {M : Model} : ∀ (tk : List Value) (keep : List Value) (s : Shared) (Q : Unit → Shared → Prop), Q () s → wpAny M A (Bytes.joinLetGo (tk.map fun v => (v, none)) keep) Q E s
  | [], _, _, _, h => by unfold Bytes.joinLetGo; exact wpAny_pure h
  | v :: tk, keep, s, Q, h => by
    rw [List.map_cons]
    unfold Bytes.joinLetGo
    refine wpAny_bind (wpAny_letGo ?_)
    exact joinLetGo_none tk keep s Q h
theorem joined_go (c : Nat) : ∀ (ps : List (List Nat)) (acc : List Nat) (i : Nat), 0 < i → (((ps.map mkB).zipIdx i).foldl (fun out (x : Array UInt8 × Nat) => (if x.2 > 0 then out ++ mkB [c] else out) ++ x.1) (mkB acc)) = mkB (acc ++ (ps.map fun p => c :: p).flatten)
  | [], acc, i, _ => by simp
  | p :: ps, acc, i, h => by
    rw [List.map_cons, List.zipIdx_cons, List.foldl_cons, if_pos h]
    have e : mkB acc ++ mkB [c] ++ mkB p = mkB (acc ++ c :: p) := by simp [mkB]
    rw [e, joined_go c ps _ (i + 1) (by omega)]
    simp
theorem joinL_flat (c : Nat) : ∀ (p : List Nat) (ps : List (List Nat)), joinL [c] (p :: ps) = p ++ (ps.map fun p => c :: p).flatten
  | p, [] => by simp [joinL]
  | p, q :: ps => by
    show p ++ [c] ++ joinL [c] (q :: ps) = _
    rw [joinL_flat c q ps]; simp
theorem joined_mkB (c : Nat) : ∀ ps : List (List Nat), Bytes.joined (mkB [c]) (ps.map mkB) = mkB (joinL [c] ps)
  | [] => rfl
  | p :: ps => by
    unfold Bytes.joined
    rw [List.map_cons, List.zipIdx_cons, List.foldl_cons]
    have e : (if (0 : Nat) > 0 then (#[] : Array UInt8) ++ mkB [c] else #[]) ++ mkB p = mkB p := by simp
    show List.foldl _ ((if (0 : Nat) > 0 then (#[] : Array UInt8) ++ mkB [c] else #[]) ++ mkB p) _ = _
    rw [e, joinL_flat]
    exact joined_go c ps p (0 + 1) (by omega)
theorem sizes_go : ∀ (ps : List (List Nat)) (a : Nat), ((ps.map mkB).foldl (fun x y => x + y.size) a) = a + (ps.map (·.length)).sum
  | [], a => by simp
  | p :: ps, a => by rw [List.map_cons, List.foldl_cons, sizes_go ps, mkB_size, List.map_cons, List.sum_cons]; omega
theorem any_bys : ∀ {vs : List Value} {ps : List (List Nat)}, BysAre vs ps → ∀ i, ((vs.take i).map fun v => (v, (none : Option Value))).any (fun x => x.1.onHeap) = false
  | _, _, _, 0 => by simp
  | [], [], _, i + 1 => by simp
  | [], _ :: _, h, _ => h.elim
  | _ :: _, [], h, _ => h.elim
  | v :: vs, p :: ps, h, i + 1 => by
    obtain ⟨⟨t, rfl⟩, h2⟩ := h
    rw [List.take_succ_cons, List.map_cons, List.any_cons, any_bys h2 i]
    rfl
theorem sum_wt : ∀ ps : List (List Nat), (ps.map (·.length)).sum + ps.length = wt ps
  | [] => rfl
  | p :: ps => by
    have e : wt (p :: ps) = p.length + 1 + wt ps := by simp [wt]
    rw [e, ← sum_wt ps, List.map_cons, List.sum_cons, List.length_cons]; omega
theorem gives_joinB {Q : Fin → Shared → Prop} (N : News h₀ L s.heap news) (hm : (D, listOf vs.toArray n) ∈ news) (hi : BysAre vs ps) (hz : wt ps ≤ 16384) 
    (h : ∀ t' k, Q (.done (.ret (.bytes (mkB (joinL [c] ps)) t'))) { s with toks := k }) :
    wpAny (model prog w) A («bytes.join» ⟨[.bytes (mkB [c]) t, .ref D], []⟩) Q E s := by
  show wpAny _ A (Bytes.joinItems (.ref D) >>= fun seq => _) Q E s
  have hl := News.isList N hm
  unfold Bytes.joinItems
  refine wpAny_bind (wpAny_bind (wpAny_typeOf hl.typeIs ?_))
  refine wpAny_pure ?_
  refine wpAny_bind ?_
  obtain ⟨o, ho, hc, n', hd⟩ := id hl
  refine wpAny_seqItems ho hd ?_
  by_cases h1 : vs.length = 1
  · obtain ⟨v, rfl⟩ := List.length_eq_one_iff.mp h1
    have hp := bys_len hi
    obtain ⟨p, rfl⟩ := List.length_eq_one_iff.mp hp.symm
    obtain ⟨⟨t, rfl⟩, _⟩ := hi
    show wpAny _ A (typeOf (.bytes (mkB p) t) >>= _) Q E s
    refine wpAny_bind (wpAny_typeOf (typeIs_bytes _ _ _) ?_)
    exact wpAny_bind (wpAny_rule (wpAny_pure (h t s.toks)))
  · rcases vs with _ | ⟨v, _ | ⟨v2, r⟩⟩
    · show wpAny _ A (forIn [:(([] : List Value).toArray).size] _ _ >>= _) Q E s
      generalize ([] : List Value) = vs at *
      refine wpAny_bind ?_
      rw [Std.Legacy.Range.forIn_eq_forIn_range']
      refine wpAny_forIn_list _ (fun (rest : List Nat) (b : Array (Array UInt8) × List (Value × Option Value)) s' => s' = s ∧ ∃ i, rest = List.range' i (vs.length - i) ∧ i ≤ vs.length ∧ b.1 = ((ps.take i).map mkB).toArray ∧ b.2 = (vs.take i).map fun v => (v, none)) _ ?turn ?fin _ _ ?ini9
      case ini9 => exact ⟨rfl, 0, by simp [Std.Legacy.Range.size], Nat.zero_le _, rfl, rfl⟩
      case turn =>
        rintro i0 rest ⟨pt, tk⟩ s' ⟨rfl, i, hr, hi2, hpt, htk⟩
        dsimp only at hpt htk
        subst hpt htk
        have hlt : i < vs.length := by
          have := congrArg List.length hr
          simp at this
          omega
        have hr2 : List.range' i (vs.length - i) = i :: List.range' (i + 1) (vs.length - (i + 1)) := by
          rw [show vs.length - i = (vs.length - (i + 1)) + 1 from by omega, List.range'_succ]
        rw [hr2, List.cons.injEq] at hr
        obtain ⟨rfl, hr⟩ := hr
        obtain ⟨p, t2, hp, hv⟩ := bys_at hi (List.getElem?_eq_getElem hlt)
        have hx : vs.toArray.getD i0 Value.none = .bytes (mkB p) t2 := by rw [← hv]; simp [hlt]
        refine wpAny_bind (wpAny_seqItems ho hd ?_)
        dsimp only
        rw [hx, if_neg (by rw [any_bys hi]; decide)]
        refine wpAny_bind (wpAny_holding (wpAny_of_eq takeQ_eq ?_))
        dsimp only
        refine wpAny_bind (wpAny_seqItems ho hd ?_)
        dsimp only
        rw [if_neg (by simp)]
        refine wpAny_pure ?_
        refine ⟨rfl, i0 + 1, hr, hlt, ?_, ?_⟩
        · rw [List.take_add_one, hp]; simp
        · rw [List.take_add_one, List.getElem?_eq_getElem hlt, hv]; simp
      case fin =>
        rintro ⟨pt, tk⟩ s' ⟨rfl, i, hr, hi2, hpt, htk⟩
        dsimp only at *
        have hi3 : i = vs.length := by
          have := congrArg List.length hr
          simp at this
          omega
        subst hi3
        subst hpt htk
        rw [bys_len hi, List.take_length, ← bys_len hi, List.take_length]
        refine wpAny_bind (wpAny_of_eq (a := mkB [c]) rfl ?_)
        have hsw := sum_wt ps
        have hsz : Bytes.tooLong (Array.foldl (fun x1 x2 => x1 + x2.size) ((mkB [c]).size * ((List.map mkB ps).toArray.size - 1)) (List.map mkB ps).toArray) = false := by
          refine KBy.tooLong_not ?_
          rw [List.foldl_toArray, sizes_go, mkB_size, List.size_toArray, List.length_map, List.length_singleton]
          omega
        rw [if_neg (by rw [hsz]; decide), List.toList_toArray, joined_mkB]
        refine wpAny_bind (wpAny_mkBytes ?_ (by rw [mkB_size, sizeLine_eq]; have := wt_join c ps; omega))
        refine wpAny_bind (wpAny_holding (wpAny_point ?_))
        refine wpAny_bind (joinLetGo_none _ _ _ _ ?_)
        exact wpAny_pure (h _ _)
    · exact absurd rfl h1
    · show wpAny _ A (forIn [:(v :: v2 :: r).toArray.size] _ _ >>= _) Q E s
      generalize v :: v2 :: r = vs at *
      refine wpAny_bind ?_
      rw [Std.Legacy.Range.forIn_eq_forIn_range']
      refine wpAny_forIn_list _ (fun (rest : List Nat) (b : Array (Array UInt8) × List (Value × Option Value)) s' => s' = s ∧ ∃ i, rest = List.range' i (vs.length - i) ∧ i ≤ vs.length ∧ b.1 = ((ps.take i).map mkB).toArray ∧ b.2 = (vs.take i).map fun v => (v, none)) _ ?turn2 ?fin2 _ _ ?ini8
      case ini8 => exact ⟨rfl, 0, by simp [Std.Legacy.Range.size], Nat.zero_le _, rfl, rfl⟩
      case turn2 =>
        rintro i0 rest ⟨pt, tk⟩ s' ⟨rfl, i, hr, hi2, hpt, htk⟩
        dsimp only at hpt htk
        subst hpt htk
        have hlt : i < vs.length := by
          have := congrArg List.length hr
          simp at this
          omega
        have hr2 : List.range' i (vs.length - i) = i :: List.range' (i + 1) (vs.length - (i + 1)) := by
          rw [show vs.length - i = (vs.length - (i + 1)) + 1 from by omega, List.range'_succ]
        rw [hr2, List.cons.injEq] at hr
        obtain ⟨rfl, hr⟩ := hr
        obtain ⟨p, t2, hp, hv⟩ := bys_at hi (List.getElem?_eq_getElem hlt)
        have hx : vs.toArray.getD i0 Value.none = .bytes (mkB p) t2 := by rw [← hv]; simp [hlt]
        refine wpAny_bind (wpAny_seqItems ho hd ?_)
        dsimp only
        rw [hx, if_neg (by rw [any_bys hi]; decide)]
        refine wpAny_bind (wpAny_holding (wpAny_of_eq takeQ_eq ?_))
        dsimp only
        refine wpAny_bind (wpAny_seqItems ho hd ?_)
        dsimp only
        rw [if_neg (by simp)]
        refine wpAny_pure ?_
        refine ⟨rfl, i0 + 1, hr, hlt, ?_, ?_⟩
        · rw [List.take_add_one, hp]; simp
        · rw [List.take_add_one, List.getElem?_eq_getElem hlt, hv]; simp
      case fin2 =>
        rintro ⟨pt, tk⟩ s' ⟨rfl, i, hr, hi2, hpt, htk⟩
        dsimp only at *
        have hi3 : i = vs.length := by
          have := congrArg List.length hr
          simp at this
          omega
        subst hi3
        subst hpt htk
        rw [bys_len hi, List.take_length, ← bys_len hi, List.take_length]
        refine wpAny_bind (wpAny_of_eq (a := mkB [c]) rfl ?_)
        have hsw := sum_wt ps
        have hsz : Bytes.tooLong (Array.foldl (fun x1 x2 => x1 + x2.size) ((mkB [c]).size * ((List.map mkB ps).toArray.size - 1)) (List.map mkB ps).toArray) = false := by
          refine KBy.tooLong_not ?_
          rw [List.foldl_toArray, sizes_go, mkB_size, List.size_toArray, List.length_map, List.length_singleton]
          omega
        rw [if_neg (by rw [hsz]; decide), List.toList_toArray, joined_mkB]
        refine wpAny_bind (wpAny_mkBytes ?_ (by rw [mkB_size, sizeLine_eq]; have := wt_join c ps; omega))
        refine wpAny_bind (wpAny_holding (wpAny_point ?_))
        refine wpAny_bind (joinLetGo_none _ _ _ _ ?_)
        exact wpAny_pure (h _ _)
theorem join_B {y : Array UInt8} {Q : Value → Shared → Prop} (N : News h₀ L s.heap news) (hy : y = mkB [c]) (hm : (D, listOf vs.toArray n) ∈ news) (hi : BysAre vs ps) (hz : wt ps ≤ 16384)
    (h : ∀ t' k, Q (.bytes (mkB (joinL [c] ps)) t') { s with toks := k }) :
    wpAny (model prog w) A (call (.builtin "bytes.join") [.bytes y t, .ref D]) Q E s := by
  subst hy
  refine call_meets (S := fun _ R s' => s' = s ∧ ∀ t' k, R (.ok (.ret (.bytes (mkB (joinL [c] ps)) t'))) { s with toks := k }) slot_join (typeIs_bytes _ _ _) entry_join (args_join _ _) ?_ ⟨rfl, h⟩
  rintro prog w A R s' ⟨rfl, h⟩
  exact gives_joinB N hm hi hz h
theorem last_Y (hi : BysAre vs ps) (hp : ps ≠ []) : ∃ q t, ps.getLast? = some q ∧ vs.getLast? = some (.bytes (mkB q) t) := by
  have hl := bys_len hi
  have h0 := List.length_pos_iff.mpr hp
  have e : vs.getLast? = vs[vs.length - 1]? := List.getLast?_eq_getElem?
  have e1 : vs[vs.length - 1]? = some vs[vs.length - 1] := List.getElem?_eq_getElem (by omega)
  obtain ⟨p, t, h1, h2⟩ := bys_at hi e1
  refine ⟨p, t, ?_, ?_⟩
  · rw [List.getLast?_eq_getElem?, ← hl, h1]
  · rw [e, e1, h2]
theorem itemLast_Y {value slice : PySem.Expr} {Q : Value → Shared → Prop} {u : Tok} (N : News h₀ L s.heap news) (hm : (D, listOf vs.toArray n) ∈ news) (hi : BysAre vs ps) (hp : ps ≠ []) (hz : ps.length ≤ 16384) (h : ∀ q t, ps.getLast? = some q → Q (.bytes (mkB q) t) s)
    (hs : subscripted slice false (.ref D) (.int (-1) u) = operate [.ref D, .int (-1) u] (getItem (.ref D) (.int (-1) u)) := by with_unfolding_all rfl) (hg : ∀ r, letTemporaryGo value (.ref D) r = pure () := by intro _; with_unfolding_all rfl) :
    wpAny (model prog w) A (subscriptTail value slice (.ref D) (.int (-1) u)) Q E s := by
  obtain ⟨q, t, h1, h2⟩ := last_Y hi hp
  exact itemLast_V N hm h2 (by rw [bys_len hi]; exact hz) (h q t h1) hs hg
theorem pop_Y {news' : List (Addr × Obj)} {Q : Value → Shared → Prop} (F : Fr h₀ L s.heap m) (N : News h₀ L s.heap news) (hi : BysAre vs ps) (hp : ps ≠ []) (U : Upd D (listOf vs.toArray n) (listOf vs.dropLast.toArray (n + 1)) news news') (hz : ps.length ≤ 16384) (h : ∀ h' q t, Fr h₀ L h' m → News h₀ L h' news' → Q (.bytes (mkB q) t) { s with heap := h' }) :
    wpAny (model prog w) A (call (.builtin "list.pop") [.ref D]) Q E s := by
  obtain ⟨q, t, h1, h2⟩ := last_Y hi hp
  exact pop_V F N h2 U (by rw [bys_len hi]; exact hz) fun h' F' N' => h h' q t F' N'
end
theorem small_last {ps : List (List Nat)} {q : List Nat} (h : ∀ p ∈ ps, Small p) (e : ps.getLast? = some q) : Small q := h q (List.mem_of_getLast? e)
end Mine
namespace Mine
/-! one value for both kinds: false a text, true bytes -/
def valK : Bool → List Nat → Tok → Value
  | false, l, t => .str (mkS l) t
  | true, l, t => .bytes (mkB l) t
def kindI : Bool → Int
  | false => 0
  | true => 1
def limK : Bool → Nat
  | false => 1114111
  | true => 255
def OkK (b : Bool) (l : List Nat) : Prop := ∀ c ∈ l, c ≤ limK b
theorem OkK.sub {b : Bool} {a c : List Nat} (h : OkK b a) (hc : ∀ x ∈ c, x ∈ a) : OkK b c := fun x hx => h x (hc x hx)
theorem OkK.cps {a : List Nat} (h : OkK false a) : Cps a := h
theorem OkK.small {a : List Nat} (h : OkK true a) : Small a := fun c hc => Nat.lt_succ_of_le (h c hc)
theorem OkK.sl {b : Bool} {a : List Nat} (h : OkK b a) (lo hi : Option Int) : OkK b (pySl a lo hi) := h.sub fun _ => pySl_mem
theorem OkK.head {b : Bool} {l : List Nat} (h : OkK b l) : OkK b (headL l) := h.sub fun _ => headL_mem
theorem OkK.tk {b : Bool} {a : List Nat} (h : OkK b a) (k : Nat) : OkK b (a.take k) := h.sub fun _ hc => List.mem_of_mem_take hc
theorem OkK.dr {b : Bool} {a : List Nat} (h : OkK b a) (k : Nat) : OkK b (a.drop k) := h.sub fun _ hc => List.mem_of_mem_drop hc
section
variable {prog : Program} {w : World} {A : Around} {E : Value → Shared → Prop} {s : Shared} {h₀ : Heap} {L D D2 : Addr} {news : List (Addr × Obj)} {k : Bool} {a b c d : List Nat} {t1 t2 t3 t4 : Tok} {Q : Value → Shared → Prop}
end
end Mine
namespace Mine
/-! what 05 builds -/
def PathOk1 (vc : List Value) : Prop := ∃ codes : List Nat, IntsAre vc (IN codes) ∧ codes.length ≤ 40 ∧ (∀ k ∈ codes, k ≤ 1114111) ∧ (∀ k ∈ codes, 1 ≤ k)
theorem PathOk1.start : PathOk1 [] := ⟨[], .nil, by simp, by simp, by simp⟩
theorem PathOk1.add {vc : List Value} (h : PathOk1 vc) {n : Int} {t : Tok} (h0 : 1 ≤ n) (h1 : n ≤ 1114111) (h3 : vc.length < 40) : PathOk1 (vc ++ [.int n t]) := by
  obtain ⟨p, a, b, c, d⟩ := h
  have := ints_len a
  refine ⟨p ++ [n.toNat], IN_snoc a (by omega), ?_, all_snoc c h1, fun k hk => ?_⟩
  · simp only [List.length_append, List.length_singleton]; omega
  · rcases List.mem_append.mp hk with hk | hk
    · exact d k hk
    · rw [List.mem_singleton.mp hk]; omega
theorem menu1 (i : Nat) (hi : i < 8) : 1 ≤ ([47, 46, 97, 47, 46, 98, 47, 46] : List Int).getD i 0 := by
  have h : ∀ n ∈ ([47, 46, 97, 47, 46, 98, 47, 46] : List Int), 1 ≤ n := by decide
  rw [List.getD_eq_getElem?_getD]
  cases e : ([47, 46, 97, 47, 46, 98, 47, 46] : List Int)[i]? with
  | none => exact absurd (List.getElem?_eq_none_iff.mp e) (by simp; omega)
  | some n => exact h n (List.mem_of_getElem? e)
end Mine
namespace Mine
/-! the plain law of 01 -/
abbrev isCut (l : List Nat) (k : Nat) : Prop := l.getD k 0 = 46 ∧ 46 ∉ l.drop (k + 1) ∧ 47 ∉ l.drop (k + 1) ∧ (tlL (l.take k)).filter (· != 46) ≠ []
def cutsL (l : List Nat) (i : Nat) : List Nat := (List.range i).filter fun k => decide (isCut l k)
def endL (more : List Nat) : List Nat := [46] ++ more.filter fun c => decide (c ≠ 46 ∧ c ≠ 47)
def by8 (c : Nat) : Nat := (((c : Int) - 1).fmod 255 + 1).toNat
theorem by8_bd (c : Nat) : 0 ≤ ((c : Int) - 1).fmod 255 ∧ ((c : Int) - 1).fmod 255 < 255 := ⟨Int.fmod_nonneg_of_pos _ (by decide), Int.fmod_lt_of_pos _ (by decide)⟩
theorem by8_small (l : List Nat) : Small (l.map by8) := by
  intro c hc
  obtain ⟨x, _, rfl⟩ := List.mem_map.mp hc
  have := by8_bd x
  unfold by8; omega
theorem by8_IN (l : List Nat) : ((IN l).filter fun _ => true).map (fun n => (n - 1).fmod 255 + 1) = IN (l.map by8) := by
  have e : (IN l).filter (fun _ => true) = IN l := List.filter_eq_self.mpr fun _ _ => rfl
  rw [e]
  unfold IN
  rw [List.map_map, List.map_map]
  apply List.map_congr_left
  intro x _
  have := by8_bd x
  show ((x : Int) - 1).fmod 255 + 1 = ((by8 x : Nat) : Int)
  unfold by8; omega
end Mine
namespace Mine
/-! the plain law of 03 -/
def frontL (l : List Nat) : Nat := (l.takeWhile (fun c => c == 47)).length
theorem front_le : ∀ l : List Nat, frontL l ≤ l.length
  | [] => Nat.le_refl _
  | x :: l => by
    unfold frontL
    rw [List.takeWhile_cons]
    split
    · have := front_le l; unfold frontL at this; simp only [List.length_cons]; omega
    · exact Nat.zero_le _
theorem front_all : ∀ (l : List Nat) (k : Nat), k < frontL l → l[k]? = some 47
  | [], k, h => absurd h (by simp [frontL])
  | x :: l, k, h => by
    unfold frontL at h
    rw [List.takeWhile_cons] at h
    split at h
    · rename_i hx
      have hx : x = 47 := by simpa using hx
      cases k with
      | zero => simp [hx]
      | succ k => rw [List.getElem?_cons_succ]; exact front_all l k (by unfold frontL; simp only [List.length_cons] at h; omega)
    · exact absurd h (Nat.not_lt_zero _)
theorem front_end : ∀ l : List Nat, l[frontL l]? ≠ some 47
  | [] => by simp
  | x :: l => by
    unfold frontL
    rw [List.takeWhile_cons]
    split
    · rw [List.length_cons, List.getElem?_cons_succ]; exact front_end l
    · rename_i hx
      simp only [List.length_nil, List.getElem?_cons_zero]
      intro e
      exact hx (by simpa using Option.some.inj e)
theorem getD47 {l : List Nat} {k : Nat} : l.getD k 0 = 47 ↔ l[k]? = some 47 := by
  rw [List.getD_eq_getElem?_getD]
  cases l[k]? <;> simp
theorem front_uniq {l : List Nat} {k : Nat} (h : ∀ i, i < k → l[i]? = some 47) (h2 : l[k]? ≠ some 47) : k = frontL l := by
  rcases Nat.lt_trichotomy k (frontL l) with h3 | h3 | h3
  · exact absurd (front_all l k h3) h2
  · exact h3
  · exact absurd (h _ h3) (front_end l)
abbrev isEnd (l : List Nat) (k : Nat) : Prop := l.getD k 0 ≠ 47 ∧ (k + 1 = l.length ∨ l.getD (k + 1) 0 = 47)
def stopsL (l : List Nat) (i : Nat) : List Nat := frontL l :: ((List.range i).filter fun k => decide (isEnd l k)).map (· + 1)
abbrev keepAt (l : List Nat) (f k : Nat) : Prop := k < f ∨ l.getD k 0 ≠ 47 ∨ l.getD (k - 1) 0 ≠ 47
def keptL (l : List Nat) (f i : Nat) : List Nat := ((List.range i).filter fun k => decide (keepAt l f k)).map fun k => l.getD k 0
/-- one climb: from b down to a -/
def Step (l : List Nat) (a b : Nat) : Prop := a ≤ b ∧ b ≤ l.length ∧ ∃ (j : Nat) (name : List Nat), l.take b = l.take a ++ List.replicate j 47 ++ name ∧ 47 ∉ name ∧ keptL l (frontL l) b = keptL l (frontL l) a ++ (if 1 ≤ j then [47] else []) ++ name ∧
  ((j = 0 ∧ a = frontL l) ∨ (1 ≤ j ∧ ∃ c, 1 ≤ a ∧ c ≠ 47 ∧ l[a - 1]? = some c))
def Pend (l : List Nat) (a i : Nat) : Prop := a ≤ i ∧ i ≤ l.length ∧ frontL l ≤ a ∧ ∃ (j : Nat) (name : List Nat), l.take i = l.take a ++ List.replicate j 47 ++ name ∧ 47 ∉ name ∧ keptL l (frontL l) i = keptL l (frontL l) a ++ (if 1 ≤ j then [47] else []) ++ name ∧
  (name ≠ [] → i < l.length → l[i]? ≠ some 47) ∧ ((j = 0 ∧ a = frontL l) ∨ ((a < i → 1 ≤ j) ∧ (a = i → l[i]? = some 47 ∨ i = l.length) ∧ ∃ c, 1 ≤ a ∧ c ≠ 47 ∧ l[a - 1]? = some c))
def Chain (l : List Nat) (S : List Nat) : Prop := ∀ k, 0 < k → k < S.length → Step l (S.getD (k - 1) 0) (S.getD k 0)
/-- all the stops of the climb -/
def stsL (l : List Nat) : List Nat := if (stopsL l l.length).getD ((stopsL l l.length).length - 1) 0 = l.length then stopsL l l.length else stopsL l l.length ++ [l.length]
/-- the name that a step takes -/
def nameL (l : List Nat) (a b : Nat) : List Nat := ((l.take b).drop a).filter fun c => c != 47
/-- what join does with one more -/
def jstep (x b : List Nat) : List Nat := if b.take 1 = [47] ∨ x = [] then b else if x.getLast? = some 47 then x ++ b else x ++ ([47] ++ b)
theorem root_front (l : List Nat) : rootL l = l.take (if frontL l < 3 then frontL l else 1) := by
  have hfa := front_all l
  have hfe := front_end l
  unfold rootL
  rw [show l.take 1 = (l.drop 0).take 1 from rfl]
  simp only [ne_eq, drop_one_eq]
  rcases Nat.lt_or_ge (frontL l) 1 with h0 | h0
  · have : frontL l = 0 := by omega
    rw [this] at hfe ⊢
    rw [if_pos hfe]; rfl
  · have e0 := hfa 0 (by omega)
    rw [if_neg (not_not_intro e0)]
    rcases Nat.lt_or_ge (frontL l) 2 with h1 | h1
    · have : frontL l = 1 := by omega
      rw [this] at hfe ⊢
      rw [if_pos (.inl hfe), if_pos (by decide), List.take_one, List.head?_eq_getElem?, e0]; rfl
    · have e1 := hfa 1 (by omega)
      rcases Nat.lt_or_ge (frontL l) 3 with h2 | h2
      · have : frontL l = 2 := by omega
        rw [this] at hfe ⊢
        rw [if_neg (by rintro (h | h); exact h e1; exact hfe h), if_pos (by decide), take_snoc e1, take_snoc e0]; rfl
      · have e2 := hfa 2 (by omega)
        rw [if_pos (.inr e2), if_neg (by omega), take_snoc e0]; rfl
/-- what the climb takes -/
def tailsL (l : List Nat) (i : Nat) : List (List Nat) := (List.range i).map fun j => nameL l ((stsL l).getD j 0) ((stsL l).getD (j + 1) 0)
theorem root_len (l : List Nat) : (rootL l).length = if frontL l < 3 then frontL l else 1 := by
  have := front_le l
  rw [root_front, List.length_take]
  split <;> omega
end Mine
namespace Mine
/-! what 03 calls besides -/
section
variable {prog : Program} {w : World} {A : Around} {E : Value → Shared → Prop} {s : Shared} {l m : List Nat} {t u : Tok} {c : Nat} {Q : Value → Shared → Prop}
end
section
open Builtin
variable {b y : Array UInt8} {t u : Tok}
end
section
variable {prog : Program} {w : World} {A : Around} {E : Value → Shared → Prop} {s : Shared} {l m : List Nat} {t u : Tok} {c : Nat} {Q : Value → Shared → Prop}
theorem mkB_app (a b : List Nat) : mkB a ++ mkB b = mkB (a ++ b) := by simp [mkB]
theorem add_B {l l2 : List Nat} {x y : Array UInt8} (hx : x = mkB l) (hy : y = mkB l2) (hz : l.length ≤ 16384) (hz2 : l2.length ≤ 16384) (h : ∀ t' k, Q (.bytes (mkB (l ++ l2)) t') { s with toks := k }) : wpAny (model prog w) A (binaryOp .Add (.bytes x t) (.bytes y u)) Q E s := by
  subst hx; subst hy
  exact KBy.add_bytes (by rw [mkB_size, mkB_size]; omega) fun t' k => by rw [mkB_app]; exact h t' k
end
section
variable {prog : Program} {w : World} {A : Around} {E : Value → Shared → Prop} {s : Shared} {h₀ : Heap} {L D D2 : Addr} {m : PySem.Str → Option Value} {news : List (Addr × Obj)} {k : Bool} {a b c a2 b2 c2 : List Nat} {t1 t2 t3 t4 t5 t6 : Tok} {Q : Value → Shared → Prop} {vs : List Value} {n : Nat} {l : List Nat} {value slice : PySem.Expr}
end
end Mine
namespace Mine
/-! a comprehension over range(n) -/
section
variable {prog : Program} {w : World} {A : Around} {E : Value → Shared → Prop} {s : Shared} {h₀ : Heap} {L : Addr} {m : Str → Option Value} {env : Env}
def CompAskR (prog : Program) (w : World) (A : Around) (h₀ : Heap) (L : Addr) (m : Str → Option Value) (env : Env) (elt : Expr) (x : Str) (tests : List Expr) (scope : Scope) (cl : List (Str × Addr)) (pz : Nat → Bool) (d : Nat → PyData)
    (cont : Addr → List Value → Heap → Nat → Prop → Prop) (xv : Value) (s₁ : Shared) : Prop :=
  ∃ (news : List (Addr × Obj)) (r : Addr) (n : Nat) (t₀ u₀ v₀ : Tok), xv = .ref r ∧ IsRange s₁.heap r 0 (n : Int) 1 t₀ u₀ v₀ ∧ n ≤ 8192 ∧ Fr h₀ L s₁.heap m ∧ News h₀ L s₁.heap news ∧
    (∀ C (c : Nat) t s₂ m₂ E', c < n → Fr s₁.heap (compEnvC scope cl C env).locals s₂.heap m₂ → (∀ b o, s₁.heap.get? b = some o → s₂.heap.get? b = some o) → m₂ x = some (.int (c : Int) t) →
      match tests with
      | [] => pz c = true
      | [e] => wpAny (model prog w) A (isTrue e (compEnvC scope cl C env) (eval e (compEnvC scope cl C env))) (fun ok s₃ => ok = pz c ∧ Keeps s₂ s₃) E' s₂
      | _ => False) ∧
    (∀ C (c : Nat) t s₂ m₂ E', c < n → pz c = true → Fr s₁.heap (compEnvC scope cl C env).locals s₂.heap m₂ → (∀ b o, s₁.heap.get? b = some o → s₂.heap.get? b = some o) → m₂ x = some (.int (c : Int) t) → wpAny (model prog w) A (eval elt (compEnvC scope cl C env)) (fun y s₃ => Carried y (d c) ∧ Keeps s₂ s₃) E' s₂) ∧
    (∀ D ys h' tk n', News h₀ L h' ((D, listOf ys.toArray n') :: news) → (∀ p ∈ news, p.1 ≠ D) → cont D ys h' tk (CarriedAll ys (((List.range n).filter pz).map d)))
end
end Mine
namespace Mine
/-! the plain law of 04 -/
def pcs (l : List Nat) : List (List Nat) := (splitL 47 l).filter (· != [])
def namesL (l : List Nat) : List (List Nat) := [[]] ++ pcs l ++ (if pcs l ≠ [] ∧ l.getLast? = some 47 then [[]] else [])
def leadL (l : List Nat) : List Nat := l.takeWhile (· == 47)
end Mine
namespace Mine
end Mine
namespace Mine
/-! the plain law of 06 -/
def dd : List Nat := [46, 46]
def bstep (st : Nat × List (List Nat)) (p : List Nat) : Nat × List (List Nat) :=
  if p = [46, 46] then (st.1 + 1, st.2) else if p ∉ [[], [46]] then (if 0 < st.1 then (st.1 - 1, st.2) else (st.1, p :: st.2)) else st
def back (ps : List (List Nat)) : Nat × List (List Nat) := ps.reverse.foldl bstep (0, [])
theorem back_nil : back [] = (0, []) := rfl
theorem back_cons (p : List Nat) (ps : List (List Nat)) : back (p :: ps) = bstep (back ps) p := by
  unfold back; rw [List.reverse_cons, List.foldl_append]; rfl
/-- what the forward way makes of a stack: k debts, names ns, by what lies behind -/
theorem forward {root : List Nat} : ∀ (ps : List (List Nat)) (k : Nat) (ns : List (List Nat)), (∀ q ∈ ns, q ≠ [46, 46]) → (root ≠ [] → k = 0) →
    ps.foldl (nstep root) (List.replicate k [46, 46] ++ ns) = (if (back ps).1 ≤ ns.length then List.replicate k [46, 46] ++ ns.take (ns.length - (back ps).1) else if root = [] then List.replicate (k + (back ps).1 - ns.length) [46, 46] else []) ++ (back ps).2
  | [], k, ns, _, _ => by simp [back_nil]
  | p :: ps, k, ns, h, hr => by
    rw [List.foldl_cons, back_cons]
    unfold bstep
    by_cases hd : p = [46, 46]
    · rw [if_pos hd]
      rcases List.eq_nil_or_concat ns with e | ⟨ms, x, e⟩
      · subst e
        by_cases hroot : root = []
        · have e1 : nstep root (List.replicate k [46, 46] ++ []) p = List.replicate (k + 1) [46, 46] ++ [] := by
            unfold nstep
            rw [if_neg (by rw [hd]; simp)]
            rw [if_pos]
            · rw [hd, List.append_nil, List.append_nil, List.replicate_succ']
            · rw [List.append_nil]
              cases k with
              | zero => exact .inr (.inl ⟨hroot, rfl⟩)
              | succ k => exact .inr (.inr (by rw [List.replicate_succ', List.getLast?_append]; rfl))
          rw [e1, forward ps (k + 1) [] (by simp) (fun x => absurd hroot x)]
          simp only [List.length_nil, Nat.le_zero, Nat.add_eq_zero_iff, List.take_nil, hroot, if_true, Nat.sub_zero]
          by_cases hb : (back ps).1 = 0
          · rw [if_pos hb, if_neg (by omega), hb]; simp
          · rw [if_neg hb, if_neg (by omega)]
            congr 2
            omega
        · have hk := hr hroot
          subst hk
          have e1 : nstep root (List.replicate 0 [46, 46] ++ []) p = List.replicate 0 [46, 46] ++ [] := by
            unfold nstep
            rw [if_neg (by rw [hd]; simp), if_neg]
            · rfl
            · rintro (x | ⟨x, _⟩ | x)
              · exact x hd
              · exact hroot x
              · cases x
          rw [e1, forward ps 0 [] (by simp) (fun _ => rfl)]
          simp only [List.length_nil, Nat.le_zero, Nat.add_eq_zero_iff, List.take_nil, hroot, if_false]
          by_cases hb : (back ps).1 = 0
          · rw [if_pos hb, if_neg (by omega)]; rfl
          · rw [if_neg hb, if_neg (by omega)]
      · rw [List.concat_eq_append] at e
        subst e
        have hx := h x (by simp)
        have e1 : nstep root (List.replicate k [46, 46] ++ (ms ++ [x])) p = List.replicate k [46, 46] ++ ms := by
          unfold nstep
          rw [if_neg (by rw [hd]; simp), if_neg]
          · rw [← List.append_assoc, List.dropLast_concat]
          · rintro (y | ⟨_, y⟩ | y)
            · exact y hd
            · simp at y
            · rw [← List.append_assoc, List.getLast?_concat] at y
              exact hx (Option.some.inj y)
        rw [e1, forward ps k ms (fun q hq => h q (by simp [hq])) hr]
        simp only [List.length_append, List.length_singleton]
        by_cases hb : (back ps).1 ≤ ms.length
        · rw [if_pos hb, if_pos (by omega)]
          rw [show ms.length + 1 - ((back ps).1 + 1) = ms.length - (back ps).1 from by omega, List.take_append_of_le_length (by omega)]
        · rw [if_neg hb, if_neg (show ¬ ((back ps).1 + 1 ≤ ms.length + 1) from by omega), show k + (back ps).1 - ms.length = k + ((back ps).1 + 1) - (ms.length + 1) from by omega]
    · rw [if_neg hd]
      by_cases hs : p ∉ [[], [46]]
      · rw [if_pos hs]
        have hp : ¬ (p = [] ∨ p = [46]) := by simpa using hs
        have e1 : nstep root (List.replicate k [46, 46] ++ ns) p = List.replicate k [46, 46] ++ (ns ++ [p]) := by
          unfold nstep
          rw [if_neg hp, if_pos (.inl hd), List.append_assoc]
        rw [e1, forward ps k (ns ++ [p]) (fun q hq => by
          rcases List.mem_append.mp hq with hq | hq
          · exact h q hq
          · rw [List.mem_singleton.mp hq]; exact hd) hr]
        simp only [List.length_append, List.length_singleton]
        by_cases hb : 0 < (back ps).1
        · rw [if_pos hb]
          simp only
          by_cases hc : (back ps).1 ≤ ns.length + 1
          · rw [if_pos hc, if_pos (by omega)]
            rw [show ns.length + 1 - (back ps).1 = ns.length - ((back ps).1 - 1) from by omega, List.take_append_of_le_length (by omega)]
          · rw [if_neg hc, if_neg (show ¬ ((back ps).1 - 1 ≤ ns.length) from by omega), show k + (back ps).1 - (ns.length + 1) = k + ((back ps).1 - 1) - ns.length from by omega]
        · rw [if_neg hb]
          have h0 : (back ps).1 = 0 := by omega
          simp only [h0, Nat.zero_le, if_true, Nat.sub_zero, List.take_length]
          rw [show ns.length + 1 = (ns ++ [p]).length from by simp, List.take_length]
          simp
      · rw [if_neg hs]
        have hp : p = [] ∨ p = [46] := by
          have := Decidable.not_not.mp hs
          simpa using this
        have e1 : nstep root (List.replicate k [46, 46] ++ ns) p = List.replicate k [46, 46] ++ ns := by
          unfold nstep; rw [if_pos hp]
        rw [e1, forward ps k ns h hr]
theorem forward0 (root : List Nat) (ps : List (List Nat)) : ps.foldl (nstep root) [] = (if root = [] then List.replicate (back ps).1 [46, 46] else []) ++ (back ps).2 := by
  have h := forward (root := root) ps 0 [] (by simp) (fun _ => rfl)
  simp only [List.replicate_zero, List.nil_append, List.length_nil, Nat.le_zero, List.take_nil, Nat.sub_zero, Nat.zero_add] at h
  rw [h]
  by_cases h0 : (back ps).1 = 0
  · rw [if_pos h0, h0]; split <;> rfl
  · rw [if_neg h0]
theorem split_root : ∀ (k : Nat) (r : List Nat), splitL 47 (List.replicate k 47 ++ r) = List.replicate k [] ++ splitL 47 r
  | 0, _ => rfl
  | k + 1, r => by
    rw [List.replicate_succ, List.cons_append, List.replicate_succ, List.cons_append, ← split_root k r]
    show (if (47 : Nat) = 47 then _ else _) = _
    rw [if_pos rfl]
theorem back_nils (ps : List (List Nat)) : ∀ k, back (List.replicate k [] ++ ps) = back ps
  | 0 => rfl
  | k + 1 => by
    rw [List.replicate_succ, List.cons_append, back_cons, back_nils ps k]
    unfold bstep
    rw [if_neg (by simp), if_neg (by simp)]
theorem root_drop (l : List Nat) : l = List.replicate (rootL l).length 47 ++ l.drop (rootL l).length := by
  unfold rootL
  split
  · rfl
  · rename_i h
    have e1 : l.take 1 = [47] := Decidable.not_not.mp h
    split
    · have := List.take_append_drop 1 l
      rw [e1] at this; exact this.symm
    · rename_i h2
      have e2 : (l.drop 1).take 1 = [47] := Decidable.not_not.mp fun x => h2 (.inl x)
      have e := List.take_add (l := l) (i := 1) (j := 1)
      rw [e1, e2] at e
      have := List.take_append_drop 2 l
      rw [show l.take 2 = [47, 47] from e] at this; exact this.symm
theorem ncomps_back (l : List Nat) : ncomps l = (if rootL l = [] then List.replicate (back (splitL 47 l)).1 [46, 46] else []) ++ (back (splitL 47 l)).2 := by
  unfold ncomps
  rw [forward0]
  have e : back (splitL 47 l) = back (splitL 47 (l.drop (rootL l).length)) := by
    conv => lhs; rw [root_drop l]
    rw [split_root, back_nils]
  rw [e]
end Mine
namespace Mine
/-! the plain law of 05 -/
def initW (d : Nat) : List (List Int) := (List.range d).map fun (k : Nat) => [0 - (k : Int)]
def wstep (pl : List (List Int)) (p : List Nat) : List (List Int) := if p = [46, 46] then pl.dropLast else if p ≠ [] ∧ p ≠ [46] then pl ++ [IN p] else pl
def walkL (d : Nat) (ps : List (List Nat)) : List (List Int) := ps.foldl wstep (initW d)
theorem initW_len (d : Nat) : (initW d).length = d := by simp [initW]
theorem wstep_skip {pl : List (List Int)} {p : List Nat} (h : p = [] ∨ p = [46]) : wstep pl p = pl := by
  unfold wstep
  rcases h with rfl | rfl <;> rfl
theorem wstep_dd (pl : List (List Int)) : wstep pl [46, 46] = pl.dropLast := if_pos rfl
theorem wstep_name {pl : List (List Int)} {p : List Nat} (h1 : p ≠ []) (h2 : p ≠ [46]) (h3 : p ≠ [46, 46]) : wstep pl p = pl ++ [IN p] := by
  unfold wstep; rw [if_neg h3, if_pos ⟨h1, h2⟩]
/-- what normpath keeps leads where all leads -/
def Good (acc : List (List Nat)) : Prop := ∀ p ∈ acc, p ≠ [] ∧ p ≠ [46]
theorem nstep_walk {root : List Nat} {acc : List (List Nat)} {p : List Nat} {pl : List (List Int)} (hg : Good acc) (hr : root ≠ [] → pl = [] ∧ [46, 46] ∉ acc) :
    (nstep root acc p).foldl wstep pl = wstep (acc.foldl wstep pl) p ∧ Good (nstep root acc p) ∧ (root ≠ [] → [46, 46] ∉ nstep root acc p) := by
  unfold nstep
  by_cases h1 : p = [] ∨ p = [46]
  · rw [if_pos h1, wstep_skip h1]; exact ⟨rfl, hg, fun h => (hr h).2⟩
  · rw [if_neg h1]
    have hp : p ≠ [] ∧ p ≠ [46] := ⟨fun e => h1 (.inl e), fun e => h1 (.inr e)⟩
    have hsn : Good (acc ++ [p]) := fun q hq => by
      rcases List.mem_append.mp hq with hq | hq
      · exact hg q hq
      · rw [List.mem_singleton.mp hq]; exact hp
    have hap : (acc ++ [p]).foldl wstep pl = wstep (acc.foldl wstep pl) p := by rw [List.foldl_append]; rfl
    by_cases h2 : p = [46, 46]
    · subst h2
      by_cases h3 : [46, 46] ≠ [46, 46] ∨ (root = [] ∧ acc = []) ∨ acc.getLast? = some [46, 46]
      · rw [if_pos h3]
        refine ⟨hap, hsn, fun h => ?_⟩
        rcases h3 with h3 | ⟨h3, _⟩ | h3
        · exact absurd rfl h3
        · exact absurd h3 h
        · exact absurd (List.mem_of_getLast? h3) (hr h).2
      · rw [if_neg h3]
        have h4 : ¬ (root = [] ∧ acc = []) := fun h => h3 (.inr (.inl h))
        have h5 : acc.getLast? ≠ some [46, 46] := fun h => h3 (.inr (.inr h))
        refine ⟨?_, fun q hq => hg q (List.dropLast_subset _ hq), fun h hm => (hr h).2 (List.dropLast_subset _ hm)⟩
        rw [wstep_dd]
        cases hl : acc.getLast? with
        | none =>
          have : acc = [] := List.getLast?_eq_none_iff.mp hl
          subst this
          have hroot : root ≠ [] := fun e => h4 ⟨e, rfl⟩
          rw [(hr hroot).1]; rfl
        | some q =>
          obtain ⟨r, rfl⟩ := List.getLast?_eq_some_iff.mp hl
          have hq := hg q (List.mem_append.mpr (.inr (.head _)))
          have hq2 : q ≠ [46, 46] := fun e => h5 (by rw [hl, e])
          rw [List.dropLast_concat, List.foldl_append]
          show _ = (wstep (r.foldl wstep pl) q).dropLast
          rw [wstep_name hq.1 hq.2 hq2, List.dropLast_concat]
    · rw [if_pos (.inl h2)]
      refine ⟨hap, hsn, fun h hm => ?_⟩
      rcases List.mem_append.mp hm with hm | hm
      · exact (hr h).2 hm
      · exact h2 (List.mem_singleton.mp hm).symm
theorem fold_walk {root : List Nat} {pl : List (List Int)} (hpl : root ≠ [] → pl = []) : ∀ (ps acc : List (List Nat)), Good acc → (root ≠ [] → [46, 46] ∉ acc) →
    (ps.foldl (nstep root) acc).foldl wstep pl = ps.foldl wstep (acc.foldl wstep pl) ∧ Good (ps.foldl (nstep root) acc) ∧ (root ≠ [] → [46, 46] ∉ ps.foldl (nstep root) acc)
  | [], acc, hg, hr => ⟨rfl, hg, hr⟩
  | p :: ps, acc, hg, hr => by
    obtain ⟨h1, h2, h3⟩ := nstep_walk (root := root) (p := p) (pl := pl) hg fun h => ⟨hpl h, hr h⟩
    obtain ⟨k1, k2, k3⟩ := fold_walk hpl ps (nstep root acc p) h2 h3
    exact ⟨by rw [List.foldl_cons, List.foldl_cons, k1, h1], k2, k3⟩
theorem walk_nils (k : Nat) (ps : List (List Nat)) (pl : List (List Int)) : (List.replicate k [] ++ ps).foldl wstep pl = ps.foldl wstep pl := by
  induction k with
  | zero => rfl
  | succ k ih => rw [List.replicate_succ, List.cons_append, List.foldl_cons, wstep_skip (.inl rfl), ih]
/-- from each place: the comps lead where the path leads -/
theorem norm_leads (l : List Nat) (d : Nat) (hd : rootL l ≠ [] → d = 0) : walkL d (ncomps l) = walkL d (splitL 47 l) := by
  have h := (fold_walk (root := rootL l) (pl := initW d) (fun h => by rw [hd h]; rfl) (splitL 47 (l.drop (rootL l).length)) [] (fun _ h => nomatch h) (fun _ h => nomatch h)).1
  unfold walkL ncomps
  rw [h]
  have e := root_drop l
  conv => rhs; rw [e, split_root, walk_nils]
  rfl
theorem ncomps_good (l : List Nat) : Good (ncomps l) := (fold_walk (root := rootL l) (pl := initW 0) (fun _ => rfl) (splitL 47 (l.drop (rootL l).length)) [] (fun _ h => nomatch h) (fun _ h => nomatch h)).2.1
theorem dds_walk (k : Nat) : ∀ pl : List (List Int), (List.replicate k [46, 46]).foldl wstep pl = pl.take (pl.length - k) := by
  induction k with
  | zero => intro pl; simp
  | succ k ih =>
    intro pl
    rw [List.replicate_succ, List.foldl_cons, wstep_dd, ih, List.length_dropLast, List.dropLast_eq_take, List.take_take]
    congr 1
    omega
theorem names_walk : ∀ (nm : List (List Nat)) (pl : List (List Int)), (∀ q ∈ nm, q ≠ [] ∧ q ≠ [46] ∧ q ≠ [46, 46]) → nm.foldl wstep pl = pl ++ nm.map IN
  | [], pl, _ => by simp
  | q :: nm, pl, h => by
    obtain ⟨a, b, c⟩ := h q (.head _)
    rw [List.foldl_cons, wstep_name a b c, names_walk nm _ fun q hq => h q (.tail _ hq), List.map_cons, List.append_assoc]; rfl
theorem walk_shape {d k : Nat} {nm : List (List Nat)} (h : ∀ q ∈ nm, q ≠ [] ∧ q ≠ [46] ∧ q ≠ [46, 46]) : walkL d (List.replicate k [46, 46] ++ nm) = (initW d).take (d - k) ++ nm.map IN := by
  unfold walkL
  rw [List.foldl_append, dds_walk, names_walk nm _ h, initW_len]
theorem cut_shape {k i j : Nat} {nm : List (List Nat)} {x : List Nat} (h1 : i < j) :
    (List.replicate k x ++ nm).take i ++ (List.replicate k x ++ nm).drop j = List.replicate (min i k + (k - j)) x ++ (nm.take (i - k) ++ nm.drop (j - k)) := by
  rw [List.take_append, List.drop_append, List.length_replicate, List.take_replicate, List.drop_replicate]
  rcases Nat.lt_or_ge k i with h | h
  · have e1 : k - j = 0 := by omega
    rw [e1, List.replicate_zero, List.nil_append, Nat.add_zero, List.append_assoc]
  · have e1 : i - k = 0 := by omega
    rw [e1, List.take_zero, List.append_nil, List.nil_append, ← List.append_assoc, List.replicate_append_replicate]
theorem places_ne {d k k' : Nat} {nm nm' : List (List Nat)} (hk : k ≤ d) (hk' : k' ≤ k) (hc : ∀ q ∈ nm, q ≠ [] ∧ ∀ c ∈ q, 1 ≤ c) (hlt : k' + nm'.length < k + nm.length) :
    (initW d).take (d - k') ++ nm'.map IN ≠ (initW d).take (d - k) ++ nm.map IN := by
  intro e
  have hl := congrArg List.length e
  simp only [List.length_append, List.length_take, initW_len, List.length_map] at hl
  have hlt2 : k' < k := by omega
  have hn : 0 < nm.length := by omega
  have g := congrArg (fun x : List (List Int) => x[d - k]?) e
  rw [List.getElem?_append_left (by rw [List.length_take, initW_len]; omega), List.getElem?_append_right (by rw [List.length_take, initW_len]; omega), List.getElem?_take, if_pos (by omega), List.length_take, initW_len, show d - k - min (d - k) d = 0 from by omega] at g
  have g1 : (initW d)[d - k]? = some [0 - ((d - k : Nat) : Int)] := by
    unfold initW
    rw [List.getElem?_map, List.getElem?_range (by omega)]; rfl
  rw [g1] at g
  cases nm with
  | nil => exact absurd hn (Nat.lt_irrefl _)
  | cons q nm =>
    rw [List.map_cons, List.getElem?_cons_zero] at g
    have g2 : [0 - ((d - k : Nat) : Int)] = IN q := Option.some.inj g
    obtain ⟨hq, hc1⟩ := hc q (.head _)
    cases q with
    | nil => exact hq rfl
    | cons c q =>
      have g3 : (0 - ((d - k : Nat) : Int)) = (c : Int) := (List.cons.inj g2).1
      have := hc1 c (.head _)
      omega
theorem no_stretch {d k i j : Nat} {nm : List (List Nat)} (hk : k ≤ d) (h : ∀ q ∈ nm, q ≠ [] ∧ q ≠ [46] ∧ q ≠ [46, 46]) (hc : ∀ q ∈ nm, ∀ c ∈ q, 1 ≤ c) (h1 : i < j) (h2 : j ≤ k + nm.length) :
    walkL d ((List.replicate k [46, 46] ++ nm).take i ++ (List.replicate k [46, 46] ++ nm).drop j) ≠ walkL d (List.replicate k [46, 46] ++ nm) := by
  rw [cut_shape h1, walk_shape, walk_shape h]
  · refine places_ne hk (by omega) (fun q hq => ⟨(h q hq).1, hc q hq⟩) ?_
    rw [List.length_append, List.length_take, List.length_drop]
    omega
  · intro q hq
    rcases List.mem_append.mp hq with hq | hq
    · exact h q (List.mem_of_mem_take hq)
    · exact h q (List.mem_of_mem_drop hq)
theorem back_names : ∀ (ps : List (List Nat)), ∀ q ∈ (back ps).2, q ≠ [] ∧ q ≠ [46] ∧ q ≠ [46, 46] ∧ q ∈ ps
  | [], q, hq => by rw [back_nil] at hq; exact nomatch hq
  | p :: ps, q, hq => by
    rw [back_cons] at hq
    have ih := back_names ps
    unfold bstep at hq
    split at hq
    · obtain ⟨a, b, c, d⟩ := ih q hq; exact ⟨a, b, c, .tail _ d⟩
    · rename_i h1
      split at hq
      · rename_i h2
        split at hq
        · obtain ⟨a, b, c, d⟩ := ih q hq; exact ⟨a, b, c, .tail _ d⟩
        · rcases List.mem_cons.mp hq with rfl | hq
          · refine ⟨fun e => h2 (by rw [e]; simp), fun e => h2 (by rw [e]; simp), h1, .head _⟩
          · obtain ⟨a, b, c, d⟩ := ih q hq; exact ⟨a, b, c, .tail _ d⟩
      · obtain ⟨a, b, c, d⟩ := ih q hq; exact ⟨a, b, c, .tail _ d⟩
theorem back_len : ∀ (ps : List (List Nat)), (back ps).1 + (back ps).2.length ≤ ps.length
  | [] => by rw [back_nil]; simp
  | p :: ps => by
    have ih := back_len ps
    rw [back_cons, List.length_cons]
    unfold bstep
    split
    · simp only; omega
    · split
      · split
        · simp only; omega
        · simp only [List.length_cons]; omega
      · omega
/-- how deep the law begins -/
def depL (l : List Nat) : Nat := if 0 < (rootL l).length then 0 else (splitL 47 l).length
def stepsOf (l : List Nat) : List (List Nat) := if (rootL l).length < (normL l).length then splitL 47 ((normL l).drop (rootL l).length) else []
theorem comps_form (l : List Nat) : ∃ k nm, ncomps l = List.replicate k [46, 46] ++ nm ∧ (∀ q ∈ nm, q ≠ [] ∧ q ≠ [46] ∧ q ≠ [46, 46]) ∧ (∀ q ∈ nm, ∀ c ∈ q, c ∈ l) ∧ k ≤ depL l ∧ (rootL l ≠ [] → k = 0) := by
  have hb := back_names (splitL 47 l)
  have hl := back_len (splitL 47 l)
  refine ⟨if rootL l = [] then (back (splitL 47 l)).1 else 0, (back (splitL 47 l)).2, ?_, fun q hq => ⟨(hb q hq).1, (hb q hq).2.1, (hb q hq).2.2.1⟩, fun q hq => (splitL_mem (hb q hq).2.2.2).2, ?_, fun h => if_neg h⟩
  · rw [ncomps_back]
    by_cases h : rootL l = []
    · rw [if_pos h, if_pos h]
    · rw [if_neg h, if_neg h]; rfl
  · unfold depL
    by_cases h : rootL l = []
    · rw [if_pos h, h, if_neg (by simp)]; omega
    · rw [if_neg h]; exact Nat.zero_le _
theorem comps_no47 (l : List Nat) : ∀ p ∈ ncomps l, 47 ∉ p := by
  unfold ncomps
  exact fold_mem (P := fun p => 47 ∉ p) (by simp) fun q hq => (splitL_mem hq).1
theorem join_front {ps : List (List Nat)} (h : Good ps) (h2 : ∀ p ∈ ps, 47 ∉ p) : (joinL [47] ps)[0]? ≠ some 47 := by
  cases ps with
  | nil => simp [joinL]
  | cons p r =>
    have hp := h p (.head _)
    cases p with
    | nil => exact absurd rfl hp.1
    | cons x p =>
      have hx : x ≠ 47 := fun e => h2 (x :: p) (.head _) (by rw [e]; exact .head _)
      cases r with
      | nil => show (x :: p)[0]? ≠ _; simp [hx]
      | cons q r => show ((x :: p) ++ [47] ++ _)[0]? ≠ _; simp [hx]
theorem join_ne {ps : List (List Nat)} (h : Good ps) (hn : ps ≠ []) : joinL [47] ps ≠ [] := by
  cases ps with
  | nil => exact absurd rfl hn
  | cons p r =>
    have hp := h p (.head _)
    cases r with
    | nil => exact hp.1
    | cons q r =>
      intro e
      have e2 : p ++ [47] ++ joinL [47] (q :: r) = [] := e
      simp at e2
theorem root_rep (l : List Nat) : rootL l = List.replicate (rootL l).length 47 := by
  unfold rootL
  split
  · rfl
  · split <;> rfl
theorem norm_form (l : List Nat) : normL l = if rootL l = [] ∧ ncomps l = [] then [46] else rootL l ++ joinL [47] (ncomps l) := by
  have hg := ncomps_good l
  unfold normL
  by_cases h0 : l = []
  · subst h0
    rw [if_pos rfl, if_pos]
    exact ⟨rfl, rfl⟩
  · rw [if_neg h0]
    by_cases h1 : rootL l = [] ∧ ncomps l = []
    · rw [if_pos h1, if_pos]
      rw [h1.1, h1.2]; rfl
    · rw [if_neg h1, if_neg]
      intro e
      have e2 := List.append_eq_nil_iff.mp e
      by_cases h2 : ncomps l = []
      · exact h1 ⟨e2.1, h2⟩
      · exact join_ne hg h2 e2.2
theorem q5_root (l : List Nat) : frontL (normL l) = (rootL l).length := by
  symm
  rw [norm_form]
  split
  · rename_i h
    rw [h.1]; exact front_uniq (fun i hi => absurd hi (Nat.not_lt_zero _)) (by simp)
  · have hr := root_rep l
    apply front_uniq
    · intro i hi
      rw [List.getElem?_append_left hi, hr, List.getElem?_replicate, if_pos (by rw [← hr] at *; exact hi)]
    · rw [List.getElem?_append_right (Nat.le_refl _), Nat.sub_self]
      exact join_front (ncomps_good l) (comps_no47 l)
theorem dep_zero {l : List Nat} (h : rootL l ≠ []) : depL l = 0 := by
  unfold depL
  rw [if_pos (List.length_pos_iff.mpr h)]
theorem q5_leads (l : List Nat) {d : Nat} (hd : d ≤ depL l) : walkL d (ncomps l) = walkL d (splitL 47 l) :=
  norm_leads l d fun h => by rw [dep_zero h] at hd; omega
theorem q5_stretch {l : List Nat} (hc : ∀ c ∈ l, 1 ≤ c) {i j : Nat} (h1 : i < j) (h2 : j ≤ (ncomps l).length) : walkL (depL l) ((ncomps l).take i ++ (ncomps l).drop j) ≠ walkL (depL l) (splitL 47 l) := by
  rw [← q5_leads l (Nat.le_refl _)]
  obtain ⟨k, nm, e, hn, hm, hk, _⟩ := comps_form l
  rw [e] at h2 ⊢
  rw [List.length_append, List.length_replicate] at h2
  exact no_stretch hk hn (fun q hq c hx => hc c (hm q hq c hx)) h1 h2
/-- a path without a root that leads nowhere is one dot -/
theorem q5_dot {l : List Nat} (hc : ∀ c ∈ l, 1 ≤ c) (hr : rootL l = []) (hg : walkL (depL l) (splitL 47 l) = walkL (depL l) []) : normL l = [46] := by
  have h2 : ncomps l = [] := by
    by_cases h : ncomps l = []
    · exact h
    · have hp := List.length_pos_iff.mpr h
      have h3 := q5_stretch hc (l := l) hp (Nat.le_refl _)
      rw [List.take_zero, List.drop_length, List.nil_append] at h3
      exact absurd hg.symm h3
  rw [norm_form, if_pos ⟨hr, h2⟩]
theorem q5_steps {l : List Nat} (h : ¬ (rootL l = [] ∧ walkL (depL l) (splitL 47 l) = walkL (depL l) [])) : stepsOf l = ncomps l := by
  have h1 : ¬ (rootL l = [] ∧ ncomps l = []) := fun h2 => h ⟨h2.1, by rw [← q5_leads l (Nat.le_refl _), h2.2]⟩
  unfold stepsOf
  rw [norm_form, if_neg h1, List.length_append, List.drop_append_of_le_length (Nat.le_refl _), List.drop_length, List.nil_append]
  by_cases h2 : ncomps l = []
  · rw [h2, if_neg (by simp [joinL])]
  · have h3 := List.length_pos_iff.mpr (join_ne (ncomps_good l) h2)
    rw [if_pos (by omega), splitL_join 47 _ h2 (comps_no47 l)]
end Mine
namespace Mine
/-! lists of lists of ints -/
def lstO (o : Obj) (vs : List Value) : Prop := o.cls = .type "list" ∧ ∃ n, o.data = .seq vs.toArray n
theorem lstO_of (vs : List Value) (n : Nat) : lstO (listOf vs.toArray n) vs := ⟨rfl, n, rfl⟩
theorem lst_is {h₀ h : Heap} {L a : Addr} {news : List (Addr × Obj)} {o : Obj} {vs : List Value} (N : News h₀ L h news) (hm : (a, o) ∈ news) (ho : lstO o vs) : h.IsList a vs.toArray := by
  obtain ⟨hc, n, hd⟩ := ho
  exact ⟨o, (N _ hm).1, hc, n, hd⟩
def LsAre (news : List (Addr × Obj)) : List Value → List (List Int) → Prop
  | [], [] => True
  | w :: ws, q :: qs => (∃ a o vs, w = .ref a ∧ (a, o) ∈ news ∧ lstO o vs ∧ IntsAre vs q) ∧ LsAre news ws qs
  | _, _ => False
theorem ls_nil {news : List (Addr × Obj)} : LsAre news [] [] := True.intro
theorem ls_mono {news news' : List (Addr × Obj)} (k : ∀ p ∈ news, p ∈ news') : ∀ {ws : List Value} {qs : List (List Int)}, LsAre news ws qs → LsAre news' ws qs
  | [], [], _ => True.intro
  | [], _ :: _, h => h.elim
  | _ :: _, [], h => h.elim
  | _ :: _, _ :: _, h => by
    obtain ⟨⟨a, o, vs, e, hm, ho, hi⟩, h2⟩ := h
    exact ⟨⟨a, o, vs, e, k _ hm, ho, hi⟩, ls_mono k h2⟩
theorem ls_len {news : List (Addr × Obj)} : ∀ {ws : List Value} {qs : List (List Int)}, LsAre news ws qs → ws.length = qs.length
  | [], [], _ => rfl
  | [], _ :: _, h => h.elim
  | _ :: _, [], h => h.elim
  | _ :: _, _ :: _, h => by rw [List.length_cons, List.length_cons, ls_len h.2]
theorem ls_at {news : List (Addr × Obj)} : ∀ {ws : List Value} {qs : List (List Int)}, LsAre news ws qs → ∀ {i : Nat} {v : Value}, ws[i]? = some v → ∃ q a o vs, qs[i]? = some q ∧ v = .ref a ∧ (a, o) ∈ news ∧ lstO o vs ∧ IntsAre vs q
  | [], [], _, i, v, h => by simp at h
  | [], _ :: _, h, _, _, _ => h.elim
  | _ :: _, [], h, _, _, _ => h.elim
  | w :: ws, q :: qs, h, i, v, hv => by
    cases i with
    | zero =>
      obtain ⟨⟨a, o, vs, e, hm, ho, hi⟩, _⟩ := h
      simp at hv
      exact ⟨q, a, o, vs, rfl, by rw [← hv, e], hm, ho, hi⟩
    | succ i => simp at hv; simpa using ls_at h.2 hv
theorem ls_app {news : List (Addr × Obj)} : ∀ {ws us : List Value} {qs rs : List (List Int)}, LsAre news ws qs → LsAre news us rs → LsAre news (ws ++ us) (qs ++ rs)
  | [], _, [], _, _, h2 => h2
  | [], _, _ :: _, _, h, _ => h.elim
  | _ :: _, _, [], _, h, _ => h.elim
  | _ :: _, _, _ :: _, _, h, h2 => ⟨h.1, ls_app h.2 h2⟩
theorem ls_take {news : List (Addr × Obj)} : ∀ {ws : List Value} {qs : List (List Int)}, LsAre news ws qs → ∀ k, LsAre news (ws.take k) (qs.take k)
  | _, _, _, 0 => by simp [LsAre]
  | [], [], _, k + 1 => by simp [LsAre]
  | [], _ :: _, h, _ => h.elim
  | _ :: _, [], h, _ => h.elim
  | _ :: _, _ :: _, h, k + 1 => ⟨h.1, ls_take h.2 k⟩
theorem ls_drop {news : List (Addr × Obj)} : ∀ {ws : List Value} {qs : List (List Int)}, LsAre news ws qs → ∀ k, LsAre news (ws.drop k) (qs.drop k)
  | _, _, h, 0 => h
  | [], [], _, k + 1 => by simp [LsAre]
  | [], _ :: _, h, _ => h.elim
  | _ :: _, [], h, _ => h.elim
  | _ :: _, _ :: _, h, k + 1 => ls_drop h.2 k
theorem ls_dropLast {news : List (Addr × Obj)} {ws : List Value} {qs : List (List Int)} (h : LsAre news ws qs) : LsAre news ws.dropLast qs.dropLast := by
  rw [List.dropLast_eq_take, List.dropLast_eq_take, ls_len h]
  exact ls_take h _
theorem ls_one {news : List (Addr × Obj)} {a : Addr} {o : Obj} {vs : List Value} {q : List Int} (hm : (a, o) ∈ news) (ho : lstO o vs) (hi : IntsAre vs q) : LsAre news [.ref a] [q] := ⟨⟨a, o, vs, rfl, hm, ho, hi⟩, True.intro⟩
/-- the data that a list of lists of ints is -/
def NN (qs : List (List Int)) : List PyData := qs.map fun q => .list (q.map PyData.int)
theorem ls_reads {h₀ h : Heap} {L : Addr} {news : List (Addr × Obj)} (N : News h₀ L h news) : ∀ {ws : List Value} {qs : List (List Int)}, LsAre news ws qs → ∃ as, ReadsAll h ws (NN qs) as
  | [], [], _ => ⟨_, .nil⟩
  | [], _ :: _, h => h.elim
  | _ :: _, [], h => h.elim
  | _ :: _, _ :: _, h => by
    obtain ⟨⟨a, o, vs, rfl, hm, ho, hi⟩, h2⟩ := h
    obtain ⟨as, r⟩ := ls_reads N h2
    exact ⟨_, .cons (reads_newData (lst_is N hm ho) (ke_carried hi)) r⟩
theorem nn_lay : ∀ qs : List (List Int), PyData.canLayAll0 (NN qs) = true
  | [] => rfl
  | q :: r => by
    have h := nn_lay r
    unfold NN at h ⊢
    simp [PyData.canLayAll0, PyData.canLay0, ke_canLayAll0, h]
theorem nn_depth : ∀ qs : List (List Int), PyData.depthAll (NN qs) ≤ 1
  | [] => by simp [NN, PyData.depthAll]
  | q :: r => by
    have h := nn_depth r
    unfold NN at h ⊢
    simp [PyData.depthAll, PyData.depth, ke_depthAll]
    omega
theorem nn_shaped (qs : List (List Int)) : SeqAt.shaped (.list (NN qs)) = true := by
  have h := nn_depth qs
  simp [SeqAt.shaped, PyData.canLay0, PyData.depth, nn_lay]
  omega
theorem nn_sameAll : ∀ qs rs : List (List Int), PySem.Spec.sameAll (NN qs) (NN rs) = decide (qs = rs)
  | [], [] => by simp [NN, PySem.Spec.sameAll]
  | [], _ :: _ => by simp [NN, PySem.Spec.sameAll]
  | _ :: _, [] => by simp [NN, PySem.Spec.sameAll]
  | a :: r, b :: t => by
    have h := nn_sameAll r t
    unfold NN at h ⊢
    simp only [List.map_cons, PySem.Spec.sameAll, h, ke_same]
    by_cases h1 : a = b <;> by_cases h2 : r = t <;> simp [h1, h2]
section
variable {prog : Program} {w : World} {A : Around} {E : Value → Shared → Prop} {s : Shared} {h₀ : Heap} {L a b : Addr} {m : Str → Option Value} {news : List (Addr × Obj)} {oa ob : Obj} {ws us : List Value} {qs rs : List (List Int)} {q r : List Int} {Q : Value → Shared → Prop}
theorem nn_has (qs : List (List Int)) : (PySem.Spec.Shape.list (.list .int)).has (.list (NN qs)) = true := list_map_has fun _ => list_map_has fun _ => rfl
theorem eq_NN (N : News h₀ L s.heap news) (ha : (a, oa) ∈ news) (hb : (b, ob) ∈ news) (la : lstO oa ws) (lb : lstO ob us) (A1 : LsAre news ws qs) (A2 : LsAre news us rs) (hu : A.units + 64 < cLine) (h : Q (.bool (decide (qs = rs))) s) :
    wpAny (model prog w) A (compareOp .Eq (.ref a) (.ref b)) Q E s := by
  obtain ⟨as, r1⟩ := ls_reads N A1
  obtain ⟨bs, r2⟩ := ls_reads N A2
  obtain ⟨o1, g1, c1, n1, d1⟩ := lst_is N ha la
  obtain ⟨o2, g2, c2, n2, d2⟩ := lst_is N hb lb
  refine eq_dataH_same (.list g1 c1 d1 r1) (.list g2 c2 d2 r2) (nn_shaped _) (nn_shaped _) hu (SeqAt.noMix_of_shape (.list (.list .int)) rfl _ _ (nn_has _) (nn_has _)) ?_
  have e : PySem.Spec.same (.list (NN qs)) (.list (NN rs)) = decide (qs = rs) := by simp only [PySem.Spec.same]; exact nn_sameAll qs rs
  rw [e]; exact h
theorem ne_NN (N : News h₀ L s.heap news) (ha : (a, oa) ∈ news) (hb : (b, ob) ∈ news) (la : lstO oa ws) (lb : lstO ob us) (A1 : LsAre news ws qs) (A2 : LsAre news us rs) (hu : A.units + 64 < cLine) (h : Q (.bool (decide (qs ≠ rs))) s) :
    wpAny (model prog w) A (compareOp .NotEq (.ref a) (.ref b)) Q E s := by
  obtain ⟨as, r1⟩ := ls_reads N A1
  obtain ⟨bs, r2⟩ := ls_reads N A2
  obtain ⟨o1, g1, c1, n1, d1⟩ := lst_is N ha la
  obtain ⟨o2, g2, c2, n2, d2⟩ := lst_is N hb lb
  refine ne_dataH_same (.list g1 c1 d1 r1) (.list g2 c2 d2 r2) (nn_shaped _) (nn_shaped _) hu (SeqAt.noMix_of_shape (.list (.list .int)) rfl _ _ (nn_has _) (nn_has _)) ?_
  have e : PySem.Spec.same (.list (NN qs)) (.list (NN rs)) = decide (qs = rs) := by simp only [PySem.Spec.same]; exact nn_sameAll qs rs
  rw [e, ← decide_not]; exact h
theorem eq_I (N : News h₀ L s.heap news) (ha : (a, oa) ∈ news) (hb : (b, ob) ∈ news) (la : lstO oa ws) (lb : lstO ob us) (A1 : IntsAre ws q) (A2 : IntsAre us r) (hu : A.units + 64 < cLine) (h : Q (.bool (decide (q = r))) s) :
    wpAny (model prog w) A (compareOp .Eq (.ref a) (.ref b)) Q E s := ke_eq_ints (lst_is N ha la) (lst_is N hb lb) A1 A2 hu h
theorem ne_I (N : News h₀ L s.heap news) (ha : (a, oa) ∈ news) (hb : (b, ob) ∈ news) (la : lstO oa ws) (lb : lstO ob us) (A1 : IntsAre ws q) (A2 : IntsAre us r) (hu : A.units + 64 < cLine) (h : Q (.bool (decide (q ≠ r))) s) :
    wpAny (model prog w) A (compareOp .NotEq (.ref a) (.ref b)) Q E s := ke_ne_ints (lst_is N ha la) (lst_is N hb lb) A1 A2 hu (by rw [← decide_not]; exact h)
theorem add_R (F : Fr h₀ L s.heap m) (N : News h₀ L s.heap news) (ha : (a, oa) ∈ news) (hb : (b, ob) ∈ news) (la : lstO oa ws) (lb : lstO ob us) (hz : ws.length + us.length ≤ 16384)
    (h : ∀ D' h', Fr h₀ L h' m → News h₀ L h' ((D', listOf (List.toArray (ws ++ us)) 0) :: news) → (∀ p ∈ news, p.1 < D') → Q (.ref D') { s with heap := h' }) : wpAny (model prog w) A (binaryOp .Add (.ref a) (.ref b)) Q E s :=
  add_lists F N (lst_is N ha la) (lst_is N hb lb) (fun h' F' N' => h _ h' F' N' fun p hp => Heap.lt_size (N p hp).1) (by rw [sizeLine_eq]; omega)
theorem pick_upto (vs : List Value) (i : Nat) : (slicePick vs.toArray none (some (i : Int)) none).toList = vs.take i := by
  have e : sliceBounds none (some (i : Int)) none vs.toArray.size = (((0 : Nat) : Int), ((min i vs.toArray.size : Nat) : Int), 1) := by
    simp only [sliceBounds, Option.getD_none, show (1 : Int) > 0 by decide, if_true, if_neg (show ¬ ((i : Int) < 0) by omega)]
    congr 1
    congr 1
    omega
  rw [kmk_pick_nat _ e]
  show (vs.drop 0).take (min i vs.toArray.size - 0) = _
  rw [List.drop_zero, Nat.sub_zero, List.size_toArray, kmk_take_min]
theorem pick_from (vs : List Value) (i : Nat) : (slicePick vs.toArray (some (i : Int)) none none).toList = vs.drop i := by
  have e : sliceBounds (some (i : Int)) none none vs.toArray.size = (((min i vs.toArray.size : Nat) : Int), ((vs.toArray.size : Nat) : Int), 1) := by
    simp only [sliceBounds, Option.getD_none, show (1 : Int) > 0 by decide, if_true, if_neg (show ¬ ((i : Int) < 0) by omega)]
    congr 1
    omega
  rw [kmk_pick_nat _ e]
  show (vs.drop (min i vs.toArray.size)).take (vs.toArray.size - min i vs.toArray.size) = _
  rw [List.size_toArray, kmk_drop_min, List.take_of_length_le (by rw [List.length_drop]; omega)]
theorem pick_init (vs : List Value) : (slicePick vs.toArray none (some (-1)) none).toList = vs.dropLast := by
  have e : sliceBounds none (some (-1)) none vs.toArray.size = (((0 : Nat) : Int), ((vs.toArray.size - 1 : Nat) : Int), 1) := by
    simp only [sliceBounds, Option.getD_none, show (1 : Int) > 0 by decide, if_true, if_pos (show (-1 : Int) < 0 by decide)]
    congr 1
    congr 1
    omega
  rw [kmk_pick_nat _ e]
  show (vs.drop 0).take (vs.toArray.size - 1 - 0) = _
  rw [List.drop_zero, Nat.sub_zero, List.size_toArray, List.dropLast_eq_take]
section
variable {value slice : PySem.Expr} {x : Int} {u : Tok}
theorem upto_R {k : Nat} (F : Fr h₀ L s.heap m) (N : News h₀ L s.heap news) (ha : (a, oa) ∈ news) (la : lstO oa ws) (hx : x = (k : Int)) (hz : ws.length ≤ 16384)
    (h : ∀ D' h', Fr h₀ L h' m → News h₀ L h' ((D', listOf (List.toArray (ws.take k)) 0) :: news) → (∀ p ∈ news, p.1 < D') → Q (.ref D') { s with heap := h' })
    (hs : subscripted slice false (.ref a) (.ref s.heap.objs.size) = operate [.ref s.heap.objs.size, .ref a] (getItem (.ref a) (.ref s.heap.objs.size)) := by with_unfolding_all rfl) (ht : ∀ r, letTemporaryGo value (.ref a) r = pure () := by intro _; with_unfolding_all rfl) :
    wpAny (model prog w) A (subscriptTail value slice (.ref a) (.ref s.heap.objs.size)) Q E { s with heap := s.heap.push { cls := .type "slice", data := .fields #[.none, .int x u, .none] } } := by
  subst hx
  exact kmk_slice_lit (lo := none) (hi := some (k : Int)) F N (lst_is N ha la) .none (.int _ _) (pick_upto ws k) h hs ht (by rw [List.size_toArray, sizeLine_eq]; omega)
theorem from_R {k : Nat} (F : Fr h₀ L s.heap m) (N : News h₀ L s.heap news) (ha : (a, oa) ∈ news) (la : lstO oa ws) (hx : x = (k : Int)) (hz : ws.length ≤ 16384)
    (h : ∀ D' h', Fr h₀ L h' m → News h₀ L h' ((D', listOf (List.toArray (ws.drop k)) 0) :: news) → (∀ p ∈ news, p.1 < D') → Q (.ref D') { s with heap := h' })
    (hs : subscripted slice false (.ref a) (.ref s.heap.objs.size) = operate [.ref s.heap.objs.size, .ref a] (getItem (.ref a) (.ref s.heap.objs.size)) := by with_unfolding_all rfl) (ht : ∀ r, letTemporaryGo value (.ref a) r = pure () := by intro _; with_unfolding_all rfl) :
    wpAny (model prog w) A (subscriptTail value slice (.ref a) (.ref s.heap.objs.size)) Q E { s with heap := s.heap.push { cls := .type "slice", data := .fields #[.int x u, .none, .none] } } := by
  subst hx
  exact kmk_slice_lit (lo := some (k : Int)) (hi := none) F N (lst_is N ha la) (.int _ _) .none (pick_from ws k) h hs ht (by rw [List.size_toArray, sizeLine_eq]; omega)
theorem init_R (F : Fr h₀ L s.heap m) (N : News h₀ L s.heap news) (ha : (a, oa) ∈ news) (la : lstO oa ws) (hz : ws.length ≤ 16384)
    (h : ∀ D' h', Fr h₀ L h' m → News h₀ L h' ((D', listOf (List.toArray ws.dropLast) 0) :: news) → (∀ p ∈ news, p.1 < D') → Q (.ref D') { s with heap := h' })
    (hs : subscripted slice false (.ref a) (.ref s.heap.objs.size) = operate [.ref s.heap.objs.size, .ref a] (getItem (.ref a) (.ref s.heap.objs.size)) := by with_unfolding_all rfl) (ht : ∀ r, letTemporaryGo value (.ref a) r = pure () := by intro _; with_unfolding_all rfl) :
    wpAny (model prog w) A (subscriptTail value slice (.ref a) (.ref s.heap.objs.size)) Q E { s with heap := s.heap.push { cls := .type "slice", data := .fields #[.none, .int (-1) u, .none] } } :=
  kmk_slice_lit (lo := none) (hi := some (-1)) F N (lst_is N ha la) .none (.int _ _) (pick_init ws) h hs ht (by rw [List.size_toArray, sizeLine_eq]; omega)
end
end
/-- as Spec, without a word of order: what is made may lie anywhere -/
def SpecW (prog p : Program) (K : Params → Frag) (f : Addr) (d u : Nat) (vs : List Value) (news : List (Addr × Obj)) (R : List (Addr × Obj) → Value → Prop) : Prop :=
  ∀ (w : World) (loose : List Str) (mean : ExcName → Option Value) (mg mb : Str → Option Value) (dp un : Nat) (gd : Option (List Code)) (cn : Str) (cs : Scope) (a : Addr) (ccd : Value) (cl : List (Str × Addr)) (outer : List Env) (A₀ : Around) (base h₀ : Heap) (L : Addr) (m : Str → Option Value) (s : Shared) (Q E : Value → Shared → Prop),
    Below A₀ base outer h₀ → Fr h₀ L s.heap m → (K w.params).In h₀ → News h₀ L s.heap news → Top p loose mean mg mb h₀ → cs.kind = .function →
    dp + d < recursionLimit → un + u < cLine →
    (∀ led v h' tk', R led v → Fr h₀ L h' m → News h₀ L h' (led ++ news) → Q v { s with heap := h', toks := tk' }) →
    wpAny (model prog w) (ktrTop dp un gd cn cs L a ccd cl outer) (call (.ref f) vs) Q E s
theorem SpecW.use2 {prog p : Program} {K : Params → Frag} {f : Addr} {d u : Nat} {vs : List Value} {news : List (Addr × Obj)} {R : List (Addr × Obj) → Value → Prop}
    {w : World} {loose : List Str} {mean : ExcName → Option Value} {mg mb : Str → Option Value} {dp un : Nat} {gd : Option (List Code)} {cn : Str} {cs : Scope} {a : Addr} {ccd : Value} {cl : List (Str × Addr)} {outer : List Env} {A₀ : Around} {base h₀ : Heap} {L : Addr} {m : Str → Option Value} {s : Shared} {Q E : Value → Shared → Prop}
    (B : Below A₀ base outer h₀) (F : Fr h₀ L s.heap m) (X : (K w.params).In h₀) (N : News h₀ L s.heap news) (T : Top p loose mean mg mb h₀) (hk : cs.kind = .function) (S : SpecW prog p K f d u vs news R)
    (hd : dp + d < recursionLimit) (hu : un + u < cLine)
    (ret : ∀ led v h' tk', R led v → Fr h₀ L h' m → News h₀ L h' (led ++ news) → Q v { s with heap := h', toks := tk' }) :
    wpAny (model prog w) (ktrTop dp un gd cn cs L a ccd cl outer) (call (.ref f) vs) Q E s :=
  S w loose mean mg mb dp un gd cn cs a ccd cl outer A₀ base h₀ L m s Q E B F X N T hk hd hu ret
theorem splitL_snoc_sep (c : Nat) : ∀ l : List Nat, splitL c (l ++ [c]) = splitL c l ++ [[]]
  | [] => by simp [splitL]
  | x :: l => by
    have ih := splitL_snoc_sep c l
    obtain ⟨p, ps, e⟩ := splitL_cons c l
    rw [List.cons_append]
    unfold splitL
    rw [ih, e]
    split <;> rfl
theorem splitL_snoc (c x : Nat) (h : x ≠ c) : ∀ (l : List Nat) (ps : List (List Nat)) (p : List Nat), splitL c l = ps ++ [p] → splitL c (l ++ [x]) = ps ++ [p ++ [x]]
  | [], ps, p, e => by
    have e2 : ([[]] : List (List Nat)) = ps ++ [p] := e
    have e3 : ps = [] ∧ p = [] := by
      cases ps with
      | nil => simp at e2; exact ⟨rfl, e2⟩
      | cons q r => simp at e2
    obtain ⟨rfl, rfl⟩ := e3
    show splitL c [x] = [[x]]
    unfold splitL
    rw [if_neg h]; rfl
  | y :: l, ps, p, e => by
    rw [List.cons_append]
    unfold splitL at e ⊢
    by_cases hy : y = c
    · rw [if_pos hy] at e ⊢
      cases ps with
      | nil =>
        obtain ⟨q, r, e5⟩ := splitL_cons c l
        rw [e5] at e; simp at e
      | cons q r =>
        rw [List.cons_append, List.cons.injEq] at e
        rw [splitL_snoc c x h l r p e.2, ← e.1]; rfl
    · rw [if_neg hy] at e ⊢
      obtain ⟨q, r, e5⟩ := splitL_cons c l
      rw [e5] at e
      simp only [List.headD_cons, List.tail_cons] at e
      cases ps with
      | nil =>
        simp only [List.nil_append, List.cons.injEq] at e
        have e6 : splitL c l = [] ++ [q] := by rw [e5, e.2]; rfl
        rw [splitL_snoc c x h l [] q e6]
        show (y :: (q ++ [x])) :: [] = [p ++ [x]]
        rw [← e.1]; rfl
      | cons p0 ps =>
        rw [List.cons_append, List.cons.injEq] at e
        have e6 : splitL c l = (q :: ps) ++ [p] := by rw [e5, e.2]; rfl
        rw [splitL_snoc c x h l (q :: ps) p e6]
        show (y :: q) :: (ps ++ [p ++ [x]]) = _
        rw [e.1]; rfl
/-- what the pieces' loop turns -/
structure PcSt where
  wd : List Value
  n : Nat
  last : Addr
  vl : List Value
  nl : Nat
  sub : List (Addr × Obj)
def PcSt.led (P : Addr) (news : List (Addr × Obj)) (c : PcSt) : List (Addr × Obj) := (P, listOf (c.wd ++ [Value.ref c.last]).toArray c.n) :: (c.last, listOf c.vl.toArray c.nl) :: (c.sub ++ news)
def PcSt.ok (P : Addr) (news : List (Addr × Obj)) (l : List Nat) (c : PcSt) : Prop := ∃ (done : List (List Nat)) (cur : List Nat), LsAre c.sub c.wd (done.map IN) ∧ IntsAre c.vl (IN cur) ∧ splitL 47 l = done ++ [cur] ∧ P ≠ c.last ∧ (∀ p ∈ c.sub ++ news, p.1 ≠ P) ∧ (∀ p ∈ c.sub ++ news, p.1 ≠ c.last)
theorem PcSt.add {P : Addr} {news : List (Addr × Obj)} {l : List Nat} {c : PcSt} {x : Nat} {t : Tok} {k : Nat} (h : c.ok P news l) (hx : x ≠ 47) : PcSt.ok P news (l ++ [x]) ⟨c.wd, c.n, c.last, c.vl ++ [Value.int (x : Int) t], k, c.sub⟩ := by
  obtain ⟨done, cur, a, b, d, e, f, g⟩ := h
  refine ⟨done, cur ++ [x], a, ?_, splitL_snoc 47 x hx l done cur d, e, f, g⟩
  rw [IN_append]
  exact b.append (IntsAre.one' _ _)
theorem PcSt.new {P D : Addr} {news : List (Addr × Obj)} {l : List Nat} {c : PcSt} {n k : Nat} (h : c.ok P news l) (hD : ∀ p ∈ c.led P news, p.1 < D) : PcSt.ok P news (l ++ [47]) ⟨c.wd ++ [Value.ref c.last], n, D, [], k, (c.last, listOf c.vl.toArray c.nl) :: c.sub⟩ := by
  obtain ⟨done, cur, a, b, d, e, f, g⟩ := h
  have hP : P < D := hD _ (.head _)
  refine ⟨done ++ [cur], [], ?_, .nil, by rw [splitL_snoc_sep, d], Nat.ne_of_lt hP, ?_, ?_⟩
  · rw [List.map_append]
    exact ls_app (ls_mono (fun p hp => .tail _ hp) a) (ls_one (.head _) (lstO_of _ _) b)
  · intro p hp
    rcases List.mem_cons.mp hp with rfl | hp
    · exact Ne.symm e
    · exact f p hp
  · intro p hp
    exact Nat.ne_of_lt (hD p (.tail _ (by
      rcases List.mem_cons.mp hp with rfl | hp
      · exact .head _
      · exact .tail _ hp)))
theorem PcSt.start {P D : Addr} {news : List (Addr × Obj)} {n k : Nat} (h1 : D < P) (h2 : ∀ p ∈ news, p.1 < D) : PcSt.ok P news [] ⟨[], n, D, [], k, []⟩ :=
  ⟨[], [], ls_nil, .nil, rfl, Nat.ne_of_gt h1, fun p hp => Nat.ne_of_lt (Nat.lt_trans (h2 p hp) h1), fun p hp => Nat.ne_of_lt (h2 p hp)⟩
theorem PcSt.fin {P : Addr} {news : List (Addr × Obj)} {l : List Nat} {c : PcSt} (h : c.ok P news l) : LsAre ((c.last, listOf c.vl.toArray c.nl) :: c.sub) (c.wd ++ [Value.ref c.last]) ((splitL 47 l).map IN) := by
  obtain ⟨done, cur, a, b, d, e, f, g⟩ := h
  rw [d, List.map_append]
  exact ls_app (ls_mono (fun p hp => .tail _ hp) a) (ls_one (.head _) (lstO_of _ _) b)
end Mine
namespace Mine
section
variable {prog : Program} {w : World} {A : Around} {h₀ : Heap} {L : Addr} {m : Str → Option Value} {env : Env} {elt : PySem.Expr} {x : Str} {scope : Scope} {cl : List (Str × Addr)} {s : Shared} {Fin : List Value → List (Addr × Obj) → Prop} {news : List (Addr × Obj)}
/-- the turns of a comprehension over a range that makes a list of ints a turn -/
theorem lls_rest {n : Nat} {a : Int} (g : Int → List Int)
    (turn : ∀ k t I oI C oC D m₂ ys nw h tk (E' : Value → Shared → Prop), LCg.NsObj oC m₂ → m₂ x = some (.int k t) → Fr h₀ L h m → News h₀ L h ((I, oI) :: (C, oC) :: (D, LCg.lst ys) :: nw) → LCg.Off3 I C D nw → ((@Ne Nat I C) ∧ (@Ne Nat I D) ∧ (@Ne Nat C D)) →
      wpAny (model prog w) A (eval elt (compEnvC scope cl C env)) (LCg.CompEnd h₀ L m { s with heap := h, toks := tk } I oI C oC D (LCg.lst ys) (fun _ => True) (fun y nw' => ∃ b o vs, y = .ref b ∧ nw' = (b, o) :: nw ∧ lstO o vs ∧ IntsAre vs (g k))) E' { s with heap := h, toks := tk })
    (fin : ∀ ys sub, LsAre sub ys ((List.range n).map fun (i : Nat) => g (a + (i : Int))) → Fin ys (sub ++ news)) :
    LCg.CompRest prog w A h₀ L m env elt x scope cl s (fun _ => True) (fun i v => ∃ t, v = .int (a + (i : Int)) t) Fin n 0 [] news := by
  have key : ∀ (j i : Nat) (ys : List Value) (sub : List (Addr × Obj)), i + j = n → LsAre sub ys ((List.range i).map fun (i : Nat) => g (a + (i : Int))) →
      LCg.CompRest prog w A h₀ L m env elt x scope cl s (fun _ => True) (fun i v => ∃ t, v = .int (a + (i : Int)) t) Fin j i ys (sub ++ news) := by
    intro j
    induction j with
    | zero =>
      intro i ys sub hi hy
      have e : i = n := by omega
      subst e
      exact LCg.CompRest.zero (fin ys sub hy)
    | succ j ih =>
      intro i ys sub hi hy
      refine LCg.CompRest.succ ?_
      intro v I oI C oC D m₂ h tk E' hv hC hx F N off ne
      obtain ⟨t, rfl⟩ := hv
      refine wpAny_mono (turn _ t I oI C oC D m₂ ys (sub ++ news) h tk E' hC hx F N off ne) (fun y s₂ hq => ?_) fun _ _ e => e
      obtain ⟨h', tk', nw, e, F', N', off', hS, b, o, vs, hy', hn, ho, hi2⟩ := hq
      subst hn
      refine ⟨h', tk', _, e, F', N', off', hS, ?_⟩
      rw [hy']
      refine ih (i + 1) _ ((b, o) :: sub) (by omega) ?_
      rw [List.range_succ, List.map_append]
      exact ls_app (ls_mono (fun p hp => .tail _ hp) hy) (ls_one (.head _) ho hi2)
  exact key n 0 [] [] (by omega) ls_nil
theorem lls_end {I C D b : Addr} {oI oC oD o : Obj} {h' : Heap} {tk tk' : Nat} {h : Heap} {nw : List (Addr × Obj)} {vs : List Value} {q : List Int} {X : Prop} (F : Fr h₀ L h' m) (N : News h₀ L h' ((b, o) :: (I, oI) :: (C, oC) :: (D, oD) :: nw)) (hlt : I < b ∧ C < b ∧ D < b ∧ X) (off : LCg.Off3 I C D nw) (ho : lstO o vs) (hi : IntsAre vs q) :
    LCg.CompEnd h₀ L m { s with heap := h, toks := tk } I oI C oC D oD (fun _ => True) (fun y nw' => ∃ b o vs, y = .ref b ∧ nw' = (b, o) :: nw ∧ lstO o vs ∧ IntsAre vs q) (.ref b) { s with heap := h', toks := tk' } := by
  refine LCg.CompEnd.intro (s₁ := { s with heap := h, toks := tk }) F N ((b, o) :: nw) ?_ ⟨⟨Nat.ne_of_gt hlt.1, Nat.ne_of_gt hlt.2.1, Nat.ne_of_gt hlt.2.2.1⟩, off⟩ trivial ⟨_, _, _, rfl, rfl, ho, hi⟩
  refine List.forall_mem_cons.mpr ⟨.tail _ (.head _), List.forall_mem_cons.mpr ⟨.tail _ (.tail _ (.head _)), List.forall_mem_cons.mpr ⟨.tail _ (.tail _ (.tail _ (.head _))), List.forall_mem_cons.mpr ⟨.head _, fun p hp => .tail _ (.tail _ (.tail _ (.tail _ hp)))⟩⟩⟩⟩
end
/-- what the walk's loop turns -/
structure WkSt where
  P : Addr
  o : Obj
  w : List Value
  sub : List (Addr × Obj)
def WkSt.led (news : List (Addr × Obj)) (c : WkSt) : List (Addr × Obj) := (c.P, c.o) :: (c.sub ++ news)
def WkSt.ok (news : List (Addr × Obj)) (d : Nat) (ps : List (List Nat)) (c : WkSt) : Prop := lstO c.o c.w ∧ LsAre (c.sub ++ news) c.w (walkL d ps)
theorem takeA_snoc {α : Type} {l : List α} {i : Nat} {c : α} (h : l[i]? = some c) : l.take (i + 1) = l.take i ++ [c] := by rw [List.take_add_one, h]; rfl
theorem walk_snoc (d : Nat) (ps : List (List Nat)) (p : List Nat) : walkL d (ps ++ [p]) = wstep (walkL d ps) p := by
  unfold walkL; rw [List.foldl_append]; rfl
theorem wstep_len (pl : List (List Int)) (p : List Nat) : (wstep pl p).length ≤ pl.length + 1 := by
  unfold wstep
  split
  · rw [List.length_dropLast]; omega
  · split
    · rw [List.length_append, List.length_singleton]; exact Nat.le_refl _
    · omega
theorem wfold_len (ps : List (List Nat)) : ∀ pl : List (List Int), (ps.foldl wstep pl).length ≤ pl.length + ps.length := by
  induction ps with
  | nil => intro pl; exact Nat.le_refl _
  | cons p r ih => intro pl; rw [List.foldl_cons, List.length_cons]; have h1 := ih (wstep pl p); have h2 := wstep_len pl p; omega
theorem walkL_len (d : Nat) (ps : List (List Nat)) : (walkL d ps).length ≤ d + ps.length := by
  have h := wfold_len ps (initW d)
  rw [initW_len] at h
  exact h
theorem WkSt.skip {news : List (Addr × Obj)} {d : Nat} {ps : List (List Nat)} {c : WkSt} {p : List Nat} (h : c.ok news d ps) (hp : p = [] ∨ p = [46]) : c.ok news d (ps ++ [p]) := by
  unfold WkSt.ok at *
  rw [walk_snoc, wstep_skip hp]; exact h
theorem WkSt.pop {news : List (Addr × Obj)} {d n : Nat} {ps : List (List Nat)} {c : WkSt} {p : List Nat} {Q : Addr} {sub : List (Addr × Obj)} (h : c.ok news d ps) (hp : p = [46, 46]) (hs : ∀ x ∈ c.sub, x ∈ sub) : WkSt.ok news d (ps ++ [p]) ⟨Q, listOf c.w.dropLast.toArray n, c.w.dropLast, sub⟩ := by
  subst hp
  refine ⟨lstO_of _ _, ?_⟩
  show LsAre (sub ++ news) _ _
  rw [walk_snoc, wstep_dd]
  refine ls_dropLast (ls_mono (fun x hx => ?_) h.2)
  rcases List.mem_append.mp hx with hx | hx
  · exact List.mem_append_left _ (hs _ hx)
  · exact List.mem_append_right _ hx
theorem WkSt.add {news : List (Addr × Obj)} {d n : Nat} {ps : List (List Nat)} {c : WkSt} {p : List Nat} {Q a : Addr} {o : Obj} {vs : List Value} {sub : List (Addr × Obj)} (h : c.ok news d ps) (h1 : p ≠ []) (h2 : p ≠ [46]) (h3 : p ≠ [46, 46]) (hm : (a, o) ∈ news) (ho : lstO o vs) (hi : IntsAre vs (IN p)) (hs : ∀ x ∈ c.sub, x ∈ sub) :
    WkSt.ok news d (ps ++ [p]) ⟨Q, listOf (c.w ++ [Value.ref a]).toArray n, c.w ++ [Value.ref a], sub⟩ := by
  refine ⟨lstO_of _ _, ?_⟩
  show LsAre (sub ++ news) _ _
  rw [walk_snoc, wstep_name h1 h2 h3]
  refine ls_app (ls_mono (fun x hx => ?_) h.2) (ls_one (List.mem_append_right _ hm) ho hi)
  rcases List.mem_append.mp hx with hx | hx
  · exact List.mem_append_left _ (hs _ hx)
  · exact List.mem_append_right _ hx
theorem WkSt.start {news : List (Addr × Obj)} {d : Nat} {P : Addr} {o : Obj} {ys : List Value} {sub : List (Addr × Obj)} (ho : lstO o ys) (h : LsAre sub ys ((List.range d).map fun (i : Nat) => [0 - (0 + (i : Int))])) : WkSt.ok news d [] ⟨P, o, ys, sub⟩ := by
  refine ⟨ho, ls_mono (fun x hx => List.mem_append_left _ hx) ?_⟩
  show LsAre sub ys (initW d)
  unfold initW
  simpa using h
theorem in_inj2 {p q : List Nat} (h : IN p = IN q) : p = q := by
  unfold IN at h
  exact List.map_inj_right (fun a b e => Int.ofNat.inj e) |>.mp h
theorem in_dd {p : List Nat} : IN p = [46, 46] ↔ p = [46, 46] := ⟨fun h => in_inj2 (q := [46, 46]) h, fun h => by rw [h]; rfl⟩
theorem in_dot {p : List Nat} : IN p = [46] ↔ p = [46] := ⟨fun h => in_inj2 (q := [46]) h, fun h => by rw [h]; rfl⟩
theorem in_nil {p : List Nat} : IN p = [] ↔ p = [] := ⟨fun h => in_inj2 (q := []) h, fun h => by rw [h]; rfl⟩
end Mine
namespace Mine
/-! joins: what a statement leaves, said once for its ways -/
def SetTo (h₀ : Heap) (L : Addr) (m : Str → Option Value) (x : Str) (news : List (Addr × Obj)) (s : Shared) (R : List (Addr × Obj) → Value → Prop) (fl : Flow) (s' : Shared) : Prop :=
  fl = .next ∧ ∃ v h' tk' led, s' = { s with heap := h', toks := tk' } ∧ Fr h₀ L h' (fun z => if z = x then some v else m z) ∧ News h₀ L h' (led ++ news) ∧ R led v
section
variable {M : Model} {A : Around} {E : Value → Shared → Prop} {s : Shared} {h₀ : Heap} {L : Addr} {m : Str → Option Value} {news : List (Addr × Obj)} {Q : Flow → Shared → Prop} {c : Sem Flow}
theorem join_set (x : Str) (R : List (Addr × Obj) → Value → Prop) (_F : Fr h₀ L s.heap m) (_N : News h₀ L s.heap news) (h1 : wpAny M A c (SetTo h₀ L m x news s R) E s)
    (h2 : ∀ led v h' tk', R led v → Fr h₀ L h' (fun z => if z = x then some v else m z) → News h₀ L h' (led ++ news) → Q .next { s with heap := h', toks := tk' }) : wpAny M A c Q E s := by
  refine wpAny_mono h1 (fun fl s' h => ?_) fun _ _ e => e
  obtain ⟨rfl, v, h', tk', led, rfl, F', N', r⟩ := h
  exact h2 led v h' tk' r F' N'
end
/-- a statement that gives back a value or goes on -/
def RetOr (h₀ : Heap) (L : Addr) (m : Str → Option Value) (news : List (Addr × Obj)) (s : Shared) (T : Prop) (Q : Flow → Shared → Prop) (fl : Flow) (s' : Shared) : Prop :=
  (fl = .next ∧ T ∧ ∃ h' tk', s' = { s with heap := h', toks := tk' } ∧ Fr h₀ L h' m ∧ News h₀ L h' news) ∨ ∃ v, fl = .ret v ∧ Q (.ret v) s'
theorem join_ret {M : Model} {A : Around} {E : Value → Shared → Prop} {s : Shared} {h₀ : Heap} {L : Addr} {m : Str → Option Value} {news : List (Addr × Obj)} {Q : Flow → Shared → Prop} {c : Sem Flow} (T : Prop) (_F : Fr h₀ L s.heap m) (_N : News h₀ L s.heap news) (h1 : wpAny M A c (RetOr h₀ L m news s T Q) E s)
    (h2 : T → ∀ h' tk', Fr h₀ L h' m → News h₀ L h' news → Q .next { s with heap := h', toks := tk' }) : wpAny M A c Q E s := by
  refine wpAny_mono h1 (fun fl s' h => ?_) fun _ _ e => e
  rcases h with ⟨rfl, t, h', tk', rfl, F', N'⟩ | ⟨v, rfl, q⟩
  · exact h2 t h' tk' F' N'
  · exact q
theorem set_same {h₀ h : Heap} {L : Addr} {m : Str → Option Value} {x : Str} {v : Value} (F : Fr h₀ L h m) (e : m x = some v) : Fr h₀ L h (fun z => if z = x then some v else m z) := by
  have : (fun z => if z = x then some v else m z) = m := by
    funext z
    by_cases hz : z = x
    · rw [if_pos hz, hz, e]
    · rw [if_neg hz]
  rw [this]; exact F
theorem ls_up {news news' : List (Addr × Obj)} {ws : List Value} {qs : List (List Int)} (h : LsAre news ws qs) (k : ∀ p ∈ news, p ∈ news') : LsAre news' ws qs := ls_mono k h
theorem len_R {prog : Program} {w : World} {A : Around} {E : Value → Shared → Prop} {s : Shared} {h₀ : Heap} {L D : Addr} {n : Nat} {vs : List Value} {ps : List (List Nat)} {news X : List (Addr × Obj)} {Q : Value → Shared → Prop} (N : News h₀ L s.heap news) (hm : (D, listOf vs.toArray n) ∈ news) (hl : LsAre X vs (ps.map IN)) (hz : ps.length ≤ 16384)
    (h : ∀ t' k, Q (.int (ps.length : Int) t') { s with toks := k }) : wpAny (model prog w) A (call (.builtin "len") [.ref D]) Q E s :=
  kst_len N hm (by rw [ls_len hl, List.length_map]) (by omega) (h _ _)
theorem dep_a {l : List Nat} (h : (0 : Int) < ((rootL l).length : Int)) : (0 : Int) = (depL l : Int) := by
  unfold depL; rw [if_pos (by omega)]; rfl
theorem dep_b {l : List Nat} (h : ¬ (0 : Int) < ((rootL l).length : Int)) : ((splitL 47 l).length : Int) = (depL l : Int) := by
  unfold depL; rw [if_neg (by omega)]
theorem dot46 {l : List Nat} (h : l = [46]) : IN l = [46] := by rw [h]; rfl
theorem root_nil0 {l : List Nat} (h : ((rootL l).length : Int) = 0) : rootL l = [] := List.length_eq_zero_iff.mp (by omega)
theorem join_setN {M : Model} {A : Around} {E : Value → Shared → Prop} {s : Shared} {h₀ : Heap} {L : Addr} {m : Str → Option Value} {news : List (Addr × Obj)} {Q : Flow → Shared → Prop} {c : Sem Flow} (x : Str) (R : List (Addr × Obj) → List (Addr × Obj) → Value → Prop) (F : Fr h₀ L s.heap m) (N : News h₀ L s.heap news) (h1 : wpAny M A c (SetTo h₀ L m x news s (R news)) E s)
    (h2 : ∀ led v h' tk', R news led v → Fr h₀ L h' (fun z => if z = x then some v else m z) → News h₀ L h' (led ++ news) → Q .next { s with heap := h', toks := tk' }) : wpAny M A c Q E s := join_set x (R news) F N h1 h2
section
variable {prog : Program} {w : World} {A : Around} {E : Value → Shared → Prop} {s : Shared} {env : Env} {h₀ : Heap} {x : Str} {body : List Stmt} {Q : Flow → Shared → Prop}
/-- a for over a range that changes no object -/
theorem for_rangeC {r : Addr} {a₀ b₀ : Int} {t₀ u₀ v₀ : Tok} {m₀ : Str → Option Value} {X : List (Addr × Obj)} (n : Nat) (stored : List Str)
    (hh : A.handled = none) (hr : IsRange s.heap r a₀ b₀ 1 t₀ u₀ v₀) (F : Fr h₀ env.locals s.heap m₀) (N : News h₀ env.locals s.heap X) (hn : (b₀ - a₀).toNat = n) (hab : 0 ≤ a₀ ∧ a₀ ≤ 20000 ∧ 0 ≤ b₀ ∧ b₀ ≤ 20000)
    (turn : ∀ i k t (u : Str → Option Value) h tk I oI, i < n → k = a₀ + (i : Int) → (∀ p ∈ X, p.1 ≠ I) →
      Fr h₀ env.locals h (fun y => if y = x then some (.int k t) else kstB (fun z => if stored.contains z then u z else m₀ z) [] y) → News h₀ env.locals h ((I, oI) :: X) →
      wpAny (model prog w) A (execs body env) (TurnPost h₀ env.locals (fun _ : Unit => X) (fun _ => []) x stored m₀ (fun _ => True) I oI { s with heap := h, toks := tk } Q) E { s with heap := h, toks := tk })
    (done : ∀ (u : Str → Option Value) h tk, Fr h₀ env.locals h (fun y => if y = x then u y else kstB (fun z => if stored.contains z then u z else m₀ z) [] y) → News h₀ env.locals h X → Q .next { s with heap := h, toks := tk }) :
    wpAny (model prog w) A (pyIter (.ref r)) (fun it s₂ => LoopAtV prog w A h₀ env x body Q E it s₂) E s :=
  for_range (σ := Unit) (fun _ => X) (fun _ => []) stored (fun _ _ => True) () hh hr (small_one (by omega) (by omega) (by omega) (by omega)) (by rw [rangeSize_nat, hn]) F N (fun _ h => nomatch h) True.intro
    (fun _ i k t u h tk I oI hi hk _ hne F' N' => turn i k t u h tk I oI hi hk hne F' N') (fun _ u h tk _ F' N' => done u h tk F' N')
theorem turn_endC {L : Addr} {X : List (Addr × Obj)} {stored : List Str} {m₀ m' : Str → Option Value} {I : Addr} {oI : Obj} {s₁ : Shared} {h' : Heap} {tk : Nat} {news' : List (Addr × Obj)}
    (F : Fr h₀ L h' m') (N : News h₀ L h' news') (hn : ∀ p ∈ X, p ∈ news') (hI : (I, oI) ∈ news') (hne : ∀ p ∈ X, p.1 ≠ I)
    (hr : ∀ z, z ≠ x → (∀ p ∈ ([] : List (Str × Value)), z ≠ p.1) → stored.contains z = false → m' z = m₀ z) : TurnEnd h₀ L (fun _ : Unit => X) (fun _ => []) x stored m₀ (fun _ => True) I oI s₁ { s₁ with heap := h', toks := tk } :=
  turn_end (σ := Unit) () F N hn hI hne (fun _ h => nomatch h) hr True.intro
end
theorem ls_cut {X Y : List (Addr × Obj)} {ws : List Value} {ps : List (List Nat)} {i j : Nat} (h : LsAre X ws (ps.map IN)) (k : ∀ p ∈ X, p ∈ Y) : LsAre Y (ws.take i ++ ws.drop j) ((ps.take i ++ ps.drop j).map IN) := by
  have h2 := ls_mono k h
  rw [List.map_append, List.map_take, List.map_drop]
  exact ls_app (ls_take h2 i) (ls_drop h2 j)
theorem steps_len (l : List Nat) : (stepsOf l).length ≤ (normL l).length + 1 := by
  unfold stepsOf
  split
  · have h := splitL_length 47 ((normL l).drop (rootL l).length)
    rw [List.length_drop] at h
    omega
  · simp
theorem news_snoc {h₀ h : Heap} {L : Addr} {a d : Addr × Obj} {sub X : List (Addr × Obj)} (N : News h₀ L h (a :: (sub ++ d :: X))) : News h₀ L h ((a :: (sub ++ [d])) ++ X) := by
  rw [List.cons_append, List.append_assoc]; exact N
theorem ls_snoc {a d : Addr × Obj} {sub X : List (Addr × Obj)} {ws : List Value} {ps rs : List (List Nat)} (h : LsAre (sub ++ d :: X) ws (ps.map IN)) (e : ps = rs) : LsAre ((a :: (sub ++ [d])) ++ X) ws (rs.map IN) := by
  rw [← e, List.cons_append, List.append_assoc]; exact ls_mono (fun p hp => .tail _ hp) h
theorem steps_a {l : List Nat} (h : ((rootL l).length : Int) < ((normL l).length : Int)) : splitL 47 ((normL l).drop (rootL l).length) = stepsOf l := by
  unfold stepsOf; rw [if_pos (by omega)]
theorem steps_b {l : List Nat} (h : ¬ ((rootL l).length : Int) < ((normL l).length : Int)) : stepsOf l = [] := by
  unfold stepsOf; rw [if_neg (by omega)]
theorem ls_none {X : List (Addr × Obj)} {ps : List (List Nat)} (h : ps = []) : LsAre X [] (ps.map IN) := by rw [h]; exact True.intro
end Mine
namespace Mine
/-! a comprehension over a text's signs -/
def headC (y : Str) : Nat := y.cps.toList.headD 0
theorem signs_mkS (l : List Nat) : signs (mkS l) = l.map fun c => mkS [c] := by
  unfold signs
  rw [mkS_cps]; rfl
theorem signs_fm (l : List Nat) (pz : Nat → Bool) (d : Nat → PyData) : ((signs (mkS l)).filter fun y => pz (headC y)).map (fun y => d (headC y)) = (l.filter pz).map d := by
  rw [signs_mkS, List.filter_map, List.map_map]
  rfl
section
variable {prog : Program} {w : World} {A : Around} {E : Value → Shared → Prop} {s : Shared} {h₀ : Heap} {L : Addr} {m : Str → Option Value} {env : Env}
def CompAskS (prog : Program) (w : World) (A : Around) (h₀ : Heap) (L : Addr) (m : Str → Option Value) (env : Env) (elt : Expr) (x : Str) (tests : List Expr) (scope : Scope) (cl : List (Str × Addr)) (pz : Nat → Bool) (d : Nat → PyData)
    (cont : Addr → List Value → Heap → Nat → Prop → Prop) (xv : Value) (s₁ : Shared) : Prop :=
  ∃ (news : List (Addr × Obj)) (l : List Nat) (t : Tok), xv = .str (mkS l) t ∧ l.length ≤ 8192 ∧ Fr h₀ L s₁.heap m ∧ News h₀ L s₁.heap news ∧
    (∀ C c t' s₂ m₂ E', c ∈ l → Fr s₁.heap (compEnvC scope cl C env).locals s₂.heap m₂ → (∀ b o, s₁.heap.get? b = some o → s₂.heap.get? b = some o) → m₂ x = some (.str (mkS [c]) t') →
      match tests with
      | [] => pz c = true
      | [g] => wpAny (model prog w) A (isTrue g (compEnvC scope cl C env) (eval g (compEnvC scope cl C env))) (fun ok s₃ => ok = pz c ∧ Keeps s₂ s₃) E' s₂
      | _ => False) ∧
    (∀ C c t' s₂ m₂ E', c ∈ l → pz c = true → Fr s₁.heap (compEnvC scope cl C env).locals s₂.heap m₂ → (∀ b o, s₁.heap.get? b = some o → s₂.heap.get? b = some o) → m₂ x = some (.str (mkS [c]) t') → wpAny (model prog w) A (eval elt (compEnvC scope cl C env)) (fun y s₃ => Carried y (d c) ∧ Keeps s₂ s₃) E' s₂) ∧
    (∀ D ys h' tk n', News h₀ L h' ((D, listOf ys.toArray n') :: news) → (∀ p ∈ news, p.1 ≠ D) → cont D ys h' tk (CarriedAll ys ((l.filter pz).map d)))

theorem comp_signs {elt iter : Expr} {x : Str} {px : Pos} {tests : List Expr} {scope : Scope} {cl : List (Str × Addr)} {pos : Pos} {Q : Value → Shared → Prop} (pz : Nat → Bool) (d : Nat → PyData)
    (_F : Fr h₀ L s.heap m) (hh : A.handled = none) (hclos : closureFor scope env = pure cl) (hcell : ∀ y ∈ scope.names, y.2 ≠ .cell) (hkind : scope.kind = .function)
    (hnames : ∀ y ∈ scope.names, y.2 = .local → scope.names.lookup y.1 = some .local) (hx : scope.names.lookup x = some .local) (hs : ∀ x, foldedSetIterable iter env x = pure x)
    (h : wpAny (model prog w) A (eval iter env) (fun xv s₁ => Stop (CompAskS prog w A h₀ L m env elt x tests scope cl pz d (fun D _ h' tk C => Fr h₀ L h' m → C → Q (.ref D) { s₁ with heap := h', toks := tk }) xv s₁)) E s) :
    wpAny (model prog w) A (eval (.ListComp elt [⟨.Name x px, iter, tests, 0⟩] scope pos) env) Q E s := by
  refine wpAny_ListComp_free (ItemKind.str.lift fun y => pz (headC y)) (fun v y => ∃ a, ItemKind.str.is a v ∧ Carried y (d (headC a))) hclos hcell hkind hnames hx (wpAny_mono h (fun xv s₁ h₁ => ?_) fun _ _ e => e) hs
  obtain ⟨news, l, t, rfl, hz, F, N, ht, he, hc⟩ := h₁
  have up : ∀ (o : Obj) (h' : Heap), (∀ b o', b ∉ [s₁.heap.objs.size] → (s₁.heap.push o).get? b = some o' → h'.get? b = some o') → ∀ b o', s₁.heap.get? b = some o' → h'.get? b = some o' :=
    fun o h' hk b o' e => hk b o' (old_not_new e) (Heap.get?_push_of_some _ e)
  refine wpAny_pyIter_str fun o St W hst => ?_
  refine ⟨s₁.heap.objs.size, [s₁.heap.objs.size], [s₁.heap.objs.size], (mkS l).cps.size, SignAt (mkS l), St, rfl, W A hh, ?_, hst, ?_, ⟨?_, ?_⟩, ?_⟩
  · have := mkS_length l
    rw [sizeLine_eq]
    show (mkS l).length ≤ _
    omega
  · intro b hb
    show b < (s₁.heap.push o).objs.size
    rw [Heap.size_push, List.mem_singleton.mp hb]
    exact Nat.lt_succ_self _
  · intro C i v s₃ m₃ E' hC hP hn hm hk _
    obtain ⟨c, u, hcu, rfl⟩ := hP
    have hcl : c ∈ l := by
      have h2 : l[i]? = some c := by simpa [mkS] using hcu
      exact List.mem_of_getElem? h2
    have ha : ItemKind.str.is ⟨#[c]⟩ (.str ⟨#[c]⟩ u) := ⟨u, rfl⟩
    rw [ItemKind.lift_is ha]
    have k2 := up o s₃.heap hk
    have hC2 : s₁.heap.objs.size ≤ C := Nat.le_of_succ_le (by simpa [Heap.size_push] using hC)
    have h2 := ht C c u s₃ m₃ E' hcl (frInComp hn k2 hC2) k2 hm
    refine comp_tests (P := true) ?_
    match tests, h2 with
    | [], h2 => exact ⟨h2.symm, Keeps.rfl'⟩
    | [g], h2 => exact h2
  · intro C i v s₃ m₃ E' hC hP hp hn hm hk _
    obtain ⟨c, u, hcu, rfl⟩ := hP
    have hcl : c ∈ l := by
      have h2 : l[i]? = some c := by simpa [mkS] using hcu
      exact List.mem_of_getElem? h2
    have ha : ItemKind.str.is ⟨#[c]⟩ (.str ⟨#[c]⟩ u) := ⟨u, rfl⟩
    rw [ItemKind.lift_is ha] at hp
    have k2 := up o s₃.heap hk
    have hC2 : s₁.heap.objs.size ≤ C := Nat.le_of_succ_le (by simpa [Heap.size_push] using hC)
    exact wpAny_mono (he C c u s₃ m₃ E' hcl hp (frInComp hn k2 hC2) k2 hm) (fun y s₄ h₄ => ⟨⟨_, ha, h₄.1⟩, h₄.2⟩) fun _ _ e => e
  · intro D h' tk ys vs hnew hlD hplD hlen hP hF hk
    have k2 := up o h' hk
    have hD0 : h₀.get? D = none := by
      cases e : h₀.get? D with
      | none => rfl
      | some o' => rw [Heap.get?_push_of_some _ (F.keep _ _ e)] at hnew; cases hnew
    have hpl : NewPlain h' news D ys.toList.toArray := ⟨by rw [Array.toArray_toList]; exact hplD, fun p hp e => by rw [← e, Heap.get?_push_of_some _ (N p hp).1] at hnew; cases hnew⟩
    obtain ⟨n', N2⟩ := News.ofPlain (F.keeps k2) (N.grown k2) hD0 hpl
    have hca := (areOf_signs (y := mkS l) hlen hP).paired (fun y => pz (headC y)) (fun y => d (headC y)) _ hF
    rw [signs_fm] at hca
    exact hc D ys.toList h' tk n' N2 hpl.2 (F.keeps k2) hca
end
end Mine
namespace Mine
/-! list(b) of bytes -/
section
variable {prog : Program} {w : World} {A : Around} {E : Value → Shared → Prop} {s : Shared}
def ByteAt (b : Array UInt8) (i : Nat) (v : Value) : Prop := ∃ c u, b[i]? = some c ∧ v = .int ((c.toNat : Nat) : Int) u
abbrev lstA (acc : Array Value) (c : Nat) : Obj := { cls := .type "list", dict := none, data := .seq acc c, slots := #[] }
theorem extend_bytes {R : Result → Shared → Prop} (hh : A.handled = none) (b : Array UInt8) (t : Tok) (S : Addr) (res : Value) (k : Nat) (hS : s.heap.get? S = some (lstA #[] k)) (hn : b.size ≤ sizeLine)
    (hR : ∀ h' tk acc c, (∀ a o, a ≠ S → s.heap.get? a = some o → h'.get? a = some o) → h'.get? S = some (lstA acc c) → ItemsOf (ByteAt b) acc b.size → R (.ok (.ret res)) { s with heap := h', toks := tk }) :
    wpAny (model prog w) A.in1 (Builtin.List.listExtendWith (.ref S) (.bytes b t) res)
      (fun fin s' => match fin with | .done f => R (.ok f) s' | .again c => c.quiet = true ∧ codeAny (model prog w) A c R s') (fun e s' => R (.error e) s') s := by
  have hlt : S < s.heap.objs.size := Heap.lt_size hS
  have hne : S ∉ [s.heap.objs.size] := fun hm => absurd hlt ((List.mem_singleton.mp hm) ▸ Nat.lt_irrefl _)
  unfold Builtin.List.listExtendWith
  refine wpAny_bind (wpAny_typeOf (T := "bytes") (v := .bytes b t) rfl ?_)
  have e1 : Builtin.List.listSameRef (.ref S) (.bytes b t) = false := rfl
  have e2 : (Value.type "bytes" == Value.type "list") = false := by decide
  have e3 : (Value.type "bytes" == Value.type "tuple") = false := by decide
  simp only [e1, e2, e3, Bool.or_false, Bool.false_eq_true, if_false]
  refine wpAny_bind (KBw.pyIter_bytes ?_)
  refine wpAny_bind (wpAny_holding ?_)
  unfold Builtin.List.listLengthHint
  refine wpAny_bind (wpAny_specialOf (T := "bytes") (v := .bytes b t) rfl FB.slot_bytes_len.lookup ?_)
  wp_delta
  refine wpAny_bind (wpAny_isInstance (T := "bytes") (v := .bytes b t) (b := true) rfl PySem.F.sub_bytes_bytes ?_)
  show wpAny _ _ (typeOf (Value.bytes b t) >>= _) _ _ _
  refine wpAny_bind (wpAny_typeOf (T := "bytes") (v := .bytes b t) rfl ?_)
  refine wpAny_pure ?_
  rw [if_neg (by decide)]
  have W := KBw.walks (prog := prog) (w := w) (A := A.in1) hh s.heap.objs.size b t
  refine wpAny_pure ⟨plainId_quiet PySem.F.plain_extend_loop _, codeAny_extend_loopS W.toS hn _ hne _ b.size 0 _ _ _ rfl (Nat.zero_le _) ⟨_, Heap.get?_push_size _ rfl, rfl, rfl⟩ (Heap.get?_push_of_some _ hS) (ItemsOf.nil _) fun s' acc c hm hS' hacc => ?_⟩
  rw [Moved.eq_with hm]
  refine hR s'.heap s'.toks acc c (fun a o ha e => hm.heap a o (fun hmem => ?_) (Heap.get?_push_of_some _ e)) hS' hacc
  rcases List.mem_cons.mp hmem with e' | hmem
  · exact ha e'
  · exact absurd (Heap.lt_size e) ((List.mem_singleton.mp hmem) ▸ Nat.lt_irrefl _)
theorem init_bytes {R : Result → Shared → Prop} (hh : A.handled = none) (b : Array UInt8) (t : Tok) (S : Addr) (hS : s.heap.get? S = some (lstA #[] 0)) (hn : b.size ≤ sizeLine)
    (hR : ∀ h' tk acc c, (∀ a o, a ≠ S → s.heap.get? a = some o → h'.get? a = some o) → h'.get? S = some (lstA acc c) → ItemsOf (ByteAt b) acc b.size → R (.ok (.ret .none)) { s with heap := h', toks := tk }) :
    wpAny (model prog w) A.in1 (Builtin.«list.__init__» ⟨[.ref S, .bytes b t], []⟩)
      (fun fin s' => match fin with | .done f => R (.ok f) s' | .again c => c.quiet = true ∧ codeAny (model prog w) A c R s') (fun e s' => R (.error e) s') s := by
  show wpAny _ _ (do let old ← Builtin.List.listItems (.ref S); Builtin.List.listUpdate (.ref S) (fun _ => #[]); letGo old.toList.reverse; Builtin.List.listExtendWith (.ref S) (.bytes b t) .none) _ _ s
  refine wpAny_bind ?_
  unfold Builtin.List.listItems
  refine wpAny_bind (wpAny_seqItems hS rfl (wpAny_pure ?_))
  show wpAny _ _ (updateSeq S (fun _ => #[]) >>= fun _ => letGo (#[] : Array Value).toList.reverse >>= fun _ => Builtin.List.listExtendWith (.ref S) (.bytes b t) .none) _ _ s
  refine wpAny_bind (wpAny_updateSeq hS rfl ?_)
  refine wpAny_bind (wpAny_letGo ?_)
  refine extend_bytes hh b t S .none _ (Heap.get?_update_self (Obj.mapSeq (fun _ => (#[] : Array Value))) hS rfl) hn fun h' tk acc c hk hS' hacc => ?_
  exact hR h' tk acc c (fun a o ha e => hk a o ha ((Heap.get?_update_other _ _ (Ne.symm ha)).trans e)) hS' hacc
theorem call_list_bytes {Q : Value → Shared → Prop} (hh : A.handled = none) (b : Array UInt8) (t : Tok) (hn : b.size ≤ sizeLine)
    (hQ : ∀ h' tk acc c, (∀ a o, s.heap.get? a = some o → h'.get? a = some o) → h'.get? s.heap.objs.size = some (lstA acc c) → ItemsOf (ByteAt b) acc b.size → Q (.ref s.heap.objs.size) { s with heap := h', toks := tk }) :
    wpAny (model prog w) A (call (.type "list") [.bytes b t]) Q E s := by
  refine callType_codes (Q₁ := fun obj s₁ => obj = .ref s.heap.objs.size ∧ s₁ = { s with heap := s.heap.push { cls := .type "list", data := .seq #[] } }) PySem.F.called_list (PySem.F.typeCall_list_1 _) PySem.F.entry_list_init
    (code_list_new _ ⟨rfl, rfl⟩) fun obj s₁ h₁ => ?_
  obtain ⟨rfl, rfl⟩ := h₁
  have hS : (s.heap.push { cls := .type "list", data := .seq #[] }).get? s.heap.objs.size = some (lstA #[] 0) := Heap.get?_push_size _ rfl
  refine ⟨⟨_, hS, rfl⟩, PySem.F.args_list_init_2 _ _, init_bytes (A := A.in1) hh b t _ hS hn fun h' tk acc c hk hS' hacc => ?_⟩
  exact ⟨rfl, hQ h' tk acc c (fun a o e => hk a o (Nat.ne_of_lt (Heap.lt_size e)) (Heap.get?_push_of_some _ e)) hS' hacc⟩
theorem byte_ints : ∀ (vs : List Value) (l : List Nat), Small l → vs.length = l.length → (∀ (j : Nat) (v : Value), vs[j]? = some v → ByteAt (mkB l) j v) → IntsAre vs (IN l)
  | [], [], _, _, _ => IntsAre.nil
  | [], _ :: _, _, h, _ => by cases h
  | _ :: _, [], _, h, _ => by cases h
  | v :: vs, c :: l, hs, h, hv => by
    obtain ⟨x, u, hx, rfl⟩ := hv 0 v rfl
    have e : (UInt8.ofNat c).toNat = c := by
      have h8 : c < 256 := hs c (.head _)
      simp
      omega
    have hx2 : UInt8.ofNat c = x := by
      unfold mkB at hx
      simpa using hx
    subst hx2
    rw [e]
    refine IntsAre.cons _ _ (byte_ints vs l (fun y hy => hs y (.tail _ hy)) (by simpa using h) fun j v2 hj => ?_)
    obtain ⟨x2, u2, hx3, rfl⟩ := hv (j + 1) v2 (by simpa using hj)
    refine ⟨x2, u2, ?_, rfl⟩
    unfold mkB at hx3 ⊢
    simpa using hx3
theorem list_B {h₀ : Heap} {L : Addr} {m : Str → Option Value} {news : List (Addr × Obj)} {Q : Value → Shared → Prop} {l : List Nat} {t : Tok} (F : Fr h₀ L s.heap m) (N : News h₀ L s.heap news) (hh : A.handled = none) (hs : Small l) (hz : l.length ≤ 16384)
    (h : ∀ D vs c h' tk, Fr h₀ L h' m → News h₀ L h' ((D, listOf (List.toArray vs) c) :: news) → (∀ p ∈ news, p.1 < D) → IntsAre vs (IN l) → Q (.ref D) { s with heap := h', toks := tk }) : wpAny (model prog w) A (call (.type "list") [.bytes (mkB l) t]) Q E s := by
  refine call_list_bytes hh _ _ (by rw [sizeLine_eq]; unfold mkB; simp; omega) fun h' tk acc c hk hD hI => ?_
  have hD' : h'.get? s.heap.objs.size = some (listOf (List.toArray acc.toList) c) := by
    rw [Array.toArray_toList]; exact hD
  refine h _ acc.toList c h' tk (F.keeps hk) (news_pushed F N hk hD' rfl) (fun p hp => Heap.lt_size (N p hp).1) (byte_ints _ _ hs ?_ fun j v hj => hI.2 j v (by rw [← hj, Array.getElem?_toList]))
  rw [Array.length_toList, hI.1]
  unfold mkB
  simp
end
end Mine
namespace Mine
theorem normL_len (l : List Nat) : (normL l).length ≤ l.length + 4 := by
  have h1 := wt_join 47 (ncomps l)
  have h2 := ncomps_wt l
  have h3 := rootL_length l
  unfold normL
  split
  · simp
  · split
    · simp
    · rw [List.length_append]; omega
theorem normL_small {l : List Nat} (hs : Small l) : Small (normL l) := by
  unfold normL
  split
  · exact Small.one (by decide)
  · split
    · exact Small.one (by decide)
    · exact small_norm hs
theorem by8_pos (l : List Nat) : ∀ c ∈ l.map by8, 1 ≤ c := by
  intro c hc
  obtain ⟨x, _, rfl⟩ := List.mem_map.mp hc
  have := by8_bd x
  unfold by8; omega
theorem codes_IN (l : List Nat) : ((l.filter fun _ => true).map fun c : Nat => (c : Int)) = IN l := by
  rw [List.filter_eq_self.mpr (fun _ _ => rfl)]; rfl
end Mine
namespace Mine
set_option compiler.extract_closed false
set_option linter.all false
local macro_rules | `(tactic| walk_at "kk lit2") => `(tactic| (first | with_reducible rfl | with_reducible exact lit_slash | with_reducible exact lit_dot))
local macro_rules | `(tactic| walk_at "kk LITS") => `(tactic| (first | with_reducible rfl | with_reducible exact lit_slash | with_reducible exact lit_dot | with_reducible exact lit_dd | with_reducible exact lit_nil))
local macro_rules | `(tactic| walk_at "kk litsB") => `(tactic| (first | with_reducible rfl | with_reducible exact lit_slashB | with_reducible exact lit_dotB | with_reducible exact lit_ddB | with_reducible exact lit_nilB))
local macro_rules | `(tactic| walk_at "kk smB") => `(tactic| (first | with_reducible assumption | exact Small.sl (by with_reducible assumption) _ _ | (unfold Small; decide)))
local macro_rules | `(tactic| walk_at "kk LNT") => `(tactic| (first | omega | ((simp only [List.length_append, List.length_take, List.length_drop, List.length_cons, List.length_nil, List.length_replicate, List.length_reverse]); omega)))
local macro_rules | `(tactic| walk_at "kk INS") => `(tactic| (first | with_reducible assumption | exact strs_lit0 _ | with_reducible exact strs_one _ _ | with_reducible exact strs_nil | with_reducible exact strs_snocS (by with_reducible assumption) | with_reducible exact strs_consS (by with_reducible assumption) | exact strs_snocG (by with_reducible assumption) lit_nil))
local macro_rules | `(tactic| walk_at "kk MEM") => `(tactic| ((repeat (first | (with_reducible assumption) | (with_reducible exact List.mem_cons_self ..) | (with_reducible refine List.mem_cons_of_mem _ ?_)))))
local macro_rules | `(tactic| walk_at "kk INSB") => `(tactic| (first | with_reducible assumption))
local macro_rules | `(tactic| walk_at "kk SMALL") => `(tactic| (first | with_reducible assumption | with_reducible exact Small.sl (by with_reducible assumption) _ _ | with_reducible exact Small.head (by with_reducible assumption) | with_reducible exact Small.tl (by with_reducible assumption) | with_reducible exact Small.nil | with_reducible exact Small.one (by decide) | (unfold Small; decide)))
local macro_rules | `(tactic| walk_at "kk SMALL2") => `(tactic| (first | with_reducible assumption | with_reducible exact Small.sl (by with_reducible assumption) _ _ | with_reducible exact Small.head (by with_reducible assumption) | with_reducible exact Small.tl (by with_reducible assumption) | with_reducible exact Small.tk (by with_reducible assumption) _ | with_reducible exact Small.dr (by with_reducible assumption) _ | with_reducible exact Small.nil | with_reducible exact Small.one (by decide) | (unfold Small; decide)))
local macro_rules | `(tactic| walk_at "kk LNF") => `(tactic| (first | omega | ((simp only [List.length_append, List.length_take, List.length_drop, List.length_cons, List.length_nil]); omega)))
local macro_rules | `(tactic| walk_at "kk INF") => `(tactic| (first | with_reducible assumption | exact IntsAre.one' _ _ | exact IntsAre.one46 _ | exact IntsAre.nil'))
local macro_rules | `(tactic| walk_at "kk nat") => `(tactic| (first | with_reducible rfl | exact succ_cast _ | exact one_cast | rfl))
/-! the walk's own lines -/
local macro_rules | `(tactic| k_room) => `(tactic| ktr_room)
local macro_rules | `(tactic| k_units) => `(tactic| ktr_units)
local macro_rules | `(tactic| walk_at "call builtin:issubclass") => `(tactic| (k_here; (first | (with_reducible show wpAny _ _ (call (Value.builtin _) [Value.type "str", Value.ref _]) _ _ _) | (with_reducible show wpAny _ _ (call (Value.builtin _) [Value.type "bytes", Value.ref _]) _ _ _)); refine Stop.of ?_))
local macro_rules | `(tactic| walk_at "getMethod bytes") => `(tactic| (k_here; first | with_reducible refine meth_rfind ?_ | with_reducible refine meth_rstrip ?_ | with_reducible refine meth_split ?_ | with_reducible refine meth_join ?_ | with_reducible refine meth_startswith ?_ | with_reducible refine meth_endswith ?_))
local macro_rules | `(tactic| walk_at "truthy str") => `(tactic| (k_here; (with_reducible show wpAny _ _ (truthy (Value.str (mkS _) _)) _ _ _); refine Stop.of ?_))
local macro_rules | `(tactic| walk_at "truthy bytes") => `(tactic| (k_here; (with_reducible show wpAny _ _ (truthy (Value.bytes (mkB _) _)) _ _ _); refine Stop.of ?_))
local macro_rules | `(tactic| walk_at "compareOp Eq str str") => `(tactic| (k_here; refine Stop.of ?_))
local macro_rules | `(tactic| walk_at "compareOp NotEq str str") => `(tactic| (k_here; refine Stop.of ?_))
local macro_rules | `(tactic| walk_at "compareOp Eq bytes bytes") => `(tactic| (k_here; refine Stop.of ?_))
local macro_rules | `(tactic| walk_at "compareOp NotEq bytes bytes") => `(tactic| (k_here; refine Stop.of ?_))
local macro_rules | `(tactic| walk_at "subscriptTail Name Slice str ref") => `(tactic| (k_here; (with_reducible show wpAny _ _ (subscriptTail _ (Expr.Slice _ _ none _) (Value.str (mkS _) _) (Value.ref _)) _ _ _); refine Stop.of ?_))
local macro_rules | `(tactic| walk_at "subscriptTail Name Slice bytes ref") => `(tactic| (k_here; (with_reducible show wpAny _ _ (subscriptTail _ (Expr.Slice _ _ none _) (Value.bytes (mkB _) _) (Value.ref _)) _ _ _); refine Stop.of ?_))
local macro_rules | `(tactic| walk_at "call type:type") => `(tactic| (k_here; (with_reducible show wpAny _ _ (call (Value.type "type") [Value.bytes _ _]) _ _ _); refine Stop.of ?_))
local macro_rules | `(tactic| walk_at "exec While Compare cons nil") => `(tactic| refine Stop.of ?_)
local macro_rules | `(tactic| walk_at "exec While BoolOp cons nil") => `(tactic| refine Stop.of ?_)
local macro_rules | `(tactic| walk_at "exec For Name Name cons nil") => `(tactic| refine Stop.of ?_)
local macro_rules | `(tactic| walk_at "exec For Name Call cons nil") => `(tactic| refine Stop.of ?_)
local macro_rules | `(tactic| walk_at "exec For Name Subscript cons nil") => `(tactic| refine Stop.of ?_)
local macro_rules | `(tactic| walk_at "pyIter ref") => `(tactic| ((with_reducible show wpAny _ _ (pyIter (Value.ref _)) (fun it s₂ => LoopAtV _ _ _ _ _ _ _ _ _ it s₂) _ _); refine Stop.of ?_))
local macro_rules | `(tactic| k_all) => `(tactic| first | exact off_mem (by assumption) | exact off_mem (And.right (by assumption)) | exact off_mem (And.right (And.right (by assumption))))
local macro_rules | `(tactic| walk_at "TurnPost") => `(tactic| (dsimp only [TurnPost]))
local macro_rules | `(tactic| walk_at "eval ListComp") => `(tactic| refine Stop.of ?_)
local macro_rules | `(tactic| walk_at "exec Assign cons ListComp") => `(tactic| refine Stop.of ?_)
local macro_rules | `(tactic| walk_at "call builtin:chr") => `(tactic| (k_here; (with_reducible show wpAny _ _ (call (Value.builtin "chr") [Value.int _ _]) _ _ _); refine Stop.of ?_))
local macro_rules | `(tactic| walk_at "call builtin:str.join") => `(tactic| refine Stop.of ?_)
local macro_rules | `(tactic| walk_at "call builtin:ord") => `(tactic| (k_here; (with_reducible show wpAny _ _ (call (Value.builtin "ord") [Value.str (mkS [_]) _]) _ _ _); refine Stop.of ?_))
local macro_rules | `(tactic| walk_at "call builtin:list.append") => `(tactic| (k_here; (with_reducible show wpAny _ _ (call (Value.builtin _) [Value.ref _, _]) _ _ _); refine Stop.of ?_))
local macro_rules | `(tactic| wrow_close) => `(tactic| first | ((with_reducible show KswEnd _ _ _ _ _ _ _ _ _ _ _ _); refine' stopG ?_) | ((with_reducible show TurnEnd _ _ _ _ _ _ _ _ _ _ _ _); refine' stopG ?_) | ((with_reducible show TurnPost _ _ _ _ _ _ _ _ _ _ _ _ _ _); dsimp only [TurnPost]) | (w_end; refine' goodStop ?_))
local macro_rules | `(tactic| kc_close) => `(tactic| (kc_bool; refine' goodStop ?_))
set_option maxHeartbeats 100000000 in
open_top hd for PySem.Challenge.rw_ko0129_05
theorem filled1 : (PySem.Challenge.rw_ko0129_05.prog, Mine.hd.heap_39) = (PySem.Challenge.rw_ko0129_05.prog, Mine.hd.heap_39) := by
  k_fill
  rfl
set_option maxRecDepth 100000 in
set_option maxHeartbeats 100000000 in
theorem fspath_S (news : List (Addr × Obj)) (l : List Nat) (t : Tok) : Spec PySem.Challenge.rw_ko0129_05.row.prog Mine.hd.view_39 Mine.hd.heap_39 94 4 20 [.str (mkS l) t] news (fun led v => led = [] ∧ v = .str (mkS l) t) := by
  w_top off
  unfold Spec
  intros
  rename_i hret
  refine wpAny_call ?_
  k_dflt cell_enter
  (k_steps; repeat' ((with_reducible refine Stop.un ?_); (first | (first | ((with_reducible show wpAny _ _ (call (Value.builtin _) [Value.type "str", Value.ref _]) _ _ _); refine issub_str (News.get (by assumption) (by k_mem)) ?_; intro tk9) | ((with_reducible show wpAny _ _ (call (Value.builtin _) [Value.type "bytes", Value.ref _]) _ _ _); refine issub_bytes (News.get (by assumption) (by k_mem)) ?_; intro tk9))); k_steps))
  all_goals exact hret [] _ _ _ ⟨rfl, rfl⟩ no_led (by k_asm) (cb_drop (by assumption) (by intro p hp; k_ownIn))
local macro_rules | `(tactic| walk_at "call ref") => `(tactic| (k_here; (with_reducible show wpAny _ _ (call (Value.ref 94) _) _ _ _); refine Stop.of ?_))
set_option maxRecDepth 100000 in
set_option maxHeartbeats 100000000 in
theorem fspath_B (news : List (Addr × Obj)) (l : List Nat) (t : Tok) : Spec PySem.Challenge.rw_ko0129_05.row.prog Mine.hd.view_39 Mine.hd.heap_39 94 4 20 [.bytes (mkB l) t] news (fun led v => led = [] ∧ v = .bytes (mkB l) t) := by
  w_top off
  unfold Spec
  intros
  rename_i hret
  refine wpAny_call ?_
  k_dflt cell_enter
  (k_steps; repeat' ((with_reducible refine Stop.un ?_); (first | ((with_reducible show wpAny _ _ (call (Value.type "type") [Value.bytes _ _]) _ _ _); k_dflt (refine' call_type_of (Tx := "bytes") (typeIs_bytes _ _ _) ?hbZq ?_; (case hbZq => decide); k_whole)) | (first | ((with_reducible show wpAny _ _ (call (Value.builtin _) [Value.type "str", Value.ref _]) _ _ _); refine issub_str (News.get (by assumption) (by k_mem)) ?_; intro tk9) | ((with_reducible show wpAny _ _ (call (Value.builtin _) [Value.type "bytes", Value.ref _]) _ _ _); refine issub_bytes (News.get (by assumption) (by k_mem)) ?_; intro tk9))); k_steps))
  all_goals exact hret [] _ _ _ ⟨rfl, rfl⟩ no_led (by k_asm) (cb_drop (by assumption) (by intro p hp; k_ownIn))
section
set_option maxRecDepth 100000 in
set_option maxHeartbeats 100000000 in
theorem splitroot_S (news : List (Addr × Obj)) (l : List Nat) (t : Tok) (hz : l.length ≤ 4096) : Spec PySem.Challenge.rw_ko0129_05.row.prog Mine.hd.view_39 Mine.hd.heap_39 101 8 60 [.str (mkS l) t] news (fun led v => ∃ (q : Addr) (t1 t2 t3 : Tok) (y1 y2 y3 : Str), v = .ref q ∧ led = [(q, tupO [.str y1 t1, .str y2 t2, .str y3 t3])] ∧ y1 = mkS [] ∧ y2 = mkS (rootL l) ∧ y3 = mkS (l.drop (rootL l).length)) := by
  w_top off
  unfold Spec
  intros
  rename_i hret
  refine wpAny_call ?_
  k_dflt cell_enter
  (k_steps; repeat' ((with_reducible refine Stop.un ?_); (first | ((with_reducible show wpAny _ _ (call (Value.ref 94) [Value.str (mkS _) _]) _ _ _); k_dflt (refine' Spec.use2 (by k_asm) (by k_asm) (by k_asm) (by k_asm) (by k_asm) (by first | exact rfl | assumption) (fspath_S _ _ _) (by ktr_room) (by ktr_units) ?_; k_whole); intro led' v' h' tk' hR' hfr' F' N'; (obtain ⟨hL', hV'⟩ := hR'); subst hL' hV'; (try simp only [List.nil_append, List.cons_append] at F' N'); (try clear hfr'); k_sweep) | ((with_reducible show wpAny _ _ (subscriptTail _ (Expr.Slice _ _ none _) (Value.str (mkS _) _) (Value.ref _)) _ _ _); (with_reducible rename Fr _ _ _ _ => F'); (with_reducible rename News _ _ _ _ => N'); k_dflt (refine' slice_S (s := ⟨_, _, _, _, _⟩) F' N' ?h1Zq ?h2Zq ?hzZq ?_; (case h1Zq => constructor); (case h2Zq => constructor); (case hzZq => omega); k_whole); intro h' t' tk' F' N' hlen'; (try k_sweep)) | ((with_reducible show wpAny _ _ (compareOp CmpOp.NotEq (Value.str _ _) (Value.str _ _)) _ _ _); k_dflt (refine' ne_S ?hxZq ?hyZq ?_; (case hxZq => walk_at "kk LITS"); (case hyZq => walk_at "kk LITS"); k_whole)) | ((with_reducible show wpAny _ _ (compareOp CmpOp.Eq (Value.str _ _) (Value.str _ _)) _ _ _); k_dflt (refine' eq_S ?hxZq ?hyZq ?_; (case hxZq => walk_at "kk LITS"); (case hyZq => walk_at "kk LITS"); k_whole))); k_steps))
  all_goals (refine hret_one hret (by assumption) (by assumption) ⟨_, _, _, _, _, _, _, rfl, rfl, ?_, ?_, ?_⟩ (by first | assumption | exact allLt_mem (by assumption) | exact allLt_mem (And.right (by assumption)) | exact allLt_mem (And.right (And.right (by assumption))) | exact allLt_mem (And.right (And.right (And.right (by assumption))))) (by intro p hp; k_ownIn))
  all_goals first
    | exact lit_nil
    | (rw [root_0 (by with_reducible assumption)]; exact lit_nil)
    | (rw [root_0 (by with_reducible assumption)]; rfl)
    | (rw [root_1 (by with_reducible assumption) (by with_reducible assumption)]; exact lit_slash)
    | (rw [root_1b (by with_reducible assumption) (by with_reducible assumption)]; exact lit_slash)
    | (rw [root_1 (by with_reducible assumption) (by with_reducible assumption), pySl1]; rfl)
    | (rw [root_1b (by with_reducible assumption) (by with_reducible assumption), pySl1]; rfl)
    | (rw [root_2 (by with_reducible assumption) (by with_reducible assumption) (by with_reducible assumption), two_take (by with_reducible assumption) (by with_reducible assumption)])
    | (rw [root_2 (by with_reducible assumption) (by with_reducible assumption) (by with_reducible assumption), pySl2]; rfl)
local macro_rules | `(tactic| walk_at "call ref") => `(tactic| (k_here; (with_reducible show wpAny _ _ (call (Value.ref 101) _) _ _ _); refine Stop.of ?_))
local macro_rules | `(tactic| walk_at "call builtin:str.split") => `(tactic| (k_here; (with_reducible show wpAny _ _ (call (Value.builtin "str.split") [Value.str (mkS _) _, Value.str _ _]) _ _ _); refine Stop.of ?_))
local macro_rules | `(tactic| walk_at "call builtin:list.append") => `(tactic| (k_here; (with_reducible show wpAny _ _ (call (Value.builtin _) [Value.ref _, Value.str _ _]) _ _ _); refine Stop.of ?_))
local macro_rules | `(tactic| walk_at "truthy ref") => `(tactic| (k_here; (with_reducible show wpAny _ _ (truthy (Value.ref _)) _ _ _); refine Stop.of ?_))
local macro_rules | `(tactic| walk_at "subscriptTail Name UnaryOp ref int") => `(tactic| (k_here; (show wpAny _ _ (subscriptTail _ _ (Value.ref _) (Value.int (-1) _)) _ _ _); refine Stop.of ?_))
local macro_rules | `(tactic| walk_at "call builtin:list.pop") => `(tactic| (k_here; (with_reducible show wpAny _ _ (call (Value.builtin _) [Value.ref _]) _ _ _); refine Stop.of ?_))
local macro_rules | `(tactic| walk_at "call builtin:str.join") => `(tactic| (k_here; (with_reducible show wpAny _ _ (call (Value.builtin _) [Value.str _ _, Value.ref _]) _ _ _); refine Stop.of ?_))
local macro_rules | `(tactic| walk_at "binaryOp Add str str") => `(tactic| (k_here; (show wpAny _ _ (binaryOp Operator.Add (Value.str (mkS _) _) (Value.str _ _)) _ _ _); refine Stop.of ?_))
set_option maxRecDepth 100000 in
set_option maxHeartbeats 100000000 in
theorem normpath_S (news : List (Addr × Obj)) (l : List Nat) (t : Tok) (hz : l.length ≤ 2000) : Spec PySem.Challenge.rw_ko0129_05.row.prog Mine.hd.view_39 Mine.hd.heap_39 108 20 120 [.str (mkS l) t] news (fun led v => led = [] ∧ ∃ (y : Str) (t : Tok), v = .str y t ∧ y = mkS (normL l)) := by
  w_top off
  unfold Spec
  intros
  rename_i hret
  refine wpAny_call ?_
  k_dflt cell_enter
  (k_steps; repeat' ((with_reducible refine Stop.un ?_); (first | ((with_reducible show wpAny _ _ (binaryOp _ _ _) _ _ _); (show wpAny _ _ (binaryOp Operator.Add (Value.str (mkS _) _) (Value.str _ _)) _ _ _); k_dflt (refine' add_S ?hxZq ?hyZq ?hzZq ?h2Zq ?_; (case hxZq => with_reducible rfl); (case hyZq => first | with_reducible rfl | exact (mkS_eta _).symm); (case hzZq => walk_at "kk LNT"); (case h2Zq => first | omega | (exact Nat.le_trans (by with_reducible assumption) (by omega)) | ((simp only [List.length_cons, List.length_nil, cps_len]); omega)); k_whole); intro t' tk') | ((with_reducible show wpAny _ _ (call (Value.builtin _) [Value.str _ _, Value.ref _]) _ _ _); k_dflt (refine' join_S ?NZq ?yZq ?mZq ?iZq ?zZq ?_; (case NZq => k_asm); (case yZq => walk_at "kk LITS"); (case mZq => walk_at "kk MEM"); (case iZq => walk_at "kk INS"); (case zZq => first | with_reducible assumption | omega); k_whole); intro t' tk') | ((with_reducible show wpAny _ _ (call (Value.builtin _) [Value.ref _]) _ _ _); k_dflt (refine' pop_T ?FZq ?NZq ?iZq ?pZq ?UZq ?zZq ?_; (case FZq => k_asm); (case NZq => k_asm); (case iZq => walk_at "kk INS"); (case pZq => walk_at "kk INSB"); (case UZq => k_upd); (case zZq => walk_at "kk LNT"); k_whole); intro h' q' t' F' N'; (try k_sweep)) | ((with_reducible show wpAny _ _ (subscriptTail _ _ _ _) _ _ _); (show wpAny _ _ (subscriptTail _ _ (Value.ref _) (Value.int (-1) _)) _ _ _); k_dflt (refine' itemLast_T ?NZq ?mZq ?iZq ?pZq ?zZq ?_ ?hsZq ?htZq; (case NZq => k_asm); (case mZq => walk_at "kk MEM"); (case iZq => walk_at "kk INS"); (case pZq => walk_at "kk INSB"); (case zZq => walk_at "kk LNT"); (case hsZq => with_unfolding_all rfl); (case htZq => (intro _; with_unfolding_all rfl)); k_whole); intro q' t' hq') | ((with_reducible show wpAny _ _ (truthy (Value.ref _)) _ _ _); k_dflt (refine' truthy_V ?NZq ?mZq ?lZq ?zZq ?_; (case NZq => k_asm); (case mZq => walk_at "kk MEM"); (case lZq => exact strs_len (by walk_at "kk INS")); (case zZq => walk_at "kk LNT"); k_whole); intro tk') | ((with_reducible show wpAny _ _ (call (Value.builtin _) [Value.ref _, Value.str _ _]) _ _ _); k_dflt (refine' append_V ?FZq ?NZq ?UZq ?zZq ?_; (case FZq => k_asm); (case NZq => k_asm); (case UZq => k_upd); (case zZq => first | omega | ((rw [strs_len (by with_reducible assumption)]); (walk_at "kk LNT"))); k_whole); intro h' F' N'; (try k_sweep)) | ((with_reducible show wpAny _ _ (call (Value.builtin "str.split") [Value.str (mkS _) _, Value.str _ _]) _ _ _); k_dflt (refine' strSplit_S ?FZq ?NZq ?yZq ?zZq ?_; (case FZq => k_asm); (case NZq => k_asm); (case yZq => walk_at "kk LITS"); (case zZq => walk_at "kk LNT"); k_whole); intro D' us' h' tk' hS' F' N' l1; (try k_lt l1); (try k_sweep)) | ((with_reducible show wpAny _ _ (call (Value.ref 101) [Value.str (mkS _) _]) _ _ _); k_dflt (refine' Spec.use2 (by k_asm) (by k_asm) (by k_asm) (by k_asm) (by k_asm) (by first | exact rfl | assumption) (splitroot_S _ _ _ ?p1Zq) (by ktr_room) (by ktr_units) ?_; (case p1Zq => first | omega | (rw [List.length_drop]; omega)); k_whole); intro led' v' h' tk' hR' hfr' F' N'; (obtain ⟨q', t1', t2', t3', y1', y2', y3', hV', hL', hX', hY', hZ'⟩ := hR'); subst hV' hL' hX' hY' hZ'; (have hfr2 := hfr' _ (List.Mem.head _)); (try k_lt hfr2); (try simp only [List.nil_append, List.cons_append] at F' N'); (try clear hfr'); k_sweep) | ((with_reducible show wpAny _ _ (call (Value.ref 94) [Value.str (mkS _) _]) _ _ _); k_dflt (refine' Spec.use2 (by k_asm) (by k_asm) (by k_asm) (by k_asm) (by k_asm) (by first | exact rfl | assumption) (fspath_S _ _ _) (by ktr_room) (by ktr_units) ?_; k_whole); intro led' v' h' tk' hR' hfr' F' N'; (obtain ⟨hL', hV'⟩ := hR'); subst hL' hV'; (try simp only [List.nil_append, List.cons_append] at F' N'); (try clear hfr'); k_sweep) | ((with_reducible show wpAny _ _ (compareOp CmpOp.NotEq (Value.str _ _) (Value.str _ _)) _ _ _); k_dflt (refine' ne_S ?hxZq ?hyZq ?_; (case hxZq => walk_at "kk LITS"); (case hyZq => walk_at "kk LITS"); k_whole)) | ((with_reducible show wpAny _ _ (compareOp CmpOp.Eq (Value.str _ _) (Value.str _ _)) _ _ _); k_dflt (refine' eq_S ?hxZq ?hyZq ?_; (case hxZq => walk_at "kk LITS"); (case hyZq => walk_at "kk LITS"); k_whole)) | ((with_reducible show wpAny _ _ (truthy (Value.str (mkS _) _)) _ _ _); k_dflt (refine' truthy_S ?hzZq ?_; (case hzZq => omega); k_whole))); k_steps))
  · unfold Stop
    refine For_invVF (by assumption) rfl rfl ?_
    (k_steps; repeat' ((with_reducible refine Stop.un ?_); (first | ((with_reducible show wpAny _ _ (binaryOp _ _ _) _ _ _); (show wpAny _ _ (binaryOp Operator.Add (Value.str (mkS _) _) (Value.str _ _)) _ _ _); k_dflt (refine' add_S ?hxZq ?hyZq ?hzZq ?h2Zq ?_; (case hxZq => with_reducible rfl); (case hyZq => first | with_reducible rfl | exact (mkS_eta _).symm); (case hzZq => walk_at "kk LNT"); (case h2Zq => first | omega | (exact Nat.le_trans (by with_reducible assumption) (by omega)) | ((simp only [List.length_cons, List.length_nil, cps_len]); omega)); k_whole); intro t' tk') | ((with_reducible show wpAny _ _ (call (Value.builtin _) [Value.str _ _, Value.ref _]) _ _ _); k_dflt (refine' join_S ?NZq ?yZq ?mZq ?iZq ?zZq ?_; (case NZq => k_asm); (case yZq => walk_at "kk LITS"); (case mZq => walk_at "kk MEM"); (case iZq => walk_at "kk INS"); (case zZq => first | with_reducible assumption | omega); k_whole); intro t' tk') | ((with_reducible show wpAny _ _ (call (Value.builtin _) [Value.ref _]) _ _ _); k_dflt (refine' pop_T ?FZq ?NZq ?iZq ?pZq ?UZq ?zZq ?_; (case FZq => k_asm); (case NZq => k_asm); (case iZq => walk_at "kk INS"); (case pZq => walk_at "kk INSB"); (case UZq => k_upd); (case zZq => walk_at "kk LNT"); k_whole); intro h' q' t' F' N'; (try k_sweep)) | ((with_reducible show wpAny _ _ (subscriptTail _ _ _ _) _ _ _); (show wpAny _ _ (subscriptTail _ _ (Value.ref _) (Value.int (-1) _)) _ _ _); k_dflt (refine' itemLast_T ?NZq ?mZq ?iZq ?pZq ?zZq ?_ ?hsZq ?htZq; (case NZq => k_asm); (case mZq => walk_at "kk MEM"); (case iZq => walk_at "kk INS"); (case pZq => walk_at "kk INSB"); (case zZq => walk_at "kk LNT"); (case hsZq => with_unfolding_all rfl); (case htZq => (intro _; with_unfolding_all rfl)); k_whole); intro q' t' hq') | ((with_reducible show wpAny _ _ (truthy (Value.ref _)) _ _ _); k_dflt (refine' truthy_V ?NZq ?mZq ?lZq ?zZq ?_; (case NZq => k_asm); (case mZq => walk_at "kk MEM"); (case lZq => exact strs_len (by walk_at "kk INS")); (case zZq => walk_at "kk LNT"); k_whole); intro tk') | ((with_reducible show wpAny _ _ (call (Value.builtin _) [Value.ref _, Value.str _ _]) _ _ _); k_dflt (refine' append_V ?FZq ?NZq ?UZq ?zZq ?_; (case FZq => k_asm); (case NZq => k_asm); (case UZq => k_upd); (case zZq => first | omega | ((rw [strs_len (by with_reducible assumption)]); (walk_at "kk LNT"))); k_whole); intro h' F' N'; (try k_sweep)) | ((with_reducible show wpAny _ _ (call (Value.builtin "str.split") [Value.str (mkS _) _, Value.str _ _]) _ _ _); k_dflt (refine' strSplit_S ?FZq ?NZq ?yZq ?zZq ?_; (case FZq => k_asm); (case NZq => k_asm); (case yZq => walk_at "kk LITS"); (case zZq => walk_at "kk LNT"); k_whole); intro D' us' h' tk' hS' F' N' l1; (try k_lt l1); (try k_sweep)) | ((with_reducible show wpAny _ _ (call (Value.ref 101) [Value.str (mkS _) _]) _ _ _); k_dflt (refine' Spec.use2 (by k_asm) (by k_asm) (by k_asm) (by k_asm) (by k_asm) (by first | exact rfl | assumption) (splitroot_S _ _ _ ?p1Zq) (by ktr_room) (by ktr_units) ?_; (case p1Zq => first | omega | (rw [List.length_drop]; omega)); k_whole); intro led' v' h' tk' hR' hfr' F' N'; (obtain ⟨q', t1', t2', t3', y1', y2', y3', hV', hL', hX', hY', hZ'⟩ := hR'); subst hV' hL' hX' hY' hZ'; (have hfr2 := hfr' _ (List.Mem.head _)); (try k_lt hfr2); (try simp only [List.nil_append, List.cons_append] at F' N'); (try clear hfr'); k_sweep) | ((with_reducible show wpAny _ _ (call (Value.ref 94) [Value.str (mkS _) _]) _ _ _); k_dflt (refine' Spec.use2 (by k_asm) (by k_asm) (by k_asm) (by k_asm) (by k_asm) (by first | exact rfl | assumption) (fspath_S _ _ _) (by ktr_room) (by ktr_units) ?_; k_whole); intro led' v' h' tk' hR' hfr' F' N'; (obtain ⟨hL', hV'⟩ := hR'); subst hL' hV'; (try simp only [List.nil_append, List.cons_append] at F' N'); (try clear hfr'); k_sweep) | ((with_reducible show wpAny _ _ (compareOp CmpOp.NotEq (Value.str _ _) (Value.str _ _)) _ _ _); k_dflt (refine' ne_S ?hxZq ?hyZq ?_; (case hxZq => walk_at "kk LITS"); (case hyZq => walk_at "kk LITS"); k_whole)) | ((with_reducible show wpAny _ _ (compareOp CmpOp.Eq (Value.str _ _) (Value.str _ _)) _ _ _); k_dflt (refine' eq_S ?hxZq ?hyZq ?_; (case hxZq => walk_at "kk LITS"); (case hyZq => walk_at "kk LITS"); k_whole)) | ((with_reducible show wpAny _ _ (truthy (Value.str (mkS _) _)) _ _ _); k_dflt (refine' truthy_S ?hzZq ?_; (case hzZq => omega); k_whole))); k_steps))
    unfold Stop
    rename StrsAre _ (SL (splitL 47 _)) => hS
    refine' for_list (σ := List Value × Nat) (fun c => (_, listOf c.1.toArray c.2) :: _) (fun c => []) [] (fun i c => ∃ acc, StrsAre c.1 (SL acc) ∧ acc = ((splitL 47 (l.drop (rootL l).length)).take i).foldl (nstep (rootL l)) []) ([], 0) rfl ?h1 ?h2 ?h3 ?h4 ?h5 ?h6 ?turn ?done
    case h4 => exact cb_drop (by assumption) (fun p hp => hp)
    case h3 => assumption
    case h1 => exact News.isList (by assumption) (by (repeat (first | (with_reducible assumption) | (with_reducible exact List.mem_cons_self ..) | (with_reducible refine List.mem_cons_of_mem _ ?_))))
    case h2 => exact .inr ⟨_, fun c => by (repeat (first | (with_reducible assumption) | (with_reducible exact List.mem_cons_self ..) | (with_reducible refine List.mem_cons_of_mem _ ?_)))⟩
    case h5 => kst_all
    case h6 => exact ⟨[], strs_nil, rfl⟩
    case turn =>
      rintro ⟨ws, n⟩ i v u h tk I oI hi' hv ⟨acc, hA, hacc⟩ hne F' N'
      dsimp only at *
      obtain ⟨p, t9, hp, rfl⟩ := strs_at hS hv
      have hpl := splitL_len (List.mem_of_getElem? hp)
      rw [List.length_drop] at hpl
      have hsl := splitL_length 47 (l.drop (rootL l).length)
      rw [List.length_drop] at hsl
      have hus := strs_len hS
      have hal := fold_len (root := rootL l) (ps := (splitL 47 (l.drop (rootL l).length)).take i) (acc := [])
      rw [← hacc, List.length_take, List.length_nil] at hal
      have hal2 : acc.length ≤ 8192 := by omega
      have hwl := strs_len hA
      simp only [List.forall_mem_cons] at hne
      obtain ⟨n1, n3⟩ := hne
      have n2 : @Ne Nat _ _ := n1
      have hrl := rootL_length l
      (k_steps; repeat' ((with_reducible refine Stop.un ?_); (first | ((with_reducible show wpAny _ _ (binaryOp _ _ _) _ _ _); (show wpAny _ _ (binaryOp Operator.Add (Value.str (mkS _) _) (Value.str _ _)) _ _ _); k_dflt (refine' add_S ?hxZq ?hyZq ?hzZq ?h2Zq ?_; (case hxZq => with_reducible rfl); (case hyZq => first | with_reducible rfl | exact (mkS_eta _).symm); (case hzZq => walk_at "kk LNT"); (case h2Zq => first | omega | (exact Nat.le_trans (by with_reducible assumption) (by omega)) | ((simp only [List.length_cons, List.length_nil, cps_len]); omega)); k_whole); intro t' tk') | ((with_reducible show wpAny _ _ (call (Value.builtin _) [Value.str _ _, Value.ref _]) _ _ _); k_dflt (refine' join_S ?NZq ?yZq ?mZq ?iZq ?zZq ?_; (case NZq => k_asm); (case yZq => walk_at "kk LITS"); (case mZq => walk_at "kk MEM"); (case iZq => walk_at "kk INS"); (case zZq => first | with_reducible assumption | omega); k_whole); intro t' tk') | ((with_reducible show wpAny _ _ (call (Value.builtin _) [Value.ref _]) _ _ _); k_dflt (refine' pop_T ?FZq ?NZq ?iZq ?pZq ?UZq ?zZq ?_; (case FZq => k_asm); (case NZq => k_asm); (case iZq => walk_at "kk INS"); (case pZq => walk_at "kk INSB"); (case UZq => k_upd); (case zZq => walk_at "kk LNT"); k_whole); intro h' q' t' F' N'; (try k_sweep)) | ((with_reducible show wpAny _ _ (subscriptTail _ _ _ _) _ _ _); (show wpAny _ _ (subscriptTail _ _ (Value.ref _) (Value.int (-1) _)) _ _ _); k_dflt (refine' itemLast_T ?NZq ?mZq ?iZq ?pZq ?zZq ?_ ?hsZq ?htZq; (case NZq => k_asm); (case mZq => walk_at "kk MEM"); (case iZq => walk_at "kk INS"); (case pZq => walk_at "kk INSB"); (case zZq => walk_at "kk LNT"); (case hsZq => with_unfolding_all rfl); (case htZq => (intro _; with_unfolding_all rfl)); k_whole); intro q' t' hq') | ((with_reducible show wpAny _ _ (truthy (Value.ref _)) _ _ _); k_dflt (refine' truthy_V ?NZq ?mZq ?lZq ?zZq ?_; (case NZq => k_asm); (case mZq => walk_at "kk MEM"); (case lZq => exact strs_len (by walk_at "kk INS")); (case zZq => walk_at "kk LNT"); k_whole); intro tk') | ((with_reducible show wpAny _ _ (call (Value.builtin _) [Value.ref _, Value.str _ _]) _ _ _); k_dflt (refine' append_V ?FZq ?NZq ?UZq ?zZq ?_; (case FZq => k_asm); (case NZq => k_asm); (case UZq => k_upd); (case zZq => first | omega | ((rw [strs_len (by with_reducible assumption)]); (walk_at "kk LNT"))); k_whole); intro h' F' N'; (try k_sweep)) | ((with_reducible show wpAny _ _ (call (Value.builtin "str.split") [Value.str (mkS _) _, Value.str _ _]) _ _ _); k_dflt (refine' strSplit_S ?FZq ?NZq ?yZq ?zZq ?_; (case FZq => k_asm); (case NZq => k_asm); (case yZq => walk_at "kk LITS"); (case zZq => walk_at "kk LNT"); k_whole); intro D' us' h' tk' hS' F' N' l1; (try k_lt l1); (try k_sweep)) | ((with_reducible show wpAny _ _ (call (Value.ref 101) [Value.str (mkS _) _]) _ _ _); k_dflt (refine' Spec.use2 (by k_asm) (by k_asm) (by k_asm) (by k_asm) (by k_asm) (by first | exact rfl | assumption) (splitroot_S _ _ _ ?p1Zq) (by ktr_room) (by ktr_units) ?_; (case p1Zq => first | omega | (rw [List.length_drop]; omega)); k_whole); intro led' v' h' tk' hR' hfr' F' N'; (obtain ⟨q', t1', t2', t3', y1', y2', y3', hV', hL', hX', hY', hZ'⟩ := hR'); subst hV' hL' hX' hY' hZ'; (have hfr2 := hfr' _ (List.Mem.head _)); (try k_lt hfr2); (try simp only [List.nil_append, List.cons_append] at F' N'); (try clear hfr'); k_sweep) | ((with_reducible show wpAny _ _ (call (Value.ref 94) [Value.str (mkS _) _]) _ _ _); k_dflt (refine' Spec.use2 (by k_asm) (by k_asm) (by k_asm) (by k_asm) (by k_asm) (by first | exact rfl | assumption) (fspath_S _ _ _) (by ktr_room) (by ktr_units) ?_; k_whole); intro led' v' h' tk' hR' hfr' F' N'; (obtain ⟨hL', hV'⟩ := hR'); subst hL' hV'; (try simp only [List.nil_append, List.cons_append] at F' N'); (try clear hfr'); k_sweep) | ((with_reducible show wpAny _ _ (compareOp CmpOp.NotEq (Value.str _ _) (Value.str _ _)) _ _ _); k_dflt (refine' ne_S ?hxZq ?hyZq ?_; (case hxZq => walk_at "kk LITS"); (case hyZq => walk_at "kk LITS"); k_whole)) | ((with_reducible show wpAny _ _ (compareOp CmpOp.Eq (Value.str _ _) (Value.str _ _)) _ _ _); k_dflt (refine' eq_S ?hxZq ?hyZq ?_; (case hxZq => walk_at "kk LITS"); (case hyZq => walk_at "kk LITS"); k_whole)) | ((with_reducible show wpAny _ _ (truthy (Value.str (mkS _) _)) _ _ _); k_dflt (refine' truthy_S ?hzZq ?_; (case hzZq => omega); k_whole))); k_steps))
      all_goals try rw [StopG.eq]
      all_goals ((refine' turn_end (σ := List Value × Nat) (_, _) ?F ?N ?hn ?hI ?hne ?hk ?hr ?hp); (case F => with_reducible assumption); (case N => with_reducible assumption); (case hn => exact List.forall_mem_cons.mpr ⟨by (repeat (first | (with_reducible assumption) | (with_reducible exact List.mem_cons_self ..) | (with_reducible refine List.mem_cons_of_mem _ ?_))), by intro p hp; k_ownIn⟩); (case hI => (repeat (first | (with_reducible assumption) | (with_reducible exact List.mem_cons_self ..) | (with_reducible refine List.mem_cons_of_mem _ ?_)))); (case hne => (simp only [List.forall_mem_cons]; exact ⟨n1, n3⟩)); (case hk => kst_all); (case hr => intro z h1 h2 h3; (simp only [List.forall_mem_cons, List.not_mem_nil, false_implies, implies_true, and_true, ne_eq] at h2); first | (simp only [kstB, h1, h2, List.contains_nil, if_false, Bool.false_eq_true, reduceIte]; done) | ((have h4 := h3); (simp only [List.contains_cons, List.contains_nil, Bool.or_false, Bool.or_eq_false_iff, beq_eq_false_iff_ne, ne_eq] at h4); (simp only [kstB, h1, h2, h3, h4, if_false, Bool.false_eq_true, reduceIte]; done))); (case hp =>
        refine ⟨nstep (rootL l) acc p, ?_, (fold_take hp hacc).symm⟩
        dsimp only
        first
          | (rw [nstep_a (by first | with_reducible assumption | exact Decidable.not_not.mp (by with_reducible assumption) | exact not_not_intro (by with_reducible assumption))]; exact hA)
          | (rw [nstep_a' (by first | with_reducible assumption | exact Decidable.not_not.mp (by with_reducible assumption) | exact not_not_intro (by with_reducible assumption))]; exact hA)
          | (rw [nstep_b (by first | with_reducible assumption | exact Decidable.not_not.mp (by with_reducible assumption) | exact not_not_intro (by with_reducible assumption))]; exact hA)
          | (rw [nstep_c (by first | with_reducible assumption | exact Decidable.not_not.mp (by with_reducible assumption) | exact not_not_intro (by with_reducible assumption)) (by first | with_reducible assumption | exact Decidable.not_not.mp (by with_reducible assumption) | exact not_not_intro (by with_reducible assumption)) (by first | with_reducible assumption | exact Decidable.not_not.mp (by with_reducible assumption) | exact not_not_intro (by with_reducible assumption))]; exact strs_snocS hA)
          | (rw [nstep_d (by first | with_reducible assumption | exact Decidable.not_not.mp (by with_reducible assumption) | exact not_not_intro (by with_reducible assumption)) (by first | with_reducible assumption | exact Decidable.not_not.mp (by with_reducible assumption) | exact not_not_intro (by with_reducible assumption)) (by first | with_reducible assumption | exact Decidable.not_not.mp (by with_reducible assumption) | exact not_not_intro (by with_reducible assumption)) (by first | with_reducible assumption | exact Decidable.not_not.mp (by with_reducible assumption) | exact not_not_intro (by with_reducible assumption))]; exact strs_snocS hA)
          | (rw [nstep_e (by first | with_reducible assumption | exact Decidable.not_not.mp (by with_reducible assumption) | exact not_not_intro (by with_reducible assumption)) (by first | with_reducible assumption | exact Decidable.not_not.mp (by with_reducible assumption) | exact not_not_intro (by with_reducible assumption)) (by first | with_reducible assumption | exact Decidable.not_not.mp (by with_reducible assumption) | exact not_not_intro (by with_reducible assumption)) (by first | with_reducible assumption | exact Decidable.not_not.mp (by with_reducible assumption) | exact not_not_intro (by with_reducible assumption))]; exact strs_snocS hA)
          | (rw [nstep_f (by first | with_reducible assumption | exact Decidable.not_not.mp (by with_reducible assumption) | exact not_not_intro (by with_reducible assumption)) (by first | with_reducible assumption | exact Decidable.not_not.mp (by with_reducible assumption) | exact not_not_intro (by with_reducible assumption)) (by first | with_reducible assumption | exact Decidable.not_not.mp (by with_reducible assumption) | exact not_not_intro (by with_reducible assumption)) (by first | with_reducible assumption | exact Decidable.not_not.mp (by with_reducible assumption) | exact not_not_intro (by with_reducible assumption)) (by first | with_reducible assumption | exact Decidable.not_not.mp (by with_reducible assumption) | exact not_not_intro (by with_reducible assumption))]; exact strs_dropLast hA)
          | (rw [nstep_g (by first | with_reducible assumption | exact Decidable.not_not.mp (by with_reducible assumption) | exact not_not_intro (by with_reducible assumption)) (by first | with_reducible assumption | exact Decidable.not_not.mp (by with_reducible assumption) | exact not_not_intro (by with_reducible assumption)) (by first | with_reducible assumption | exact Decidable.not_not.mp (by with_reducible assumption) | exact not_not_intro (by with_reducible assumption)) (by first | with_reducible assumption | exact Decidable.not_not.mp (by with_reducible assumption) | exact not_not_intro (by with_reducible assumption)) (by first | with_reducible assumption | exact Decidable.not_not.mp (by with_reducible assumption) | exact not_not_intro (by with_reducible assumption))]; exact hA)))
    case done =>
      rintro ⟨ws, n⟩ u h tk ⟨acc, hA, hacc⟩ F' N'
      dsimp only at *
      have hus := strs_len hS
      have hac : acc = ncomps l := by rw [hacc, hus, List.take_length]; rfl
      subst hac
      have hw := ncomps_wt l
      have hw2 : wt (ncomps l) ≤ 16384 := by omega
      have hw3 := wt_join 47 (ncomps l)
      have hrl := rootL_length l
      have hw4 : (rootL l ++ joinL [47] (ncomps l)).length ≤ 2010 := by rw [List.length_append]; omega
      (k_steps; repeat' ((with_reducible refine Stop.un ?_); (first | ((with_reducible show wpAny _ _ (binaryOp _ _ _) _ _ _); (show wpAny _ _ (binaryOp Operator.Add (Value.str (mkS _) _) (Value.str _ _)) _ _ _); k_dflt (refine' add_S ?hxZq ?hyZq ?hzZq ?h2Zq ?_; (case hxZq => with_reducible rfl); (case hyZq => first | with_reducible rfl | exact (mkS_eta _).symm); (case hzZq => walk_at "kk LNT"); (case h2Zq => first | omega | (exact Nat.le_trans (by with_reducible assumption) (by omega)) | ((simp only [List.length_cons, List.length_nil, cps_len]); omega)); k_whole); intro t' tk') | ((with_reducible show wpAny _ _ (call (Value.builtin _) [Value.str _ _, Value.ref _]) _ _ _); k_dflt (refine' join_S ?NZq ?yZq ?mZq ?iZq ?zZq ?_; (case NZq => k_asm); (case yZq => walk_at "kk LITS"); (case mZq => walk_at "kk MEM"); (case iZq => walk_at "kk INS"); (case zZq => first | with_reducible assumption | omega); k_whole); intro t' tk') | ((with_reducible show wpAny _ _ (call (Value.builtin _) [Value.ref _]) _ _ _); k_dflt (refine' pop_T ?FZq ?NZq ?iZq ?pZq ?UZq ?zZq ?_; (case FZq => k_asm); (case NZq => k_asm); (case iZq => walk_at "kk INS"); (case pZq => walk_at "kk INSB"); (case UZq => k_upd); (case zZq => walk_at "kk LNT"); k_whole); intro h' q' t' F' N'; (try k_sweep)) | ((with_reducible show wpAny _ _ (subscriptTail _ _ _ _) _ _ _); (show wpAny _ _ (subscriptTail _ _ (Value.ref _) (Value.int (-1) _)) _ _ _); k_dflt (refine' itemLast_T ?NZq ?mZq ?iZq ?pZq ?zZq ?_ ?hsZq ?htZq; (case NZq => k_asm); (case mZq => walk_at "kk MEM"); (case iZq => walk_at "kk INS"); (case pZq => walk_at "kk INSB"); (case zZq => walk_at "kk LNT"); (case hsZq => with_unfolding_all rfl); (case htZq => (intro _; with_unfolding_all rfl)); k_whole); intro q' t' hq') | ((with_reducible show wpAny _ _ (truthy (Value.ref _)) _ _ _); k_dflt (refine' truthy_V ?NZq ?mZq ?lZq ?zZq ?_; (case NZq => k_asm); (case mZq => walk_at "kk MEM"); (case lZq => exact strs_len (by walk_at "kk INS")); (case zZq => walk_at "kk LNT"); k_whole); intro tk') | ((with_reducible show wpAny _ _ (call (Value.builtin _) [Value.ref _, Value.str _ _]) _ _ _); k_dflt (refine' append_V ?FZq ?NZq ?UZq ?zZq ?_; (case FZq => k_asm); (case NZq => k_asm); (case UZq => k_upd); (case zZq => first | omega | ((rw [strs_len (by with_reducible assumption)]); (walk_at "kk LNT"))); k_whole); intro h' F' N'; (try k_sweep)) | ((with_reducible show wpAny _ _ (call (Value.builtin "str.split") [Value.str (mkS _) _, Value.str _ _]) _ _ _); k_dflt (refine' strSplit_S ?FZq ?NZq ?yZq ?zZq ?_; (case FZq => k_asm); (case NZq => k_asm); (case yZq => walk_at "kk LITS"); (case zZq => walk_at "kk LNT"); k_whole); intro D' us' h' tk' hS' F' N' l1; (try k_lt l1); (try k_sweep)) | ((with_reducible show wpAny _ _ (call (Value.ref 101) [Value.str (mkS _) _]) _ _ _); k_dflt (refine' Spec.use2 (by k_asm) (by k_asm) (by k_asm) (by k_asm) (by k_asm) (by first | exact rfl | assumption) (splitroot_S _ _ _ ?p1Zq) (by ktr_room) (by ktr_units) ?_; (case p1Zq => first | omega | (rw [List.length_drop]; omega)); k_whole); intro led' v' h' tk' hR' hfr' F' N'; (obtain ⟨q', t1', t2', t3', y1', y2', y3', hV', hL', hX', hY', hZ'⟩ := hR'); subst hV' hL' hX' hY' hZ'; (have hfr2 := hfr' _ (List.Mem.head _)); (try k_lt hfr2); (try simp only [List.nil_append, List.cons_append] at F' N'); (try clear hfr'); k_sweep) | ((with_reducible show wpAny _ _ (call (Value.ref 94) [Value.str (mkS _) _]) _ _ _); k_dflt (refine' Spec.use2 (by k_asm) (by k_asm) (by k_asm) (by k_asm) (by k_asm) (by first | exact rfl | assumption) (fspath_S _ _ _) (by ktr_room) (by ktr_units) ?_; k_whole); intro led' v' h' tk' hR' hfr' F' N'; (obtain ⟨hL', hV'⟩ := hR'); subst hL' hV'; (try simp only [List.nil_append, List.cons_append] at F' N'); (try clear hfr'); k_sweep) | ((with_reducible show wpAny _ _ (compareOp CmpOp.NotEq (Value.str _ _) (Value.str _ _)) _ _ _); k_dflt (refine' ne_S ?hxZq ?hyZq ?_; (case hxZq => walk_at "kk LITS"); (case hyZq => walk_at "kk LITS"); k_whole)) | ((with_reducible show wpAny _ _ (compareOp CmpOp.Eq (Value.str _ _) (Value.str _ _)) _ _ _); k_dflt (refine' eq_S ?hxZq ?hyZq ?_; (case hxZq => walk_at "kk LITS"); (case hyZq => walk_at "kk LITS"); k_whole)) | ((with_reducible show wpAny _ _ (truthy (Value.str (mkS _) _)) _ _ _); k_dflt (refine' truthy_S ?hzZq ?_; (case hzZq => omega); k_whole))); k_steps))
      all_goals ((refine' hret [] _ _ _ ⟨rfl, _, _, rfl, ?hy⟩ no_led ?F (cb_drop ?N ?sub)); (case F => with_reducible assumption); (case N => with_reducible assumption); (case sub => (intro p hp; k_ownIn)); (case hy =>
        unfold normL
        first
          | rw [if_neg (by first | with_reducible assumption | exact Decidable.not_not.mp (by with_reducible assumption) | exact not_not_intro (by with_reducible assumption)), if_neg (by first | with_reducible assumption | exact Decidable.not_not.mp (by with_reducible assumption) | exact not_not_intro (by with_reducible assumption))]
          | (rw [if_neg (by first | with_reducible assumption | exact Decidable.not_not.mp (by with_reducible assumption) | exact not_not_intro (by with_reducible assumption)), if_pos (Decidable.not_not.mp (by first | with_reducible assumption | exact Decidable.not_not.mp (by with_reducible assumption) | exact not_not_intro (by with_reducible assumption)))]; exact lit_dot)
          | (rw [if_neg (by first | with_reducible assumption | exact Decidable.not_not.mp (by with_reducible assumption) | exact not_not_intro (by with_reducible assumption)), if_pos (by first | with_reducible assumption | exact Decidable.not_not.mp (by with_reducible assumption) | exact not_not_intro (by with_reducible assumption))]; exact lit_dot)))
  · (refine' hret [] _ _ _ ⟨rfl, _, _, rfl, ?hy⟩ no_led ?F (cb_drop ?N ?sub)); (case F => with_reducible assumption); (case N => with_reducible assumption); (case sub => (intro p hp; k_ownIn)); (case hy =>
      unfold normL
      first
        | (rw [if_pos (Decidable.not_not.mp (by first | with_reducible assumption | exact Decidable.not_not.mp (by with_reducible assumption) | exact not_not_intro (by with_reducible assumption)))]; exact lit_dot)
        | (rw [if_pos (by first | with_reducible assumption | exact Decidable.not_not.mp (by with_reducible assumption) | exact not_not_intro (by with_reducible assumption))]; exact lit_dot))
end
section
set_option maxRecDepth 100000 in
set_option maxHeartbeats 100000000 in
theorem splitroot_B (news : List (Addr × Obj)) (l : List Nat) (t : Tok) (hz : l.length ≤ 4096) (hs : Small l) : Spec PySem.Challenge.rw_ko0129_05.row.prog Mine.hd.view_39 Mine.hd.heap_39 101 8 60 [.bytes (mkB l) t] news (fun led v => ∃ (q : Addr) (t1 t2 t3 : Tok) (y1 y2 y3 : Array UInt8), v = .ref q ∧ led = [(q, tupO [.bytes y1 t1, .bytes y2 t2, .bytes y3 t3])] ∧ y1 = mkB [] ∧ y2 = mkB (rootL l) ∧ y3 = mkB (l.drop (rootL l).length)) := by
  w_top off
  unfold Spec
  intros
  rename_i hret
  refine wpAny_call ?_
  k_dflt cell_enter
  (k_steps; repeat' ((with_reducible refine Stop.un ?_); (first | ((with_reducible show wpAny _ _ (call (Value.ref 94) [Value.bytes (mkB _) _]) _ _ _); k_dflt (refine' Spec.use2 (by k_asm) (by k_asm) (by k_asm) (by k_asm) (by k_asm) (by first | exact rfl | assumption) (fspath_B _ _ _) (by ktr_room) (by ktr_units) ?_; k_whole); intro led' v' h' tk' hR' hfr' F' N'; (obtain ⟨hL', hV'⟩ := hR'); subst hL' hV'; (try simp only [List.nil_append, List.cons_append] at F' N'); (try clear hfr'); k_sweep) | ((with_reducible show wpAny _ _ (subscriptTail _ (Expr.Slice _ _ none _) (Value.bytes (mkB _) _) (Value.ref _)) _ _ _); (with_reducible rename Fr _ _ _ _ => F'); (with_reducible rename News _ _ _ _ => N'); k_dflt (refine' slice_B (s := ⟨_, _, _, _, _⟩) F' N' ?h1Zq ?h2Zq ?hzZq ?_; (case h1Zq => constructor); (case h2Zq => constructor); (case hzZq => omega); k_whole); intro h' t' tk' F' N' hlen'; (try k_sweep)) | ((with_reducible show wpAny _ _ (compareOp CmpOp.NotEq (Value.bytes _ _) (Value.bytes _ _)) _ _ _); k_dflt (refine' ne_B ?hxZq ?hyZq ?h1Zq ?h2Zq ?_; (case hxZq => walk_at "kk litsB"); (case hyZq => walk_at "kk litsB"); (case h1Zq => first | with_reducible assumption | exact Small.sl (by with_reducible assumption) _ _ | (unfold Small; decide) | exact Small.rep (by decide) _); (case h2Zq => first | with_reducible assumption | exact Small.sl (by with_reducible assumption) _ _ | (unfold Small; decide) | exact Small.rep (by decide) _); k_whole)) | ((with_reducible show wpAny _ _ (compareOp CmpOp.Eq (Value.bytes _ _) (Value.bytes _ _)) _ _ _); k_dflt (refine' eq_B ?hxZq ?hyZq ?h1Zq ?h2Zq ?_; (case hxZq => walk_at "kk litsB"); (case hyZq => walk_at "kk litsB"); (case h1Zq => walk_at "kk smB"); (case h2Zq => walk_at "kk smB"); k_whole))); k_steps))
  all_goals (refine hret_one hret (by assumption) (by assumption) ⟨_, _, _, _, _, _, _, rfl, rfl, ?_, ?_, ?_⟩ (by first | assumption | exact allLt_mem (by assumption) | exact allLt_mem (And.right (by assumption)) | exact allLt_mem (And.right (And.right (by assumption))) | exact allLt_mem (And.right (And.right (And.right (by assumption))))) (by intro p hp; k_ownIn))
  all_goals first
    | exact lit_nilB
    | (rw [root_0 (by with_reducible assumption)]; exact lit_nilB)
    | (rw [root_0 (by with_reducible assumption)]; rfl)
    | (rw [root_1 (by with_reducible assumption) (by with_reducible assumption)]; exact lit_slashB)
    | (rw [root_1b (by with_reducible assumption) (by with_reducible assumption)]; exact lit_slashB)
    | (rw [root_1 (by with_reducible assumption) (by with_reducible assumption), pySl1]; rfl)
    | (rw [root_1b (by with_reducible assumption) (by with_reducible assumption), pySl1]; rfl)
    | (rw [root_2 (by with_reducible assumption) (by with_reducible assumption) (by with_reducible assumption), two_take (by with_reducible assumption) (by with_reducible assumption)])
    | (rw [root_2 (by with_reducible assumption) (by with_reducible assumption) (by with_reducible assumption), pySl2]; rfl)
local macro_rules | `(tactic| walk_at "call ref") => `(tactic| (k_here; (with_reducible show wpAny _ _ (call (Value.ref 101) _) _ _ _); refine Stop.of ?_))
local macro_rules | `(tactic| walk_at "call builtin:bytes.split") => `(tactic| (k_here; (with_reducible show wpAny _ _ (call (Value.builtin "bytes.split") [Value.bytes (mkB _) _, Value.bytes _ _]) _ _ _); refine Stop.of ?_))
local macro_rules | `(tactic| walk_at "call builtin:list.append") => `(tactic| (k_here; (with_reducible show wpAny _ _ (call (Value.builtin _) [Value.ref _, Value.bytes _ _]) _ _ _); refine Stop.of ?_))
local macro_rules | `(tactic| walk_at "binaryOp Add bytes bytes") => `(tactic| (k_here; (with_reducible show wpAny _ _ (binaryOp Operator.Add (Value.bytes _ _) (Value.bytes (mkB _) _)) _ _ _); refine Stop.of ?_))
local macro_rules | `(tactic| walk_at "truthy ref") => `(tactic| (k_here; (with_reducible show wpAny _ _ (truthy (Value.ref _)) _ _ _); refine Stop.of ?_))
local macro_rules | `(tactic| walk_at "subscriptTail Name UnaryOp ref int") => `(tactic| (k_here; (show wpAny _ _ (subscriptTail _ _ (Value.ref _) (Value.int (-1) _)) _ _ _); refine Stop.of ?_))
local macro_rules | `(tactic| walk_at "call builtin:list.pop") => `(tactic| (k_here; (with_reducible show wpAny _ _ (call (Value.builtin _) [Value.ref _]) _ _ _); refine Stop.of ?_))
local macro_rules | `(tactic| walk_at "call builtin:bytes.join") => `(tactic| (k_here; (with_reducible show wpAny _ _ (call (Value.builtin _) [Value.bytes _ _, Value.ref _]) _ _ _); refine Stop.of ?_))
set_option maxRecDepth 100000 in
set_option maxHeartbeats 100000000 in
theorem normpath_B (news : List (Addr × Obj)) (l : List Nat) (t : Tok) (hz : l.length ≤ 2000) (hs : Small l) : Spec PySem.Challenge.rw_ko0129_05.row.prog Mine.hd.view_39 Mine.hd.heap_39 108 20 120 [.bytes (mkB l) t] news (fun led v => led = [] ∧ ∃ (y : Array UInt8) (t : Tok), v = .bytes y t ∧ y = mkB (normL l)) := by
  w_top off
  unfold Spec
  intros
  rename_i hret
  refine wpAny_call ?_
  k_dflt cell_enter
  (k_steps; repeat' ((with_reducible refine Stop.un ?_); (first | ((with_reducible show wpAny _ _ (call (Value.builtin _) [Value.bytes _ _, Value.ref _]) _ _ _); k_dflt (refine' join_B ?NZq ?yZq ?mZq ?iZq ?zZq ?_; (case NZq => k_asm); (case yZq => first | with_reducible exact lit_slashB | exact rfl); (case mZq => walk_at "kk MEM"); (case iZq => walk_at "kk INSB"); (case zZq => first | with_reducible assumption | omega); k_whole); intro t' tk') | ((with_reducible show wpAny _ _ (call (Value.builtin _) [Value.ref _]) _ _ _); k_dflt (refine' pop_Y ?FZq ?NZq ?iZq ?pZq ?UZq ?zZq ?_; (case FZq => k_asm); (case NZq => k_asm); (case iZq => walk_at "kk INSB"); (case pZq => walk_at "kk INSB"); (case UZq => k_upd); (case zZq => walk_at "kk LNT"); k_whole); intro h' q' t' F' N'; (try k_sweep)) | ((with_reducible show wpAny _ _ (subscriptTail _ _ _ _) _ _ _); (show wpAny _ _ (subscriptTail _ _ (Value.ref _) (Value.int (-1) _)) _ _ _); k_dflt (refine' itemLast_Y ?NZq ?mZq ?iZq ?pZq ?zZq ?_ ?hsZq ?htZq; (case NZq => k_asm); (case mZq => walk_at "kk MEM"); (case iZq => walk_at "kk INSB"); (case pZq => walk_at "kk INSB"); (case zZq => walk_at "kk LNT"); (case hsZq => with_unfolding_all rfl); (case htZq => (intro _; with_unfolding_all rfl)); k_whole); intro q' t' hq'; (try have hsq' := small_last (by with_reducible assumption) hq')) | ((with_reducible show wpAny _ _ (truthy (Value.ref _)) _ _ _); k_dflt (refine' truthy_V ?NZq ?mZq ?lZq ?zZq ?_; (case NZq => k_asm); (case mZq => walk_at "kk MEM"); (case lZq => exact bys_len (by walk_at "kk INSB")); (case zZq => walk_at "kk LNT"); k_whole); intro tk') | ((with_reducible show wpAny _ _ (binaryOp Operator.Add (Value.bytes _ _) (Value.bytes (mkB _) _)) _ _ _); k_dflt (refine' add_B ?hxZq ?hyZq ?hzZq ?h2Zq ?_; (case hxZq => first | with_reducible rfl | exact rfl); (case hyZq => with_reducible rfl); (case hzZq => walk_at "kk LNT"); (case h2Zq => first | omega | (exact Nat.le_trans (by with_reducible assumption) (by omega))); k_whole); intro t' tk') | ((with_reducible show wpAny _ _ (call (Value.builtin _) [Value.ref _, Value.bytes _ _]) _ _ _); k_dflt (refine' append_V ?FZq ?NZq ?UZq ?zZq ?_; (case FZq => k_asm); (case NZq => k_asm); (case UZq => k_upd); (case zZq => first | omega | ((rw [bys_len (by with_reducible assumption)]); (walk_at "kk LNT"))); k_whole); intro h' F' N'; (try k_sweep)) | ((with_reducible show wpAny _ _ (call (Value.builtin "bytes.split") [Value.bytes (mkB _) _, Value.bytes _ _]) _ _ _); k_dflt (refine' bsplit_B ?FZq ?NZq ?hsZq ?yZq ?cZq ?zZq ?_; (case FZq => k_asm); (case NZq => k_asm); (case hsZq => walk_at "kk SMALL2"); (case yZq => first | with_reducible exact lit_slashB | exact rfl); (case cZq => decide); (case zZq => walk_at "kk LNT"); k_whole); intro D' us' h' tk' hS' F' N' l1; (try k_lt l1); (try k_sweep)) | ((with_reducible show wpAny _ _ (call (Value.ref 101) [Value.bytes (mkB _) _]) _ _ _); k_dflt (refine' Spec.use2 (by k_asm) (by k_asm) (by k_asm) (by k_asm) (by k_asm) (by first | exact rfl | assumption) (splitroot_B _ _ _ ?p1Zq ?p2Zq) (by ktr_room) (by ktr_units) ?_; (case p1Zq => first | omega | (rw [List.length_drop]; omega)); (case p2Zq => walk_at "kk SMALL"); k_whole); intro led' v' h' tk' hR' hfr' F' N'; (obtain ⟨q', t1', t2', t3', y1', y2', y3', hV', hL', hX', hY', hZ'⟩ := hR'); subst hV' hL' hX' hY' hZ'; (have hfr2 := hfr' _ (List.Mem.head _)); (try k_lt hfr2); (try simp only [List.nil_append, List.cons_append] at F' N'); (try clear hfr'); k_sweep) | ((with_reducible show wpAny _ _ (call (Value.ref 94) [Value.bytes (mkB _) _]) _ _ _); k_dflt (refine' Spec.use2 (by k_asm) (by k_asm) (by k_asm) (by k_asm) (by k_asm) (by first | exact rfl | assumption) (fspath_B _ _ _) (by ktr_room) (by ktr_units) ?_; k_whole); intro led' v' h' tk' hR' hfr' F' N'; (obtain ⟨hL', hV'⟩ := hR'); subst hL' hV'; (try simp only [List.nil_append, List.cons_append] at F' N'); (try clear hfr'); k_sweep) | ((with_reducible show wpAny _ _ (compareOp CmpOp.NotEq (Value.bytes _ _) (Value.bytes _ _)) _ _ _); k_dflt (refine' ne_B ?hxZq ?hyZq ?h1Zq ?h2Zq ?_; (case hxZq => walk_at "kk litsB"); (case hyZq => walk_at "kk litsB"); (case h1Zq => first | with_reducible assumption | exact Small.sl (by with_reducible assumption) _ _ | (unfold Small; decide) | exact Small.rep (by decide) _); (case h2Zq => first | with_reducible assumption | exact Small.sl (by with_reducible assumption) _ _ | (unfold Small; decide) | exact Small.rep (by decide) _); k_whole)) | ((with_reducible show wpAny _ _ (compareOp CmpOp.Eq (Value.bytes _ _) (Value.bytes _ _)) _ _ _); k_dflt (refine' eq_B ?hxZq ?hyZq ?h1Zq ?h2Zq ?_; (case hxZq => walk_at "kk litsB"); (case hyZq => walk_at "kk litsB"); (case h1Zq => walk_at "kk smB"); (case h2Zq => walk_at "kk smB"); k_whole)) | ((with_reducible show wpAny _ _ (truthy (Value.bytes (mkB _) _)) _ _ _); k_dflt (refine' truthy_B ?hzZq ?_; (case hzZq => omega); k_whole))); k_steps))
  · unfold Stop
    refine For_invVF (by assumption) rfl rfl ?_
    (k_steps; repeat' ((with_reducible refine Stop.un ?_); (first | ((with_reducible show wpAny _ _ (call (Value.builtin _) [Value.bytes _ _, Value.ref _]) _ _ _); k_dflt (refine' join_B ?NZq ?yZq ?mZq ?iZq ?zZq ?_; (case NZq => k_asm); (case yZq => first | with_reducible exact lit_slashB | exact rfl); (case mZq => walk_at "kk MEM"); (case iZq => walk_at "kk INSB"); (case zZq => first | with_reducible assumption | omega); k_whole); intro t' tk') | ((with_reducible show wpAny _ _ (call (Value.builtin _) [Value.ref _]) _ _ _); k_dflt (refine' pop_Y ?FZq ?NZq ?iZq ?pZq ?UZq ?zZq ?_; (case FZq => k_asm); (case NZq => k_asm); (case iZq => walk_at "kk INSB"); (case pZq => walk_at "kk INSB"); (case UZq => k_upd); (case zZq => walk_at "kk LNT"); k_whole); intro h' q' t' F' N'; (try k_sweep)) | ((with_reducible show wpAny _ _ (subscriptTail _ _ _ _) _ _ _); (show wpAny _ _ (subscriptTail _ _ (Value.ref _) (Value.int (-1) _)) _ _ _); k_dflt (refine' itemLast_Y ?NZq ?mZq ?iZq ?pZq ?zZq ?_ ?hsZq ?htZq; (case NZq => k_asm); (case mZq => walk_at "kk MEM"); (case iZq => walk_at "kk INSB"); (case pZq => walk_at "kk INSB"); (case zZq => walk_at "kk LNT"); (case hsZq => with_unfolding_all rfl); (case htZq => (intro _; with_unfolding_all rfl)); k_whole); intro q' t' hq'; (try have hsq' := small_last (by with_reducible assumption) hq')) | ((with_reducible show wpAny _ _ (truthy (Value.ref _)) _ _ _); k_dflt (refine' truthy_V ?NZq ?mZq ?lZq ?zZq ?_; (case NZq => k_asm); (case mZq => walk_at "kk MEM"); (case lZq => exact bys_len (by walk_at "kk INSB")); (case zZq => walk_at "kk LNT"); k_whole); intro tk') | ((with_reducible show wpAny _ _ (binaryOp Operator.Add (Value.bytes _ _) (Value.bytes (mkB _) _)) _ _ _); k_dflt (refine' add_B ?hxZq ?hyZq ?hzZq ?h2Zq ?_; (case hxZq => first | with_reducible rfl | exact rfl); (case hyZq => with_reducible rfl); (case hzZq => walk_at "kk LNT"); (case h2Zq => first | omega | (exact Nat.le_trans (by with_reducible assumption) (by omega))); k_whole); intro t' tk') | ((with_reducible show wpAny _ _ (call (Value.builtin _) [Value.ref _, Value.bytes _ _]) _ _ _); k_dflt (refine' append_V ?FZq ?NZq ?UZq ?zZq ?_; (case FZq => k_asm); (case NZq => k_asm); (case UZq => k_upd); (case zZq => first | omega | ((rw [bys_len (by with_reducible assumption)]); (walk_at "kk LNT"))); k_whole); intro h' F' N'; (try k_sweep)) | ((with_reducible show wpAny _ _ (call (Value.builtin "bytes.split") [Value.bytes (mkB _) _, Value.bytes _ _]) _ _ _); k_dflt (refine' bsplit_B ?FZq ?NZq ?hsZq ?yZq ?cZq ?zZq ?_; (case FZq => k_asm); (case NZq => k_asm); (case hsZq => walk_at "kk SMALL2"); (case yZq => first | with_reducible exact lit_slashB | exact rfl); (case cZq => decide); (case zZq => walk_at "kk LNT"); k_whole); intro D' us' h' tk' hS' F' N' l1; (try k_lt l1); (try k_sweep)) | ((with_reducible show wpAny _ _ (call (Value.ref 101) [Value.bytes (mkB _) _]) _ _ _); k_dflt (refine' Spec.use2 (by k_asm) (by k_asm) (by k_asm) (by k_asm) (by k_asm) (by first | exact rfl | assumption) (splitroot_B _ _ _ ?p1Zq ?p2Zq) (by ktr_room) (by ktr_units) ?_; (case p1Zq => first | omega | (rw [List.length_drop]; omega)); (case p2Zq => walk_at "kk SMALL"); k_whole); intro led' v' h' tk' hR' hfr' F' N'; (obtain ⟨q', t1', t2', t3', y1', y2', y3', hV', hL', hX', hY', hZ'⟩ := hR'); subst hV' hL' hX' hY' hZ'; (have hfr2 := hfr' _ (List.Mem.head _)); (try k_lt hfr2); (try simp only [List.nil_append, List.cons_append] at F' N'); (try clear hfr'); k_sweep) | ((with_reducible show wpAny _ _ (call (Value.ref 94) [Value.bytes (mkB _) _]) _ _ _); k_dflt (refine' Spec.use2 (by k_asm) (by k_asm) (by k_asm) (by k_asm) (by k_asm) (by first | exact rfl | assumption) (fspath_B _ _ _) (by ktr_room) (by ktr_units) ?_; k_whole); intro led' v' h' tk' hR' hfr' F' N'; (obtain ⟨hL', hV'⟩ := hR'); subst hL' hV'; (try simp only [List.nil_append, List.cons_append] at F' N'); (try clear hfr'); k_sweep) | ((with_reducible show wpAny _ _ (compareOp CmpOp.NotEq (Value.bytes _ _) (Value.bytes _ _)) _ _ _); k_dflt (refine' ne_B ?hxZq ?hyZq ?h1Zq ?h2Zq ?_; (case hxZq => walk_at "kk litsB"); (case hyZq => walk_at "kk litsB"); (case h1Zq => first | with_reducible assumption | exact Small.sl (by with_reducible assumption) _ _ | (unfold Small; decide) | exact Small.rep (by decide) _); (case h2Zq => first | with_reducible assumption | exact Small.sl (by with_reducible assumption) _ _ | (unfold Small; decide) | exact Small.rep (by decide) _); k_whole)) | ((with_reducible show wpAny _ _ (compareOp CmpOp.Eq (Value.bytes _ _) (Value.bytes _ _)) _ _ _); k_dflt (refine' eq_B ?hxZq ?hyZq ?h1Zq ?h2Zq ?_; (case hxZq => walk_at "kk litsB"); (case hyZq => walk_at "kk litsB"); (case h1Zq => walk_at "kk smB"); (case h2Zq => walk_at "kk smB"); k_whole)) | ((with_reducible show wpAny _ _ (truthy (Value.bytes (mkB _) _)) _ _ _); k_dflt (refine' truthy_B ?hzZq ?_; (case hzZq => omega); k_whole))); k_steps))
    unfold Stop
    rename BysAre _ (splitL 47 _) => hS
    refine' for_list (σ := List Value × Nat) (fun c => (_, listOf c.1.toArray c.2) :: _) (fun c => []) [] (fun i c => ∃ acc, BysAre c.1 acc ∧ acc = ((splitL 47 (l.drop (rootL l).length)).take i).foldl (nstep (rootL l)) []) ([], 0) rfl ?h1 ?h2 ?h3 ?h4 ?h5 ?h6 ?turn ?done
    case h4 => exact cb_drop (by assumption) (fun p hp => hp)
    case h3 => assumption
    case h1 => exact News.isList (by assumption) (by (repeat (first | (with_reducible assumption) | (with_reducible exact List.mem_cons_self ..) | (with_reducible refine List.mem_cons_of_mem _ ?_))))
    case h2 => exact .inr ⟨_, fun c => by (repeat (first | (with_reducible assumption) | (with_reducible exact List.mem_cons_self ..) | (with_reducible refine List.mem_cons_of_mem _ ?_)))⟩
    case h5 => kst_all
    case h6 => exact ⟨[], bys_nil, rfl⟩
    case turn =>
      rintro ⟨ws, n⟩ i v u h tk I oI hi' hv ⟨acc, hA, hacc⟩ hne F' N'
      dsimp only at *
      obtain ⟨p, t9, hp, rfl⟩ := bys_at hS hv
      have hpl := splitL_len (List.mem_of_getElem? hp)
      rw [List.length_drop] at hpl
      have hsp : Small p := fun c hc => hs c (List.mem_of_mem_drop ((splitL_mem (List.mem_of_getElem? hp)).2 c hc))
      have hsa : ∀ q ∈ acc, Small q := by
        rw [hacc]
        exact fold_mem (by simp) (fun q hq c hc => hs c (List.mem_of_mem_drop ((splitL_mem (List.mem_of_mem_take hq)).2 c hc)))
      have hsl := splitL_length 47 (l.drop (rootL l).length)
      rw [List.length_drop] at hsl
      have hus := bys_len hS
      have hal := fold_len (root := rootL l) (ps := (splitL 47 (l.drop (rootL l).length)).take i) (acc := [])
      rw [← hacc, List.length_take, List.length_nil] at hal
      have hal2 : acc.length ≤ 8192 := by omega
      have hwl := bys_len hA
      simp only [List.forall_mem_cons] at hne
      obtain ⟨n1, n3⟩ := hne
      have n2 : @Ne Nat _ _ := n1
      have hrl := rootL_length l
      (k_steps; repeat' ((with_reducible refine Stop.un ?_); (first | ((with_reducible show wpAny _ _ (call (Value.builtin _) [Value.bytes _ _, Value.ref _]) _ _ _); k_dflt (refine' join_B ?NZq ?yZq ?mZq ?iZq ?zZq ?_; (case NZq => k_asm); (case yZq => first | with_reducible exact lit_slashB | exact rfl); (case mZq => walk_at "kk MEM"); (case iZq => walk_at "kk INSB"); (case zZq => first | with_reducible assumption | omega); k_whole); intro t' tk') | ((with_reducible show wpAny _ _ (call (Value.builtin _) [Value.ref _]) _ _ _); k_dflt (refine' pop_Y ?FZq ?NZq ?iZq ?pZq ?UZq ?zZq ?_; (case FZq => k_asm); (case NZq => k_asm); (case iZq => walk_at "kk INSB"); (case pZq => walk_at "kk INSB"); (case UZq => k_upd); (case zZq => walk_at "kk LNT"); k_whole); intro h' q' t' F' N'; (try k_sweep)) | ((with_reducible show wpAny _ _ (subscriptTail _ _ _ _) _ _ _); (show wpAny _ _ (subscriptTail _ _ (Value.ref _) (Value.int (-1) _)) _ _ _); k_dflt (refine' itemLast_Y ?NZq ?mZq ?iZq ?pZq ?zZq ?_ ?hsZq ?htZq; (case NZq => k_asm); (case mZq => walk_at "kk MEM"); (case iZq => walk_at "kk INSB"); (case pZq => walk_at "kk INSB"); (case zZq => walk_at "kk LNT"); (case hsZq => with_unfolding_all rfl); (case htZq => (intro _; with_unfolding_all rfl)); k_whole); intro q' t' hq'; (try have hsq' := small_last (by with_reducible assumption) hq')) | ((with_reducible show wpAny _ _ (truthy (Value.ref _)) _ _ _); k_dflt (refine' truthy_V ?NZq ?mZq ?lZq ?zZq ?_; (case NZq => k_asm); (case mZq => walk_at "kk MEM"); (case lZq => exact bys_len (by walk_at "kk INSB")); (case zZq => walk_at "kk LNT"); k_whole); intro tk') | ((with_reducible show wpAny _ _ (binaryOp Operator.Add (Value.bytes _ _) (Value.bytes (mkB _) _)) _ _ _); k_dflt (refine' add_B ?hxZq ?hyZq ?hzZq ?h2Zq ?_; (case hxZq => first | with_reducible rfl | exact rfl); (case hyZq => with_reducible rfl); (case hzZq => walk_at "kk LNT"); (case h2Zq => first | omega | (exact Nat.le_trans (by with_reducible assumption) (by omega))); k_whole); intro t' tk') | ((with_reducible show wpAny _ _ (call (Value.builtin _) [Value.ref _, Value.bytes _ _]) _ _ _); k_dflt (refine' append_V ?FZq ?NZq ?UZq ?zZq ?_; (case FZq => k_asm); (case NZq => k_asm); (case UZq => k_upd); (case zZq => first | omega | ((rw [bys_len (by with_reducible assumption)]); (walk_at "kk LNT"))); k_whole); intro h' F' N'; (try k_sweep)) | ((with_reducible show wpAny _ _ (call (Value.builtin "bytes.split") [Value.bytes (mkB _) _, Value.bytes _ _]) _ _ _); k_dflt (refine' bsplit_B ?FZq ?NZq ?hsZq ?yZq ?cZq ?zZq ?_; (case FZq => k_asm); (case NZq => k_asm); (case hsZq => walk_at "kk SMALL2"); (case yZq => first | with_reducible exact lit_slashB | exact rfl); (case cZq => decide); (case zZq => walk_at "kk LNT"); k_whole); intro D' us' h' tk' hS' F' N' l1; (try k_lt l1); (try k_sweep)) | ((with_reducible show wpAny _ _ (call (Value.ref 101) [Value.bytes (mkB _) _]) _ _ _); k_dflt (refine' Spec.use2 (by k_asm) (by k_asm) (by k_asm) (by k_asm) (by k_asm) (by first | exact rfl | assumption) (splitroot_B _ _ _ ?p1Zq ?p2Zq) (by ktr_room) (by ktr_units) ?_; (case p1Zq => first | omega | (rw [List.length_drop]; omega)); (case p2Zq => walk_at "kk SMALL"); k_whole); intro led' v' h' tk' hR' hfr' F' N'; (obtain ⟨q', t1', t2', t3', y1', y2', y3', hV', hL', hX', hY', hZ'⟩ := hR'); subst hV' hL' hX' hY' hZ'; (have hfr2 := hfr' _ (List.Mem.head _)); (try k_lt hfr2); (try simp only [List.nil_append, List.cons_append] at F' N'); (try clear hfr'); k_sweep) | ((with_reducible show wpAny _ _ (call (Value.ref 94) [Value.bytes (mkB _) _]) _ _ _); k_dflt (refine' Spec.use2 (by k_asm) (by k_asm) (by k_asm) (by k_asm) (by k_asm) (by first | exact rfl | assumption) (fspath_B _ _ _) (by ktr_room) (by ktr_units) ?_; k_whole); intro led' v' h' tk' hR' hfr' F' N'; (obtain ⟨hL', hV'⟩ := hR'); subst hL' hV'; (try simp only [List.nil_append, List.cons_append] at F' N'); (try clear hfr'); k_sweep) | ((with_reducible show wpAny _ _ (compareOp CmpOp.NotEq (Value.bytes _ _) (Value.bytes _ _)) _ _ _); k_dflt (refine' ne_B ?hxZq ?hyZq ?h1Zq ?h2Zq ?_; (case hxZq => walk_at "kk litsB"); (case hyZq => walk_at "kk litsB"); (case h1Zq => first | with_reducible assumption | exact Small.sl (by with_reducible assumption) _ _ | (unfold Small; decide) | exact Small.rep (by decide) _); (case h2Zq => first | with_reducible assumption | exact Small.sl (by with_reducible assumption) _ _ | (unfold Small; decide) | exact Small.rep (by decide) _); k_whole)) | ((with_reducible show wpAny _ _ (compareOp CmpOp.Eq (Value.bytes _ _) (Value.bytes _ _)) _ _ _); k_dflt (refine' eq_B ?hxZq ?hyZq ?h1Zq ?h2Zq ?_; (case hxZq => walk_at "kk litsB"); (case hyZq => walk_at "kk litsB"); (case h1Zq => walk_at "kk smB"); (case h2Zq => walk_at "kk smB"); k_whole)) | ((with_reducible show wpAny _ _ (truthy (Value.bytes (mkB _) _)) _ _ _); k_dflt (refine' truthy_B ?hzZq ?_; (case hzZq => omega); k_whole))); k_steps))
      all_goals try rw [StopG.eq]
      all_goals ((refine' turn_end (σ := List Value × Nat) (_, _) ?F ?N ?hn ?hI ?hne ?hk ?hr ?hp); (case F => with_reducible assumption); (case N => with_reducible assumption); (case hn => exact List.forall_mem_cons.mpr ⟨by (repeat (first | (with_reducible assumption) | (with_reducible exact List.mem_cons_self ..) | (with_reducible refine List.mem_cons_of_mem _ ?_))), by intro p hp; k_ownIn⟩); (case hI => (repeat (first | (with_reducible assumption) | (with_reducible exact List.mem_cons_self ..) | (with_reducible refine List.mem_cons_of_mem _ ?_)))); (case hne => (simp only [List.forall_mem_cons]; exact ⟨n1, n3⟩)); (case hk => kst_all); (case hr => intro z h1 h2 h3; (simp only [List.forall_mem_cons, List.not_mem_nil, false_implies, implies_true, and_true, ne_eq] at h2); first | (simp only [kstB, h1, h2, List.contains_nil, if_false, Bool.false_eq_true, reduceIte]; done) | ((have h4 := h3); (simp only [List.contains_cons, List.contains_nil, Bool.or_false, Bool.or_eq_false_iff, beq_eq_false_iff_ne, ne_eq] at h4); (simp only [kstB, h1, h2, h3, h4, if_false, Bool.false_eq_true, reduceIte]; done))); (case hp =>
        refine ⟨nstep (rootL l) acc p, ?_, (fold_take hp hacc).symm⟩
        dsimp only
        first
          | (rw [nstep_a (by first | with_reducible assumption | exact Decidable.not_not.mp (by with_reducible assumption) | exact not_not_intro (by with_reducible assumption))]; exact hA)
          | (rw [nstep_a' (by first | with_reducible assumption | exact Decidable.not_not.mp (by with_reducible assumption) | exact not_not_intro (by with_reducible assumption))]; exact hA)
          | (rw [nstep_b (by first | with_reducible assumption | exact Decidable.not_not.mp (by with_reducible assumption) | exact not_not_intro (by with_reducible assumption))]; exact hA)
          | (rw [nstep_c (by first | with_reducible assumption | exact Decidable.not_not.mp (by with_reducible assumption) | exact not_not_intro (by with_reducible assumption)) (by first | with_reducible assumption | exact Decidable.not_not.mp (by with_reducible assumption) | exact not_not_intro (by with_reducible assumption)) (by first | with_reducible assumption | exact Decidable.not_not.mp (by with_reducible assumption) | exact not_not_intro (by with_reducible assumption))]; exact bys_snoc hA)
          | (rw [nstep_d (by first | with_reducible assumption | exact Decidable.not_not.mp (by with_reducible assumption) | exact not_not_intro (by with_reducible assumption)) (by first | with_reducible assumption | exact Decidable.not_not.mp (by with_reducible assumption) | exact not_not_intro (by with_reducible assumption)) (by first | with_reducible assumption | exact Decidable.not_not.mp (by with_reducible assumption) | exact not_not_intro (by with_reducible assumption)) (by first | with_reducible assumption | exact Decidable.not_not.mp (by with_reducible assumption) | exact not_not_intro (by with_reducible assumption))]; exact bys_snoc hA)
          | (rw [nstep_e (by first | with_reducible assumption | exact Decidable.not_not.mp (by with_reducible assumption) | exact not_not_intro (by with_reducible assumption)) (by first | with_reducible assumption | exact Decidable.not_not.mp (by with_reducible assumption) | exact not_not_intro (by with_reducible assumption)) (by first | with_reducible assumption | exact Decidable.not_not.mp (by with_reducible assumption) | exact not_not_intro (by with_reducible assumption)) (by first | with_reducible assumption | exact Decidable.not_not.mp (by with_reducible assumption) | exact not_not_intro (by with_reducible assumption))]; exact bys_snoc hA)
          | (rw [nstep_f (by first | with_reducible assumption | exact Decidable.not_not.mp (by with_reducible assumption) | exact not_not_intro (by with_reducible assumption)) (by first | with_reducible assumption | exact Decidable.not_not.mp (by with_reducible assumption) | exact not_not_intro (by with_reducible assumption)) (by first | with_reducible assumption | exact Decidable.not_not.mp (by with_reducible assumption) | exact not_not_intro (by with_reducible assumption)) (by first | with_reducible assumption | exact Decidable.not_not.mp (by with_reducible assumption) | exact not_not_intro (by with_reducible assumption)) (by first | with_reducible assumption | exact Decidable.not_not.mp (by with_reducible assumption) | exact not_not_intro (by with_reducible assumption))]; exact bys_dropLast hA)
          | (rw [nstep_g (by first | with_reducible assumption | exact Decidable.not_not.mp (by with_reducible assumption) | exact not_not_intro (by with_reducible assumption)) (by first | with_reducible assumption | exact Decidable.not_not.mp (by with_reducible assumption) | exact not_not_intro (by with_reducible assumption)) (by first | with_reducible assumption | exact Decidable.not_not.mp (by with_reducible assumption) | exact not_not_intro (by with_reducible assumption)) (by first | with_reducible assumption | exact Decidable.not_not.mp (by with_reducible assumption) | exact not_not_intro (by with_reducible assumption)) (by first | with_reducible assumption | exact Decidable.not_not.mp (by with_reducible assumption) | exact not_not_intro (by with_reducible assumption))]; exact hA)))
    case done =>
      rintro ⟨ws, n⟩ u h tk ⟨acc, hA, hacc⟩ F' N'
      dsimp only at *
      have hus := bys_len hS
      have hac : acc = ncomps l := by rw [hacc, hus, List.take_length]; rfl
      subst hac
      have hw := ncomps_wt l
      have hw2 : wt (ncomps l) ≤ 16384 := by omega
      have hw3 := wt_join 47 (ncomps l)
      have hrl := rootL_length l
      have hw4 : (rootL l ++ joinL [47] (ncomps l)).length ≤ 2010 := by rw [List.length_append]; omega
      have hsj := small_norm hs
      (k_steps; repeat' ((with_reducible refine Stop.un ?_); (first | ((with_reducible show wpAny _ _ (call (Value.builtin _) [Value.bytes _ _, Value.ref _]) _ _ _); k_dflt (refine' join_B ?NZq ?yZq ?mZq ?iZq ?zZq ?_; (case NZq => k_asm); (case yZq => first | with_reducible exact lit_slashB | exact rfl); (case mZq => walk_at "kk MEM"); (case iZq => walk_at "kk INSB"); (case zZq => first | with_reducible assumption | omega); k_whole); intro t' tk') | ((with_reducible show wpAny _ _ (call (Value.builtin _) [Value.ref _]) _ _ _); k_dflt (refine' pop_Y ?FZq ?NZq ?iZq ?pZq ?UZq ?zZq ?_; (case FZq => k_asm); (case NZq => k_asm); (case iZq => walk_at "kk INSB"); (case pZq => walk_at "kk INSB"); (case UZq => k_upd); (case zZq => walk_at "kk LNT"); k_whole); intro h' q' t' F' N'; (try k_sweep)) | ((with_reducible show wpAny _ _ (subscriptTail _ _ _ _) _ _ _); (show wpAny _ _ (subscriptTail _ _ (Value.ref _) (Value.int (-1) _)) _ _ _); k_dflt (refine' itemLast_Y ?NZq ?mZq ?iZq ?pZq ?zZq ?_ ?hsZq ?htZq; (case NZq => k_asm); (case mZq => walk_at "kk MEM"); (case iZq => walk_at "kk INSB"); (case pZq => walk_at "kk INSB"); (case zZq => walk_at "kk LNT"); (case hsZq => with_unfolding_all rfl); (case htZq => (intro _; with_unfolding_all rfl)); k_whole); intro q' t' hq'; (try have hsq' := small_last (by with_reducible assumption) hq')) | ((with_reducible show wpAny _ _ (truthy (Value.ref _)) _ _ _); k_dflt (refine' truthy_V ?NZq ?mZq ?lZq ?zZq ?_; (case NZq => k_asm); (case mZq => walk_at "kk MEM"); (case lZq => exact bys_len (by walk_at "kk INSB")); (case zZq => walk_at "kk LNT"); k_whole); intro tk') | ((with_reducible show wpAny _ _ (binaryOp Operator.Add (Value.bytes _ _) (Value.bytes (mkB _) _)) _ _ _); k_dflt (refine' add_B ?hxZq ?hyZq ?hzZq ?h2Zq ?_; (case hxZq => first | with_reducible rfl | exact rfl); (case hyZq => with_reducible rfl); (case hzZq => walk_at "kk LNT"); (case h2Zq => first | omega | (exact Nat.le_trans (by with_reducible assumption) (by omega))); k_whole); intro t' tk') | ((with_reducible show wpAny _ _ (call (Value.builtin _) [Value.ref _, Value.bytes _ _]) _ _ _); k_dflt (refine' append_V ?FZq ?NZq ?UZq ?zZq ?_; (case FZq => k_asm); (case NZq => k_asm); (case UZq => k_upd); (case zZq => first | omega | ((rw [bys_len (by with_reducible assumption)]); (walk_at "kk LNT"))); k_whole); intro h' F' N'; (try k_sweep)) | ((with_reducible show wpAny _ _ (call (Value.builtin "bytes.split") [Value.bytes (mkB _) _, Value.bytes _ _]) _ _ _); k_dflt (refine' bsplit_B ?FZq ?NZq ?hsZq ?yZq ?cZq ?zZq ?_; (case FZq => k_asm); (case NZq => k_asm); (case hsZq => walk_at "kk SMALL2"); (case yZq => first | with_reducible exact lit_slashB | exact rfl); (case cZq => decide); (case zZq => walk_at "kk LNT"); k_whole); intro D' us' h' tk' hS' F' N' l1; (try k_lt l1); (try k_sweep)) | ((with_reducible show wpAny _ _ (call (Value.ref 101) [Value.bytes (mkB _) _]) _ _ _); k_dflt (refine' Spec.use2 (by k_asm) (by k_asm) (by k_asm) (by k_asm) (by k_asm) (by first | exact rfl | assumption) (splitroot_B _ _ _ ?p1Zq ?p2Zq) (by ktr_room) (by ktr_units) ?_; (case p1Zq => first | omega | (rw [List.length_drop]; omega)); (case p2Zq => walk_at "kk SMALL"); k_whole); intro led' v' h' tk' hR' hfr' F' N'; (obtain ⟨q', t1', t2', t3', y1', y2', y3', hV', hL', hX', hY', hZ'⟩ := hR'); subst hV' hL' hX' hY' hZ'; (have hfr2 := hfr' _ (List.Mem.head _)); (try k_lt hfr2); (try simp only [List.nil_append, List.cons_append] at F' N'); (try clear hfr'); k_sweep) | ((with_reducible show wpAny _ _ (call (Value.ref 94) [Value.bytes (mkB _) _]) _ _ _); k_dflt (refine' Spec.use2 (by k_asm) (by k_asm) (by k_asm) (by k_asm) (by k_asm) (by first | exact rfl | assumption) (fspath_B _ _ _) (by ktr_room) (by ktr_units) ?_; k_whole); intro led' v' h' tk' hR' hfr' F' N'; (obtain ⟨hL', hV'⟩ := hR'); subst hL' hV'; (try simp only [List.nil_append, List.cons_append] at F' N'); (try clear hfr'); k_sweep) | ((with_reducible show wpAny _ _ (compareOp CmpOp.NotEq (Value.bytes _ _) (Value.bytes _ _)) _ _ _); k_dflt (refine' ne_B ?hxZq ?hyZq ?h1Zq ?h2Zq ?_; (case hxZq => walk_at "kk litsB"); (case hyZq => walk_at "kk litsB"); (case h1Zq => first | with_reducible assumption | exact Small.sl (by with_reducible assumption) _ _ | (unfold Small; decide) | exact Small.rep (by decide) _); (case h2Zq => first | with_reducible assumption | exact Small.sl (by with_reducible assumption) _ _ | (unfold Small; decide) | exact Small.rep (by decide) _); k_whole)) | ((with_reducible show wpAny _ _ (compareOp CmpOp.Eq (Value.bytes _ _) (Value.bytes _ _)) _ _ _); k_dflt (refine' eq_B ?hxZq ?hyZq ?h1Zq ?h2Zq ?_; (case hxZq => walk_at "kk litsB"); (case hyZq => walk_at "kk litsB"); (case h1Zq => walk_at "kk smB"); (case h2Zq => walk_at "kk smB"); k_whole)) | ((with_reducible show wpAny _ _ (truthy (Value.bytes (mkB _) _)) _ _ _); k_dflt (refine' truthy_B ?hzZq ?_; (case hzZq => omega); k_whole))); k_steps))
      all_goals ((refine' hret [] _ _ _ ⟨rfl, _, _, rfl, ?hy⟩ no_led ?F (cb_drop ?N ?sub)); (case F => with_reducible assumption); (case N => with_reducible assumption); (case sub => (intro p hp; k_ownIn)); (case hy =>
        unfold normL
        first
          | rw [if_neg (by first | with_reducible assumption | exact Decidable.not_not.mp (by with_reducible assumption) | exact not_not_intro (by with_reducible assumption)), if_neg (by first | with_reducible assumption | exact Decidable.not_not.mp (by with_reducible assumption) | exact not_not_intro (by with_reducible assumption))]
          | (rw [if_neg (by first | with_reducible assumption | exact Decidable.not_not.mp (by with_reducible assumption) | exact not_not_intro (by with_reducible assumption)), if_pos (Decidable.not_not.mp (by first | with_reducible assumption | exact Decidable.not_not.mp (by with_reducible assumption) | exact not_not_intro (by with_reducible assumption)))]; exact lit_dotB)
          | (rw [if_neg (by first | with_reducible assumption | exact Decidable.not_not.mp (by with_reducible assumption) | exact not_not_intro (by with_reducible assumption)), if_pos (by first | with_reducible assumption | exact Decidable.not_not.mp (by with_reducible assumption) | exact not_not_intro (by with_reducible assumption))]; exact lit_dotB)))
  · (refine' hret [] _ _ _ ⟨rfl, _, _, rfl, ?hy⟩ no_led ?F (cb_drop ?N ?sub)); (case F => with_reducible assumption); (case N => with_reducible assumption); (case sub => (intro p hp; k_ownIn)); (case hy =>
      unfold normL
      first
        | (rw [if_pos (Decidable.not_not.mp (by first | with_reducible assumption | exact Decidable.not_not.mp (by with_reducible assumption) | exact not_not_intro (by with_reducible assumption)))]; exact lit_dotB)
        | (rw [if_pos (by first | with_reducible assumption | exact Decidable.not_not.mp (by with_reducible assumption) | exact not_not_intro (by with_reducible assumption))]; exact lit_dotB))
end
section
local macro_rules | `(tactic| walk_at "call builtin:len") => `(tactic| (k_here; (with_reducible show wpAny _ _ (call (Value.builtin "len") [Value.ref _]) _ _ _); refine Stop.of ?_))
set_option maxRecDepth 100000 in
set_option maxHeartbeats 100000000 in
theorem path_ok (news : List (Addr × Obj)) (l : Addr) (vs : List Value) (ns : List Int) (hi : IntsAre vs ns) : SpecP PySem.Challenge.rw_ko0129_05.row.prog Mine.hd.view_39 Mine.hd.heap_39 115 6 60 [.ref l] news (fun h => h.IsList l vs.toArray) (fun led v => ∃ (q : Addr) (vc : List Value) (nc : Nat) (codes : List Nat), v = .ref q ∧ led = [(q, listOf vc.toArray nc)] ∧ IntsAre vc (IN codes) ∧ codes.length ≤ 40 ∧ (∀ c ∈ codes, c ≤ 1114111) ∧ (∀ c ∈ codes, 1 ≤ c)) := by
  w_top off
  unfold SpecP
  intros
  rename_i hpre hret
  refine wpAny_call ?_
  k_dflt cell_enter
  (k_steps; repeat' ((with_reducible refine Stop.un ?_); (first | ((with_reducible show wpAny _ _ (call (Value.builtin "len") [Value.ref _]) _ _ _); k_dflt (refine' len_L ?NZq ?mZq ?iZq ?zZq ?_; (case NZq => k_asm); (case mZq => walk_at "kk MEM"); (case iZq => walk_at "kk INF"); (case zZq => walk_at "kk LNF"); k_whole); intro t' tk') | ((with_reducible show wpAny _ _ (call (Value.builtin _) [Value.ref _, _]) _ _ _); k_dflt (refine' append_L ?k1Zq ?k2Zq ?k3Zq ?zZq ?_; (case k1Zq => k_asm); (case k2Zq => k_asm); (case k3Zq => k_upd); (case zZq => first | omega | ((try simp only [List.length_append, List.length_cons, List.length_nil]); omega)); k_whole); intro h' F' N'; (try k_sweep))); k_steps))
  unfold Stop
  refine For_invVF (by assumption) rfl rfl ?_
  (k_steps; repeat' ((with_reducible refine Stop.un ?_); (first | ((with_reducible show wpAny _ _ (call (Value.builtin "len") [Value.ref _]) _ _ _); k_dflt (refine' len_L ?NZq ?mZq ?iZq ?zZq ?_; (case NZq => k_asm); (case mZq => walk_at "kk MEM"); (case iZq => walk_at "kk INF"); (case zZq => walk_at "kk LNF"); k_whole); intro t' tk') | ((with_reducible show wpAny _ _ (call (Value.builtin _) [Value.ref _, _]) _ _ _); k_dflt (refine' append_L ?k1Zq ?k2Zq ?k3Zq ?zZq ?_; (case k1Zq => k_asm); (case k2Zq => k_asm); (case k3Zq => k_upd); (case zZq => first | omega | ((try simp only [List.length_append, List.length_cons, List.length_nil]); omega)); k_whole); intro h' F' N'; (try k_sweep))); k_steps))
  unfold Stop
  refine' for_list (σ := List Value × Nat) (fun c => (_, listOf c.1.toArray c.2) :: news) (fun c => []) [Str.ofString "kind", Str.ofString "c"] (fun i c => PathOk1 c.1) ([], 0) rfl ?h1 ?h2 ?h3 ?h4 ?h5 ?h6 ?turn ?done
  case h4 => exact cb_drop (by assumption) (fun p hp => hp)
  case h3 => assumption
  case h1 => exact list_up (list_up hpre (Fr.keep (by assumption))) (Fr.keep (by assumption))
  case h2 => exact .inl ((list_up hpre (Fr.keep (by assumption))).imp fun _ x => x.1)
  case h5 => kst_all
  case h6 => exact PathOk1.start
  case turn =>
    rintro ⟨vc, nc⟩ i v u h tk I oI hi' hv hok hne F' N'
    simp only [List.forall_mem_cons] at hne
    obtain ⟨n1, n3⟩ := hne
    replace n1 := neN n1
    obtain ⟨x0, t9, hx0, rfl⟩ := ints_at hi hv
    dsimp only at *
    (k_steps; repeat' ((with_reducible refine Stop.un ?_); (first | ((with_reducible show wpAny _ _ (call (Value.builtin "len") [Value.ref _]) _ _ _); k_dflt (refine' len_L ?NZq ?mZq ?iZq ?zZq ?_; (case NZq => k_asm); (case mZq => walk_at "kk MEM"); (case iZq => walk_at "kk INF"); (case zZq => walk_at "kk LNF"); k_whole); intro t' tk') | ((with_reducible show wpAny _ _ (call (Value.builtin _) [Value.ref _, _]) _ _ _); k_dflt (refine' append_L ?k1Zq ?k2Zq ?k3Zq ?zZq ?_; (case k1Zq => k_asm); (case k2Zq => k_asm); (case k3Zq => k_upd); (case zZq => first | omega | ((try simp only [List.length_append, List.length_cons, List.length_nil]); omega)); k_whole); intro h' F' N'; (try k_sweep))); k_steps))
    unfold Stop
    refine' ksw_while (σ := (List Value × Nat) × Int × Nat) (fun c => (I, oI) :: (_, listOf c.1.1.toArray c.1.2) :: news) (fun c => [(Str.ofString "x", .int c.2.1 c.2.2)]) (fun _ => True) [Str.ofString "kind", Str.ofString "c"] (fun c => PathOk1 c.1.1 ∧ 0 ≤ c.2.1) (fun c => 40 - c.1.1.length) ((vc, nc), _, _) ?w1 ?w2 trivial ?w3 ?w4 ?w5
    case w1 => assumption
    case w2 => assumption
    case w3 => kst_all
    case w4 => exact ⟨hok, abs_nonneg _⟩
    rintro ⟨⟨vc, nc⟩, x1, tx⟩ u2 h2 tk2 _ ⟨hok, hx1⟩ F' N'
    dsimp only at *
    obtain ⟨codes, hcI, hcl, hcc, hcd⟩ := id hok
    have hcl2 := ints_len hcI
    (k_steps; repeat' ((with_reducible refine Stop.un ?_); (first | ((with_reducible show wpAny _ _ (call (Value.builtin "len") [Value.ref _]) _ _ _); k_dflt (refine' len_L ?NZq ?mZq ?iZq ?zZq ?_; (case NZq => k_asm); (case mZq => walk_at "kk MEM"); (case iZq => walk_at "kk INF"); (case zZq => walk_at "kk LNF"); k_whole); intro t' tk') | ((with_reducible show wpAny _ _ (call (Value.builtin _) [Value.ref _, _]) _ _ _); k_dflt (refine' append_L ?k1Zq ?k2Zq ?k3Zq ?zZq ?_; (case k1Zq => k_asm); (case k2Zq => k_asm); (case k3Zq => k_upd); (case zZq => first | omega | ((try simp only [List.length_append, List.length_cons, List.length_nil]); omega)); k_whole); intro h' F' N'; (try k_sweep))); k_steps))
    all_goals try rw [StopG.eq]
    all_goals first
      | ((with_reducible refine' turn_end (σ := List Value × Nat) (_, _) ?F ?N ?hn ?hI ?hne ?hk ?hr ?hp)
         (case F => assumption)
         (case N => assumption)
         (case hk => kst_all)
         (case hn => exact List.forall_mem_cons.mpr ⟨by k_memK, by intro p hp; k_ownIn⟩)
         (case hI => k_memK)
         (case hne => exact List.forall_mem_cons.mpr ⟨n1, n3⟩)
         (case hr => intro z h1 h2 h3; (simp only [List.forall_mem_cons, List.not_mem_nil, false_implies, implies_true, and_true, ne_eq] at h2); first | (simp only [kstB, h1, h2, List.contains_nil, if_false, Bool.false_eq_true, reduceIte]; done) | ((have h4 := h3); (simp only [List.contains_cons, List.contains_nil, Bool.or_false, Bool.or_eq_false_iff, beq_eq_false_iff_ne, ne_eq] at h4); (simp only [kstB, h1, h2, h3, h4, if_false, Bool.false_eq_true, reduceIte]; done)))
         (case hp => (first | exact PathOk1.add hok (by first | omega | (k_fmods; omega)) (by first | omega | (k_fmods; omega)) (by omega) | exact PathOk1.add hok (menu1 _ (by omega)) (menuZ _).2 (by omega) | exact hok)))
      | ((with_reducible refine' ksw_end (σ := (List Value × Nat) × Int × Nat) ((_, _), _, _) ?F ?N ?hn trivial ?hk ?hr ?hp ?hm)
         (case F => assumption)
         (case N => assumption)
         (case hk => kst_all)
         (case hn => exact List.forall_mem_cons.mpr ⟨by k_memK, List.forall_mem_cons.mpr ⟨by k_memK, by intro p hp; k_ownIn⟩⟩)
         (case hr => intro z h2 h3; (simp only [List.forall_mem_cons, List.not_mem_nil, false_implies, implies_true, and_true, ne_eq] at h2); first | (simp only [kstB, h2, List.contains_nil, if_false, Bool.false_eq_true, reduceIte]; done) | ((have h4 := h3); (simp only [List.contains_cons, List.contains_nil, Bool.or_false, Bool.or_eq_false_iff, beq_eq_false_iff_ne, ne_eq] at h4); (simp only [kstB, h2, h3, h4, if_false, Bool.false_eq_true, reduceIte]; done)))
         (case hp =>
           refine ⟨?_, Int.fdiv_nonneg hx1 (by decide)⟩
           (first | exact PathOk1.add hok (by first | omega | (k_fmods; omega)) (by first | omega | (k_fmods; omega)) (by omega) | exact PathOk1.add hok (menu1 _ (by omega)) (menuZ _).2 (by omega) | exact hok))
         (case hm =>
           dsimp only
           simp only [List.length_append, List.length_cons, List.length_nil]
           omega))
  case done =>
    rintro ⟨vc, nc⟩ u h tk ⟨codes, o1, o2, o3, o4⟩ F' N'
    dsimp only at *
    (k_steps; repeat' ((with_reducible refine Stop.un ?_); (first | ((with_reducible show wpAny _ _ (call (Value.builtin "len") [Value.ref _]) _ _ _); k_dflt (refine' len_L ?NZq ?mZq ?iZq ?zZq ?_; (case NZq => k_asm); (case mZq => walk_at "kk MEM"); (case iZq => walk_at "kk INF"); (case zZq => walk_at "kk LNF"); k_whole); intro t' tk') | ((with_reducible show wpAny _ _ (call (Value.builtin _) [Value.ref _, _]) _ _ _); k_dflt (refine' append_L ?k1Zq ?k2Zq ?k3Zq ?zZq ?_; (case k1Zq => k_asm); (case k2Zq => k_asm); (case k3Zq => k_upd); (case zZq => first | omega | ((try simp only [List.length_append, List.length_cons, List.length_nil]); omega)); k_whole); intro h' F' N'; (try k_sweep))); k_steps))
    exact hret_one hret (by assumption) (by assumption) ⟨_, _, _, codes, rfl, rfl, o1, o2, o3, o4⟩ (by first | assumption | exact allLt_mem (by assumption) | exact allLt_mem (And.right (by assumption)) | exact allLt_mem (And.right (And.right (by assumption))) | exact allLt_mem (And.right (And.right (And.right (by assumption))))) (by intro p hp; k_ownIn)
end
local macro_rules | `(tactic| walk_at "call builtin:len") => `(tactic| (k_here; (with_reducible show wpAny _ _ (call (Value.builtin "len") [Value.ref _]) _ _ _); refine Stop.of ?_))
local macro_rules | `(tactic| walk_at "subscriptTail") => `(tactic| (k_here; (with_reducible show wpAny _ _ (subscriptTail _ _ (Value.ref _) (Value.int _ _)) _ _ _); refine Stop.of ?_))
set_option maxRecDepth 100000 in
set_option maxHeartbeats 100000000 in
theorem slashes_ok (news : List (Addr × Obj)) (lc : Addr) (vc : List Value) (nc : Nat) (codes : List Nat) (hlc : (lc, listOf vc.toArray nc) ∈ news) (hic : IntsAre vc (IN codes)) (hz : codes.length ≤ 4096) : Spec PySem.Challenge.rw_ko0129_05.row.prog Mine.hd.view_39 Mine.hd.heap_39 122 6 60 [.ref lc] news (fun led v => led = [] ∧ ∃ t, v = .int (frontL codes : Int) t) := by
  w_top off
  unfold Spec
  intros
  rename_i hret
  refine wpAny_call ?_
  k_dflt cell_enter
  (k_steps; repeat' ((with_reducible refine Stop.un ?_); (first | ((with_reducible show wpAny _ _ (subscriptTail _ _ (Value.ref _) (Value.int _ _)) _ _ _); k_dflt (refine' item_L ?NZq ?mZq ?iZq ?xZq ?kZq ?zZq ?_ ?sZq; (case NZq => k_asm); (case mZq => walk_at "kk MEM"); (case iZq => walk_at "kk INF"); (case xZq => walk_at "kk nat"); (case kZq => walk_at "kk LNF"); (case zZq => walk_at "kk LNF"); (case sZq => with_unfolding_all rfl); k_whole); intro t') | ((with_reducible show wpAny _ _ (call (Value.builtin "len") [Value.ref _]) _ _ _); k_dflt (refine' len_L ?NZq ?mZq ?iZq ?zZq ?_; (case NZq => k_asm); (case mZq => walk_at "kk MEM"); (case iZq => walk_at "kk INF"); (case zZq => walk_at "kk LNF"); k_whole); intro t' tk')); k_steps))
  unfold Stop
  refine' ksw_while (σ := Nat × Nat) (fun c => news) (fun c => [(Str.ofString "n", .int (c.1 : Int) c.2)]) (fun _ => True) [] (fun c => c.1 ≤ codes.length ∧ ∀ i, i < c.1 → codes[i]? = some 47) (fun c => codes.length - c.1) (0, _) ?w1 ?w2 trivial ?w3 ?w4 ?w5
  case w1 => assumption
  case w2 => assumption
  case w3 => kst_all
  case w4 => exact ⟨Nat.zero_le _, fun i h => absurd h (Nat.not_lt_zero _)⟩
  rintro ⟨f, tf⟩ u2 h2 tk2 _ ⟨hf, hall⟩ F' N'
  dsimp only at *
  (k_steps; repeat' ((with_reducible refine Stop.un ?_); (first | ((with_reducible show wpAny _ _ (subscriptTail _ _ (Value.ref _) (Value.int _ _)) _ _ _); k_dflt (refine' item_L ?NZq ?mZq ?iZq ?xZq ?kZq ?zZq ?_ ?sZq; (case NZq => k_asm); (case mZq => walk_at "kk MEM"); (case iZq => walk_at "kk INF"); (case xZq => walk_at "kk nat"); (case kZq => walk_at "kk LNF"); (case zZq => walk_at "kk LNF"); (case sZq => with_unfolding_all rfl); k_whole); intro t') | ((with_reducible show wpAny _ _ (call (Value.builtin "len") [Value.ref _]) _ _ _); k_dflt (refine' len_L ?NZq ?mZq ?iZq ?zZq ?_; (case NZq => k_asm); (case mZq => walk_at "kk MEM"); (case iZq => walk_at "kk INF"); (case zZq => walk_at "kk LNF"); k_whole); intro t' tk')); k_steps))
  all_goals try rw [StopG.eq]
  all_goals first
    | ((refine' ksw_end (σ := Nat × Nat) (f + 1, _) ?F ?N ?hn trivial ?hk ?hr ?hp ?hm)
       (case F => assumption)
       (case N => assumption)
       (case hk => kst_all)
       (case hn => intro p hp; k_ownIn)
       (case hr => intro z h2 h3; (simp only [List.forall_mem_cons, List.not_mem_nil, false_implies, implies_true, and_true, ne_eq] at h2); first | (simp only [kstB, h2, List.contains_nil, if_false, Bool.false_eq_true, reduceIte]; done) | ((have h4 := h3); (simp only [List.contains_cons, List.contains_nil, Bool.or_false, Bool.or_eq_false_iff, beq_eq_false_iff_ne, ne_eq] at h4); (simp only [kstB, h2, h3, h4, if_false, Bool.false_eq_true, reduceIte]; done)))
       (case hp => dsimp only; exact ⟨by omega, fun i hi => by
         rcases Nat.lt_or_ge i f with h | h
         · exact hall i h
         · have e : i = f := by omega
           rw [e]; exact getD47.mp (by omega)⟩)
       (case hm => dsimp only; omega))
    | (have e := front_uniq hall (by first | (rw [List.getElem?_eq_none (by omega)]; simp) | exact fun e => absurd (getD47.mpr e) (by omega))
       subst e
       exact hret [] _ _ _ ⟨rfl, _, rfl⟩ no_led (by k_asm) (cb_drop (by assumption) (by intro p hp; k_ownIn)))
section
local macro_rules | `(tactic| k_all) => `(tactic| assumption)
local macro_rules | `(tactic| walk_at "subscriptTail Name UnaryOp ref int") => `(tactic| (k_here; (with_reducible show wpAny _ _ (subscriptTail _ _ (Value.ref _) (Value.int _ _)) _ _ _); refine Stop.of ?_))
set_option maxRecDepth 100000 in
set_option maxHeartbeats 100000000 in
theorem pieces_ok (news : List (Addr × Obj)) (lc : Addr) (vc : List Value) (nc : Nat) (codes : List Nat) (hlc : (lc, listOf vc.toArray nc) ∈ news) (hic : IntsAre vc (IN codes)) (hz : codes.length ≤ 4096) : SpecW PySem.Challenge.rw_ko0129_05.row.prog Mine.hd.view_39 Mine.hd.heap_39 129 6 60 [.ref lc] news (fun led v => ∃ (q : Addr) (ws : List Value) (n : Nat) (sub : List (Addr × Obj)), v = .ref q ∧ led = (q, listOf ws.toArray n) :: sub ∧ LsAre (sub ++ news) ws ((splitL 47 codes).map IN)) := by
  w_top off
  unfold SpecW
  intros
  rename_i hret
  refine wpAny_call ?_
  k_dflt cell_enter
  (k_steps; repeat' ((with_reducible refine Stop.un ?_); (first | ((with_reducible show wpAny _ _ (subscriptTail _ _ (Value.ref _) (Value.int _ _)) _ _ _); k_dflt (refine' itemLast_V ?NZq ?mZq ?vZq ?zZq ?_ ?hsZq ?htZq; (case NZq => k_asm); (case mZq => walk_at "kk MEM"); (case vZq => exact List.getLast?_concat ..); (case zZq => walk_at "kk LNT"); (case hsZq => with_unfolding_all rfl); (case htZq => (intro _; with_unfolding_all rfl)); k_whole)) | ((with_reducible show wpAny _ _ (call (Value.builtin _) [Value.ref _, _]) _ _ _); k_dflt (refine' append_L ?k1Zq ?k2Zq ?k3Zq ?zZq ?_; (case k1Zq => k_asm); (case k2Zq => k_asm); (case k3Zq => k_upd); (case zZq => first | omega | ((try simp only [List.length_append, List.length_cons, List.length_nil]); omega)); k_whole); intro h' F' N'; (try k_sweep))); k_steps))
  unfold Stop
  refine For_invVF (by assumption) rfl rfl ?_
  (k_steps; repeat' ((with_reducible refine Stop.un ?_); (first | ((with_reducible show wpAny _ _ (subscriptTail _ _ (Value.ref _) (Value.int _ _)) _ _ _); k_dflt (refine' itemLast_V ?NZq ?mZq ?vZq ?zZq ?_ ?hsZq ?htZq; (case NZq => k_asm); (case mZq => walk_at "kk MEM"); (case vZq => exact List.getLast?_concat ..); (case zZq => walk_at "kk LNT"); (case hsZq => with_unfolding_all rfl); (case htZq => (intro _; with_unfolding_all rfl)); k_whole)) | ((with_reducible show wpAny _ _ (call (Value.builtin _) [Value.ref _, _]) _ _ _); k_dflt (refine' append_L ?k1Zq ?k2Zq ?k3Zq ?zZq ?_; (case k1Zq => k_asm); (case k2Zq => k_asm); (case k3Zq => k_upd); (case zZq => first | omega | ((try simp only [List.length_append, List.length_cons, List.length_nil]); omega)); k_whole); intro h' F' N'; (try k_sweep))); k_steps))
  unfold Stop
  obtain ⟨P, hP⟩ := led_head (show News _ _ _ ((_, listOf #[Value.ref _] 0) :: (_, listOf #[] 0) :: news) from by assumption)
  subst hP
  refine' for_list (σ := PcSt) (PcSt.led P news) (fun c => []) [] (fun i c => c.ok P news (codes.take i)) ⟨[], 0, _, [], 0, []⟩ rfl ?h1 ?h2 ?h3 ?h4 ?h5 ?h6 ?turn ?done
  case h4 => (show News _ _ _ ((P, listOf #[Value.ref _] 0) :: (_, listOf #[] 0) :: news)); assumption
  case h3 => assumption
  case h1 => exact News.isList (by assumption) (by (repeat (first | (with_reducible assumption) | (with_reducible exact List.mem_cons_self ..) | (with_reducible refine List.mem_cons_of_mem _ ?_))))
  case h2 => exact .inr ⟨_, fun c => List.mem_cons_of_mem _ (List.mem_cons_of_mem _ (List.mem_append_right _ hlc))⟩
  case h5 => kst_all
  case h6 => exact PcSt.start (And.left (by assumption)) (by assumption)
  case turn =>
    rintro c i v u h tk I oI hi' hv hok hne F' N'
    obtain ⟨x, t9, hx, rfl⟩ := IN_at hic hv
    have hok' := hok
    obtain ⟨done, cur, a, b, d, e, f, g⟩ := hok'
    replace N' : News _ _ h ((I, oI) :: (P, listOf (c.wd ++ [Value.ref c.last]).toArray c.n) :: (c.last, listOf c.vl.toArray c.nl) :: (c.sub ++ news)) := N'
    have f2 : ∀ p ∈ (c.last, listOf c.vl.toArray c.nl) :: (c.sub ++ news), p.1 ≠ P := fun p hp => (List.mem_cons.mp hp).elim (fun q => by rw [q]; exact Ne.symm e) (f p)
    have hn1 : P ≠ I := hne _ (.head _)
    have hn2 : c.last ≠ I := hne _ (.tail _ (.head _))
    have hn3 : @Ne Nat _ _ := hn1
    have hn4 : @Ne Nat _ _ := hn2
    have hn5 : @Ne Nat _ _ := e
    have hwl := ls_len a
    rw [List.length_map] at hwl
    have hdl := congrArg List.length d
    have hsl := splitL_length 47 (codes.take i)
    rw [List.length_take] at hsl
    rw [List.length_append, List.length_singleton] at hdl
    have hvl := ints_len b
    have hcl : cur.length ≤ 4096 := by
      have h1 := wt_mem (p := cur) (ps := splitL 47 (codes.take i)) (by rw [d]; simp)
      rw [wt_split, List.length_take] at h1
      omega
    (k_steps; repeat' ((with_reducible refine Stop.un ?_); (first | ((with_reducible show wpAny _ _ (subscriptTail _ _ (Value.ref _) (Value.int _ _)) _ _ _); k_dflt (refine' itemLast_V ?NZq ?mZq ?vZq ?zZq ?_ ?hsZq ?htZq; (case NZq => k_asm); (case mZq => walk_at "kk MEM"); (case vZq => exact List.getLast?_concat ..); (case zZq => walk_at "kk LNT"); (case hsZq => with_unfolding_all rfl); (case htZq => (intro _; with_unfolding_all rfl)); k_whole)) | ((with_reducible show wpAny _ _ (call (Value.builtin _) [Value.ref _, _]) _ _ _); k_dflt (refine' append_L ?k1Zq ?k2Zq ?k3Zq ?zZq ?_; (case k1Zq => k_asm); (case k2Zq => k_asm); (case k3Zq => k_upd); (case zZq => first | omega | ((try simp only [List.length_append, List.length_cons, List.length_nil]); omega)); k_whole); intro h' F' N'; (try k_sweep))); k_steps))
    all_goals try rw [StopG.eq]
    all_goals first
      | ((refine' turn_end (σ := PcSt) ⟨c.wd, c.n, c.last, c.vl ++ [Value.int (x : Int) t9], c.nl + 1, c.sub⟩ ?F ?N ?hn ?hI ?hne ?hk ?hr ?hp)
         (case F => assumption)
         (case N => assumption)
         (case hk => kst_all)
         (case hn => exact List.forall_mem_cons.mpr ⟨by (repeat (first | (with_reducible assumption) | (with_reducible exact List.mem_cons_self ..) | (with_reducible refine List.mem_cons_of_mem _ ?_))), List.forall_mem_cons.mpr ⟨by (repeat (first | (with_reducible assumption) | (with_reducible exact List.mem_cons_self ..) | (with_reducible refine List.mem_cons_of_mem _ ?_))), fun p hp => by (repeat (first | (with_reducible assumption) | (with_reducible exact List.mem_cons_self ..) | (with_reducible refine List.mem_cons_of_mem _ ?_)))⟩⟩)
         (case hI => (repeat (first | (with_reducible assumption) | (with_reducible exact List.mem_cons_self ..) | (with_reducible refine List.mem_cons_of_mem _ ?_))))
         (case hne => exact List.forall_mem_cons.mpr ⟨hn1, List.forall_mem_cons.mpr ⟨hn2, fun p hp => hne p (.tail _ (.tail _ hp))⟩⟩)
         (case hr => intro z h1 h2 h3; (simp only [List.forall_mem_cons, List.not_mem_nil, false_implies, implies_true, and_true, ne_eq] at h2); first | (simp only [kstB, h1, h2, List.contains_nil, if_false, Bool.false_eq_true, reduceIte]; done) | ((have h4 := h3); (simp only [List.contains_cons, List.contains_nil, Bool.or_false, Bool.or_eq_false_iff, beq_eq_false_iff_ne, ne_eq] at h4); (simp only [kstB, h1, h2, h3, h4, if_false, Bool.false_eq_true, reduceIte]; done)))
         (case hp => rw [take_snoc hx]; exact PcSt.add hok (by omega)))
      | ((refine' turn_end (σ := PcSt) ⟨c.wd ++ [Value.ref c.last], c.n + 1, _, [], 0, (c.last, listOf c.vl.toArray c.nl) :: c.sub⟩ ?F ?N ?hn ?hI ?hne ?hk ?hr ?hp)
         (case F => assumption)
         (case N => assumption)
         (case hk => kst_all)
         (case hn => exact List.forall_mem_cons.mpr ⟨by (repeat (first | (with_reducible assumption) | (with_reducible exact List.mem_cons_self ..) | (with_reducible refine List.mem_cons_of_mem _ ?_))), List.forall_mem_cons.mpr ⟨by (repeat (first | (with_reducible assumption) | (with_reducible exact List.mem_cons_self ..) | (with_reducible refine List.mem_cons_of_mem _ ?_))), List.forall_mem_cons.mpr ⟨by (repeat (first | (with_reducible assumption) | (with_reducible exact List.mem_cons_self ..) | (with_reducible refine List.mem_cons_of_mem _ ?_))), fun p hp => List.mem_cons_of_mem _ (List.mem_cons_of_mem _ (List.mem_cons_of_mem _ (List.mem_cons_of_mem _ hp)))⟩⟩⟩)
         (case hI => (repeat (first | (with_reducible assumption) | (with_reducible exact List.mem_cons_self ..) | (with_reducible refine List.mem_cons_of_mem _ ?_))))
         (case hne => exact List.forall_mem_cons.mpr ⟨hn1, List.forall_mem_cons.mpr ⟨Nat.ne_of_gt (And.left (by assumption)), List.forall_mem_cons.mpr ⟨hn2, fun p hp => hne p (.tail _ (.tail _ hp))⟩⟩⟩)
         (case hr => intro z h1 h2 h3; (simp only [List.forall_mem_cons, List.not_mem_nil, false_implies, implies_true, and_true, ne_eq] at h2); first | (simp only [kstB, h1, h2, List.contains_nil, if_false, Bool.false_eq_true, reduceIte]; done) | ((have h4 := h3); (simp only [List.contains_cons, List.contains_nil, Bool.or_false, Bool.or_eq_false_iff, beq_eq_false_iff_ne, ne_eq] at h4); (simp only [kstB, h1, h2, h3, h4, if_false, Bool.false_eq_true, reduceIte]; done)))
         (case hp =>
           have hx2 : x = 47 := by omega
           subst hx2
           rw [take_snoc hx]
           exact PcSt.new hok (allLt_mem (And.right (by assumption)))))
  case done =>
    rintro c u h tk hok F' N'
    have hi2 := ints_len hic
    rw [hi2, List.take_length] at hok
    (k_steps; repeat' ((with_reducible refine Stop.un ?_); (first | ((with_reducible show wpAny _ _ (subscriptTail _ _ (Value.ref _) (Value.int _ _)) _ _ _); k_dflt (refine' itemLast_V ?NZq ?mZq ?vZq ?zZq ?_ ?hsZq ?htZq; (case NZq => k_asm); (case mZq => walk_at "kk MEM"); (case vZq => exact List.getLast?_concat ..); (case zZq => walk_at "kk LNT"); (case hsZq => with_unfolding_all rfl); (case htZq => (intro _; with_unfolding_all rfl)); k_whole)) | ((with_reducible show wpAny _ _ (call (Value.builtin _) [Value.ref _, _]) _ _ _); k_dflt (refine' append_L ?k1Zq ?k2Zq ?k3Zq ?zZq ?_; (case k1Zq => k_asm); (case k2Zq => k_asm); (case k3Zq => k_upd); (case zZq => first | omega | ((try simp only [List.length_append, List.length_cons, List.length_nil]); omega)); k_whole); intro h' F' N'; (try k_sweep))); k_steps))
    exact hret ((P, listOf (c.wd ++ [Value.ref c.last]).toArray c.n) :: (c.last, listOf c.vl.toArray c.nl) :: c.sub) _ _ _ ⟨P, _, _, _, rfl, rfl, ls_mono (fun p hp => List.mem_append_left _ hp) (PcSt.fin hok)⟩ (by k_asm) (cb_drop (by assumption) (fun p hp => hp))
end
section
local macro_rules | `(tactic| walk_at "CompSrc") => `(tactic| refine Stop.of ?_)
local macro_rules | `(tactic| walk_at "compareOp Eq ref ref") => `(tactic| (k_here; (with_reducible show wpAny _ _ (compareOp CmpOp.Eq (Value.ref _) (Value.ref _)) _ _ _); refine Stop.of ?_))
local macro_rules | `(tactic| walk_at "compareOp NotEq ref ref") => `(tactic| (k_here; (with_reducible show wpAny _ _ (compareOp CmpOp.NotEq (Value.ref _) (Value.ref _)) _ _ _); refine Stop.of ?_))
local macro_rules | `(tactic| walk_at "binaryOp Add ref ref") => `(tactic| (k_here; (with_reducible show wpAny _ _ (binaryOp Operator.Add (Value.ref _) (Value.ref _)) _ _ _); refine Stop.of ?_))
local macro_rules | `(tactic| walk_at "subscriptTail Name Slice ref ref") => `(tactic| (k_here; (with_reducible show wpAny _ _ (subscriptTail _ (PySem.Expr.Slice _ _ none _) (Value.ref _) (Value.ref _)) _ _ _); refine Stop.of ?_))
set_option maxRecDepth 100000 in
set_option maxHeartbeats 100000000 in
theorem walk_ok (news : List (Addr × Obj)) (d : Nat) (td : Tok) (lc : Addr) (o : Obj) (ws : List Value) (ps : List (List Nat)) (hlc : (lc, o) ∈ news) (ho : lstO o ws) (hls : LsAre news ws (ps.map IN)) (hd : d ≤ 4200) (hz : ps.length ≤ 4200) : SpecW PySem.Challenge.rw_ko0129_05.row.prog Mine.hd.view_39 Mine.hd.heap_39 134 6 140 [.int (d : Int) td, .ref lc] news (fun led v => ∃ (q : Addr) (qo : Obj) (qs : List Value) (sub : List (Addr × Obj)), v = .ref q ∧ led = (q, qo) :: sub ∧ lstO qo qs ∧ LsAre (sub ++ news) qs (walkL d ps)) := by
  w_top off
  unfold SpecW
  intros
  rename_i hret
  refine wpAny_call ?_
  k_dflt cell_enter
  (k_steps; repeat' ((with_reducible refine Stop.un ?_); (first | ((with_reducible show wpAny _ _ (subscriptTail _ (PySem.Expr.Slice _ _ none _) (Value.ref _) (Value.ref _)) _ _ _); k_dflt (refine' init_R ?FZq ?NZq ?aZq ?laZq ?zZq ?_ ?sZq ?tZq; (case FZq => k_asm); (case NZq => k_asm); (case aZq => walk_at "kk MEM"); (case laZq => first | with_reducible assumption | exact lstO_of _ _); (case zZq => walk_at "kk LNF"); (case sZq => with_unfolding_all rfl); (case tZq => (intro _; with_unfolding_all rfl)); k_whole); intro D' h' F' N' l1; (try k_lt l1); (try k_sweep)) | ((with_reducible show wpAny _ _ (binaryOp Operator.Add (Value.ref _) (Value.ref _)) _ _ _); k_dflt (refine' add_R ?FZq ?NZq ?aZq ?bZq ?laZq ?lbZq ?zZq ?_; (case FZq => k_asm); (case NZq => k_asm); (case aZq => walk_at "kk MEM"); (case bZq => walk_at "kk MEM"); (case laZq => first | with_reducible assumption | exact lstO_of _ _); (case lbZq => first | with_reducible assumption | exact lstO_of _ _); (case zZq => walk_at "kk LNF"); k_whole); intro D' h' F' N' l1; (try k_lt l1); (try k_sweep)) | ((with_reducible show wpAny _ _ (compareOp CmpOp.NotEq (Value.ref _) (Value.ref _)) _ _ _); k_dflt (refine' ne_I ?NZq ?aZq ?bZq ?laZq ?lbZq ?iZq ?jZq ?uZq ?_; (case NZq => k_asm); (case aZq => walk_at "kk MEM"); (case bZq => walk_at "kk MEM"); (case laZq => first | with_reducible assumption | exact lstO_of _ _); (case lbZq => first | with_reducible assumption | exact lstO_of _ _); (case iZq => first | with_reducible assumption | exact IntsAre.nil | exact IntsAre.cons _ _ IntsAre.nil | exact IntsAre.cons _ _ (IntsAre.cons _ _ IntsAre.nil)); (case jZq => first | with_reducible assumption | exact IntsAre.nil | exact IntsAre.cons _ _ IntsAre.nil | exact IntsAre.cons _ _ (IntsAre.cons _ _ IntsAre.nil)); (case uZq => ke_room); k_whole)) | ((with_reducible show wpAny _ _ (compareOp CmpOp.Eq (Value.ref _) (Value.ref _)) _ _ _); k_dflt (refine' eq_I ?NZq ?aZq ?bZq ?laZq ?lbZq ?iZq ?jZq ?uZq ?_; (case NZq => k_asm); (case aZq => walk_at "kk MEM"); (case bZq => walk_at "kk MEM"); (case laZq => first | with_reducible assumption | exact lstO_of _ _); (case lbZq => first | with_reducible assumption | exact lstO_of _ _); (case iZq => first | with_reducible assumption | exact IntsAre.nil | exact IntsAre.cons _ _ IntsAre.nil | exact IntsAre.cons _ _ (IntsAre.cons _ _ IntsAre.nil)); (case jZq => first | with_reducible assumption | exact IntsAre.nil | exact IntsAre.cons _ _ IntsAre.nil | exact IntsAre.cons _ _ (IntsAre.cons _ _ IntsAre.nil)); (case uZq => ke_room); k_whole))); k_steps))
  refine Stop.un ?_
  refine LCg.Assign_ListComp_U (F₀ := by k_asm) (by rfl) (by with_unfolding_all rfl) (by with_unfolding_all rfl) (by decide) (by rfl) (by decide) (by rfl) (by rfl) (by rfl) ?_
  (k_steps; repeat' ((with_reducible refine Stop.un ?_); (first | ((with_reducible show wpAny _ _ (subscriptTail _ (PySem.Expr.Slice _ _ none _) (Value.ref _) (Value.ref _)) _ _ _); k_dflt (refine' init_R ?FZq ?NZq ?aZq ?laZq ?zZq ?_ ?sZq ?tZq; (case FZq => k_asm); (case NZq => k_asm); (case aZq => walk_at "kk MEM"); (case laZq => first | with_reducible assumption | exact lstO_of _ _); (case zZq => walk_at "kk LNF"); (case sZq => with_unfolding_all rfl); (case tZq => (intro _; with_unfolding_all rfl)); k_whole); intro D' h' F' N' l1; (try k_lt l1); (try k_sweep)) | ((with_reducible show wpAny _ _ (binaryOp Operator.Add (Value.ref _) (Value.ref _)) _ _ _); k_dflt (refine' add_R ?FZq ?NZq ?aZq ?bZq ?laZq ?lbZq ?zZq ?_; (case FZq => k_asm); (case NZq => k_asm); (case aZq => walk_at "kk MEM"); (case bZq => walk_at "kk MEM"); (case laZq => first | with_reducible assumption | exact lstO_of _ _); (case lbZq => first | with_reducible assumption | exact lstO_of _ _); (case zZq => walk_at "kk LNF"); k_whole); intro D' h' F' N' l1; (try k_lt l1); (try k_sweep)) | ((with_reducible show wpAny _ _ (compareOp CmpOp.NotEq (Value.ref _) (Value.ref _)) _ _ _); k_dflt (refine' ne_I ?NZq ?aZq ?bZq ?laZq ?lbZq ?iZq ?jZq ?uZq ?_; (case NZq => k_asm); (case aZq => walk_at "kk MEM"); (case bZq => walk_at "kk MEM"); (case laZq => first | with_reducible assumption | exact lstO_of _ _); (case lbZq => first | with_reducible assumption | exact lstO_of _ _); (case iZq => first | with_reducible assumption | exact IntsAre.nil | exact IntsAre.cons _ _ IntsAre.nil | exact IntsAre.cons _ _ (IntsAre.cons _ _ IntsAre.nil)); (case jZq => first | with_reducible assumption | exact IntsAre.nil | exact IntsAre.cons _ _ IntsAre.nil | exact IntsAre.cons _ _ (IntsAre.cons _ _ IntsAre.nil)); (case uZq => ke_room); k_whole)) | ((with_reducible show wpAny _ _ (compareOp CmpOp.Eq (Value.ref _) (Value.ref _)) _ _ _); k_dflt (refine' eq_I ?NZq ?aZq ?bZq ?laZq ?lbZq ?iZq ?jZq ?uZq ?_; (case NZq => k_asm); (case aZq => walk_at "kk MEM"); (case bZq => walk_at "kk MEM"); (case laZq => first | with_reducible assumption | exact lstO_of _ _); (case lbZq => first | with_reducible assumption | exact lstO_of _ _); (case iZq => first | with_reducible assumption | exact IntsAre.nil | exact IntsAre.cons _ _ IntsAre.nil | exact IntsAre.cons _ _ (IntsAre.cons _ _ IntsAre.nil)); (case jZq => first | with_reducible assumption | exact IntsAre.nil | exact IntsAre.cons _ _ IntsAre.nil | exact IntsAre.cons _ _ (IntsAre.cons _ _ IntsAre.nil)); (case uZq => ke_room); k_whole))); k_steps))
  refine Stop.un ?_
  refine LCg.CompSrc.range (n := d) (by rfl) (by k_asm) (by k_asm) (by assumption) (small_one (by omega) (by omega) (by omega) (by omega)) (by rw [rangeSize_nat]; omega) (by rw [sizeLine_eq]; omega) ?_
  intro g'
  refine lls_rest (fun k => [0 - k]) (fun k t I oI C oC D m₂ ys nw h tk E' hC hx F' N' off ne => ?_) (fun ys sub hl => ?_)
  · (k_steps; repeat' ((with_reducible refine Stop.un ?_); (first | ((with_reducible show wpAny _ _ (subscriptTail _ (PySem.Expr.Slice _ _ none _) (Value.ref _) (Value.ref _)) _ _ _); k_dflt (refine' init_R ?FZq ?NZq ?aZq ?laZq ?zZq ?_ ?sZq ?tZq; (case FZq => k_asm); (case NZq => k_asm); (case aZq => walk_at "kk MEM"); (case laZq => first | with_reducible assumption | exact lstO_of _ _); (case zZq => walk_at "kk LNF"); (case sZq => with_unfolding_all rfl); (case tZq => (intro _; with_unfolding_all rfl)); k_whole); intro D' h' F' N' l1; (try k_lt l1); (try k_sweep)) | ((with_reducible show wpAny _ _ (binaryOp Operator.Add (Value.ref _) (Value.ref _)) _ _ _); k_dflt (refine' add_R ?FZq ?NZq ?aZq ?bZq ?laZq ?lbZq ?zZq ?_; (case FZq => k_asm); (case NZq => k_asm); (case aZq => walk_at "kk MEM"); (case bZq => walk_at "kk MEM"); (case laZq => first | with_reducible assumption | exact lstO_of _ _); (case lbZq => first | with_reducible assumption | exact lstO_of _ _); (case zZq => walk_at "kk LNF"); k_whole); intro D' h' F' N' l1; (try k_lt l1); (try k_sweep)) | ((with_reducible show wpAny _ _ (compareOp CmpOp.NotEq (Value.ref _) (Value.ref _)) _ _ _); k_dflt (refine' ne_I ?NZq ?aZq ?bZq ?laZq ?lbZq ?iZq ?jZq ?uZq ?_; (case NZq => k_asm); (case aZq => walk_at "kk MEM"); (case bZq => walk_at "kk MEM"); (case laZq => first | with_reducible assumption | exact lstO_of _ _); (case lbZq => first | with_reducible assumption | exact lstO_of _ _); (case iZq => first | with_reducible assumption | exact IntsAre.nil | exact IntsAre.cons _ _ IntsAre.nil | exact IntsAre.cons _ _ (IntsAre.cons _ _ IntsAre.nil)); (case jZq => first | with_reducible assumption | exact IntsAre.nil | exact IntsAre.cons _ _ IntsAre.nil | exact IntsAre.cons _ _ (IntsAre.cons _ _ IntsAre.nil)); (case uZq => ke_room); k_whole)) | ((with_reducible show wpAny _ _ (compareOp CmpOp.Eq (Value.ref _) (Value.ref _)) _ _ _); k_dflt (refine' eq_I ?NZq ?aZq ?bZq ?laZq ?lbZq ?iZq ?jZq ?uZq ?_; (case NZq => k_asm); (case aZq => walk_at "kk MEM"); (case bZq => walk_at "kk MEM"); (case laZq => first | with_reducible assumption | exact lstO_of _ _); (case lbZq => first | with_reducible assumption | exact lstO_of _ _); (case iZq => first | with_reducible assumption | exact IntsAre.nil | exact IntsAre.cons _ _ IntsAre.nil | exact IntsAre.cons _ _ (IntsAre.cons _ _ IntsAre.nil)); (case jZq => first | with_reducible assumption | exact IntsAre.nil | exact IntsAre.cons _ _ IntsAre.nil | exact IntsAre.cons _ _ (IntsAre.cons _ _ IntsAre.nil)); (case uZq => ke_room); k_whole))); k_steps))
    exact lls_end (by assumption) (by assumption) (by assumption) off (lstO_of _ _) (IntsAre.cons _ _ IntsAre.nil)
  · (k_steps; repeat' ((with_reducible refine Stop.un ?_); (first | ((with_reducible show wpAny _ _ (subscriptTail _ (PySem.Expr.Slice _ _ none _) (Value.ref _) (Value.ref _)) _ _ _); k_dflt (refine' init_R ?FZq ?NZq ?aZq ?laZq ?zZq ?_ ?sZq ?tZq; (case FZq => k_asm); (case NZq => k_asm); (case aZq => walk_at "kk MEM"); (case laZq => first | with_reducible assumption | exact lstO_of _ _); (case zZq => walk_at "kk LNF"); (case sZq => with_unfolding_all rfl); (case tZq => (intro _; with_unfolding_all rfl)); k_whole); intro D' h' F' N' l1; (try k_lt l1); (try k_sweep)) | ((with_reducible show wpAny _ _ (binaryOp Operator.Add (Value.ref _) (Value.ref _)) _ _ _); k_dflt (refine' add_R ?FZq ?NZq ?aZq ?bZq ?laZq ?lbZq ?zZq ?_; (case FZq => k_asm); (case NZq => k_asm); (case aZq => walk_at "kk MEM"); (case bZq => walk_at "kk MEM"); (case laZq => first | with_reducible assumption | exact lstO_of _ _); (case lbZq => first | with_reducible assumption | exact lstO_of _ _); (case zZq => walk_at "kk LNF"); k_whole); intro D' h' F' N' l1; (try k_lt l1); (try k_sweep)) | ((with_reducible show wpAny _ _ (compareOp CmpOp.NotEq (Value.ref _) (Value.ref _)) _ _ _); k_dflt (refine' ne_I ?NZq ?aZq ?bZq ?laZq ?lbZq ?iZq ?jZq ?uZq ?_; (case NZq => k_asm); (case aZq => walk_at "kk MEM"); (case bZq => walk_at "kk MEM"); (case laZq => first | with_reducible assumption | exact lstO_of _ _); (case lbZq => first | with_reducible assumption | exact lstO_of _ _); (case iZq => first | with_reducible assumption | exact IntsAre.nil | exact IntsAre.cons _ _ IntsAre.nil | exact IntsAre.cons _ _ (IntsAre.cons _ _ IntsAre.nil)); (case jZq => first | with_reducible assumption | exact IntsAre.nil | exact IntsAre.cons _ _ IntsAre.nil | exact IntsAre.cons _ _ (IntsAre.cons _ _ IntsAre.nil)); (case uZq => ke_room); k_whole)) | ((with_reducible show wpAny _ _ (compareOp CmpOp.Eq (Value.ref _) (Value.ref _)) _ _ _); k_dflt (refine' eq_I ?NZq ?aZq ?bZq ?laZq ?lbZq ?iZq ?jZq ?uZq ?_; (case NZq => k_asm); (case aZq => walk_at "kk MEM"); (case bZq => walk_at "kk MEM"); (case laZq => first | with_reducible assumption | exact lstO_of _ _); (case lbZq => first | with_reducible assumption | exact lstO_of _ _); (case iZq => first | with_reducible assumption | exact IntsAre.nil | exact IntsAre.cons _ _ IntsAre.nil | exact IntsAre.cons _ _ (IntsAre.cons _ _ IntsAre.nil)); (case jZq => first | with_reducible assumption | exact IntsAre.nil | exact IntsAre.cons _ _ IntsAre.nil | exact IntsAre.cons _ _ (IntsAre.cons _ _ IntsAre.nil)); (case uZq => ke_room); k_whole))); k_steps))
    refine Stop.un ?_
    refine For_invVF (by assumption) rfl rfl ?_
    (k_steps; repeat' ((with_reducible refine Stop.un ?_); (first | ((with_reducible show wpAny _ _ (subscriptTail _ (PySem.Expr.Slice _ _ none _) (Value.ref _) (Value.ref _)) _ _ _); k_dflt (refine' init_R ?FZq ?NZq ?aZq ?laZq ?zZq ?_ ?sZq ?tZq; (case FZq => k_asm); (case NZq => k_asm); (case aZq => walk_at "kk MEM"); (case laZq => first | with_reducible assumption | exact lstO_of _ _); (case zZq => walk_at "kk LNF"); (case sZq => with_unfolding_all rfl); (case tZq => (intro _; with_unfolding_all rfl)); k_whole); intro D' h' F' N' l1; (try k_lt l1); (try k_sweep)) | ((with_reducible show wpAny _ _ (binaryOp Operator.Add (Value.ref _) (Value.ref _)) _ _ _); k_dflt (refine' add_R ?FZq ?NZq ?aZq ?bZq ?laZq ?lbZq ?zZq ?_; (case FZq => k_asm); (case NZq => k_asm); (case aZq => walk_at "kk MEM"); (case bZq => walk_at "kk MEM"); (case laZq => first | with_reducible assumption | exact lstO_of _ _); (case lbZq => first | with_reducible assumption | exact lstO_of _ _); (case zZq => walk_at "kk LNF"); k_whole); intro D' h' F' N' l1; (try k_lt l1); (try k_sweep)) | ((with_reducible show wpAny _ _ (compareOp CmpOp.NotEq (Value.ref _) (Value.ref _)) _ _ _); k_dflt (refine' ne_I ?NZq ?aZq ?bZq ?laZq ?lbZq ?iZq ?jZq ?uZq ?_; (case NZq => k_asm); (case aZq => walk_at "kk MEM"); (case bZq => walk_at "kk MEM"); (case laZq => first | with_reducible assumption | exact lstO_of _ _); (case lbZq => first | with_reducible assumption | exact lstO_of _ _); (case iZq => first | with_reducible assumption | exact IntsAre.nil | exact IntsAre.cons _ _ IntsAre.nil | exact IntsAre.cons _ _ (IntsAre.cons _ _ IntsAre.nil)); (case jZq => first | with_reducible assumption | exact IntsAre.nil | exact IntsAre.cons _ _ IntsAre.nil | exact IntsAre.cons _ _ (IntsAre.cons _ _ IntsAre.nil)); (case uZq => ke_room); k_whole)) | ((with_reducible show wpAny _ _ (compareOp CmpOp.Eq (Value.ref _) (Value.ref _)) _ _ _); k_dflt (refine' eq_I ?NZq ?aZq ?bZq ?laZq ?lbZq ?iZq ?jZq ?uZq ?_; (case NZq => k_asm); (case aZq => walk_at "kk MEM"); (case bZq => walk_at "kk MEM"); (case laZq => first | with_reducible assumption | exact lstO_of _ _); (case lbZq => first | with_reducible assumption | exact lstO_of _ _); (case iZq => first | with_reducible assumption | exact IntsAre.nil | exact IntsAre.cons _ _ IntsAre.nil | exact IntsAre.cons _ _ (IntsAre.cons _ _ IntsAre.nil)); (case jZq => first | with_reducible assumption | exact IntsAre.nil | exact IntsAre.cons _ _ IntsAre.nil | exact IntsAre.cons _ _ (IntsAre.cons _ _ IntsAre.nil)); (case uZq => ke_room); k_whole))); k_steps))
    refine Stop.un ?_
    obtain ⟨P, hP⟩ := led_head (show News _ _ _ ((_, LCg.lst ys) :: (sub ++ news)) from by assumption)
    subst hP
    refine' for_list (σ := WkSt) (WkSt.led news) (fun c => [(Str.ofString "place", .ref c.P)]) [] (fun i c => c.ok news d (ps.take i)) ⟨P, LCg.lst ys, ys, sub⟩ rfl ?h1 ?h2 ?h3 ?h4 ?h5 ?h6 ?turn ?done
    case h4 => (show News _ _ _ ((P, LCg.lst ys) :: (sub ++ news))); assumption
    case h3 => assumption
    case h1 => exact lst_is (show News _ _ _ ((P, LCg.lst ys) :: (sub ++ news)) from by assumption) (List.mem_cons_of_mem _ (List.mem_append_right _ hlc)) ho
    case h2 => exact .inr ⟨_, fun c => List.mem_cons_of_mem _ (List.mem_append_right _ hlc)⟩
    case h5 => kst_all
    case h6 => exact WkSt.start ⟨rfl, _, rfl⟩ hl
    case turn =>
      rintro c i v u h tk I oI hi' hv hok hne F' N'
      obtain ⟨q, a, oa, va, hq, rfl, hma, hoa, hia⟩ := ls_at hls hv
      obtain ⟨p, hp, rfl⟩ : ∃ p, ps[i]? = some p ∧ q = IN p := by
        rw [List.getElem?_map] at hq
        cases e : ps[i]? with
        | none => rw [e] at hq; cases hq
        | some p => rw [e] at hq; cases hq; exact ⟨p, rfl, rfl⟩
      obtain ⟨hco, hcl⟩ := id hok
      replace N' : News _ _ h ((I, oI) :: (c.P, c.o) :: (c.sub ++ news)) := N'
      have hma2 : (a, oa) ∈ c.sub ++ news := List.mem_append_right _ hma
      have hn1 : c.P ≠ I := hne _ (.head _)
      have hwl := ls_len hcl
      have hwl2 := walkL_len d (ps.take i)
      rw [List.length_take] at hwl2
      clear hq hv
      (k_steps; repeat' ((with_reducible refine Stop.un ?_); (first | ((with_reducible show wpAny _ _ (subscriptTail _ (PySem.Expr.Slice _ _ none _) (Value.ref _) (Value.ref _)) _ _ _); k_dflt (refine' init_R ?FZq ?NZq ?aZq ?laZq ?zZq ?_ ?sZq ?tZq; (case FZq => k_asm); (case NZq => k_asm); (case aZq => walk_at "kk MEM"); (case laZq => first | with_reducible assumption | exact lstO_of _ _); (case zZq => walk_at "kk LNF"); (case sZq => with_unfolding_all rfl); (case tZq => (intro _; with_unfolding_all rfl)); k_whole); intro D' h' F' N' l1; (try k_lt l1); (try k_sweep)) | ((with_reducible show wpAny _ _ (binaryOp Operator.Add (Value.ref _) (Value.ref _)) _ _ _); k_dflt (refine' add_R ?FZq ?NZq ?aZq ?bZq ?laZq ?lbZq ?zZq ?_; (case FZq => k_asm); (case NZq => k_asm); (case aZq => walk_at "kk MEM"); (case bZq => walk_at "kk MEM"); (case laZq => first | with_reducible assumption | exact lstO_of _ _); (case lbZq => first | with_reducible assumption | exact lstO_of _ _); (case zZq => walk_at "kk LNF"); k_whole); intro D' h' F' N' l1; (try k_lt l1); (try k_sweep)) | ((with_reducible show wpAny _ _ (compareOp CmpOp.NotEq (Value.ref _) (Value.ref _)) _ _ _); k_dflt (refine' ne_I ?NZq ?aZq ?bZq ?laZq ?lbZq ?iZq ?jZq ?uZq ?_; (case NZq => k_asm); (case aZq => walk_at "kk MEM"); (case bZq => walk_at "kk MEM"); (case laZq => first | with_reducible assumption | exact lstO_of _ _); (case lbZq => first | with_reducible assumption | exact lstO_of _ _); (case iZq => first | with_reducible assumption | exact IntsAre.nil | exact IntsAre.cons _ _ IntsAre.nil | exact IntsAre.cons _ _ (IntsAre.cons _ _ IntsAre.nil)); (case jZq => first | with_reducible assumption | exact IntsAre.nil | exact IntsAre.cons _ _ IntsAre.nil | exact IntsAre.cons _ _ (IntsAre.cons _ _ IntsAre.nil)); (case uZq => ke_room); k_whole)) | ((with_reducible show wpAny _ _ (compareOp CmpOp.Eq (Value.ref _) (Value.ref _)) _ _ _); k_dflt (refine' eq_I ?NZq ?aZq ?bZq ?laZq ?lbZq ?iZq ?jZq ?uZq ?_; (case NZq => k_asm); (case aZq => walk_at "kk MEM"); (case bZq => walk_at "kk MEM"); (case laZq => first | with_reducible assumption | exact lstO_of _ _); (case lbZq => first | with_reducible assumption | exact lstO_of _ _); (case iZq => first | with_reducible assumption | exact IntsAre.nil | exact IntsAre.cons _ _ IntsAre.nil | exact IntsAre.cons _ _ (IntsAre.cons _ _ IntsAre.nil)); (case jZq => first | with_reducible assumption | exact IntsAre.nil | exact IntsAre.cons _ _ IntsAre.nil | exact IntsAre.cons _ _ (IntsAre.cons _ _ IntsAre.nil)); (case uZq => ke_room); k_whole))); k_steps))
      all_goals try rw [StopG.eq]
      all_goals first
        | ((refine' turn_end (σ := WkSt) c ?F ?N ?hn ?hI ?hne ?hk ?hr ?hp)
           (case F => assumption)
           (case N => assumption)
           (case hk => kst_all)
           (case hn => exact List.forall_mem_cons.mpr ⟨by (repeat (first | (with_reducible assumption) | (with_reducible exact List.mem_cons_self ..) | (with_reducible refine List.mem_cons_of_mem _ ?_))), fun p hp => by (repeat (first | (with_reducible assumption) | (with_reducible exact List.mem_cons_self ..) | (with_reducible refine List.mem_cons_of_mem _ ?_)))⟩)
           (case hI => (repeat (first | (with_reducible assumption) | (with_reducible exact List.mem_cons_self ..) | (with_reducible refine List.mem_cons_of_mem _ ?_))))
           (case hne => exact List.forall_mem_cons.mpr ⟨hn1, fun p hp => hne p (.tail _ hp)⟩)
           (case hr => intro z h1 h2 h3; (simp only [List.forall_mem_cons, List.not_mem_nil, false_implies, implies_true, and_true, ne_eq] at h2); first | (simp only [kstB, h1, h2, List.contains_nil, if_false, Bool.false_eq_true, reduceIte]; done) | ((have h4 := h3); (simp only [List.contains_cons, List.contains_nil, Bool.or_false, Bool.or_eq_false_iff, beq_eq_false_iff_ne, ne_eq] at h4); (simp only [kstB, h1, h2, h3, h4, if_false, Bool.false_eq_true, reduceIte]; done)))
           (case hp => rw [takeA_snoc hp]; exact WkSt.skip hok (by first | exact .inl (in_nil.mp (Classical.not_not.mp (by assumption))) | exact .inr (in_dot.mp (Classical.not_not.mp (by assumption))))))
        | ((refine' turn_end (σ := WkSt) ⟨_, listOf c.w.dropLast.toArray 0, c.w.dropLast, c.sub⟩ ?F ?N ?hn ?hI ?hne ?hk ?hr ?hp)
           (case F => assumption)
           (case N => assumption)
           (case hk => kst_all)
           (case hn => exact List.forall_mem_cons.mpr ⟨by (repeat (first | (with_reducible assumption) | (with_reducible exact List.mem_cons_self ..) | (with_reducible refine List.mem_cons_of_mem _ ?_))), fun p hp => by (repeat (first | (with_reducible assumption) | (with_reducible exact List.mem_cons_self ..) | (with_reducible refine List.mem_cons_of_mem _ ?_)))⟩)
           (case hI => (repeat (first | (with_reducible assumption) | (with_reducible exact List.mem_cons_self ..) | (with_reducible refine List.mem_cons_of_mem _ ?_))))
           (case hne => exact List.forall_mem_cons.mpr ⟨Nat.ne_of_gt (And.left (And.right (by assumption))), fun p hp => hne p (.tail _ hp)⟩)
           (case hr => intro z h1 h2 h3; (simp only [List.forall_mem_cons, List.not_mem_nil, false_implies, implies_true, and_true, ne_eq] at h2); first | (simp only [kstB, h1, h2, List.contains_nil, if_false, Bool.false_eq_true, reduceIte]; done) | ((have h4 := h3); (simp only [List.contains_cons, List.contains_nil, Bool.or_false, Bool.or_eq_false_iff, beq_eq_false_iff_ne, ne_eq] at h4); (simp only [kstB, h1, h2, h3, h4, if_false, Bool.false_eq_true, reduceIte]; done)))
           (case hp => rw [takeA_snoc hp]; exact WkSt.pop hok (in_dd.mp (by assumption)) (fun x hx => hx)))
        | ((refine' turn_end (σ := WkSt) ⟨_, listOf (c.w ++ [Value.ref a]).toArray 0, c.w ++ [Value.ref a], c.sub⟩ ?F ?N ?hn ?hI ?hne ?hk ?hr ?hp)
           (case F => assumption)
           (case N => assumption)
           (case hk => kst_all)
           (case hn => exact List.forall_mem_cons.mpr ⟨by (repeat (first | (with_reducible assumption) | (with_reducible exact List.mem_cons_self ..) | (with_reducible refine List.mem_cons_of_mem _ ?_))), fun p hp => by (repeat (first | (with_reducible assumption) | (with_reducible exact List.mem_cons_self ..) | (with_reducible refine List.mem_cons_of_mem _ ?_)))⟩)
           (case hI => (repeat (first | (with_reducible assumption) | (with_reducible exact List.mem_cons_self ..) | (with_reducible refine List.mem_cons_of_mem _ ?_))))
           (case hne => exact List.forall_mem_cons.mpr ⟨Nat.ne_of_gt (And.left (And.right (And.right (And.right (And.right (by assumption)))))), fun p hp => hne p (.tail _ hp)⟩)
           (case hr => intro z h1 h2 h3; (simp only [List.forall_mem_cons, List.not_mem_nil, false_implies, implies_true, and_true, ne_eq] at h2); first | (simp only [kstB, h1, h2, List.contains_nil, if_false, Bool.false_eq_true, reduceIte]; done) | ((have h4 := h3); (simp only [List.contains_cons, List.contains_nil, Bool.or_false, Bool.or_eq_false_iff, beq_eq_false_iff_ne, ne_eq] at h4); (simp only [kstB, h1, h2, h3, h4, if_false, Bool.false_eq_true, reduceIte]; done)))
           (case hp => rw [takeA_snoc hp]; exact WkSt.add hok (fun e => absurd (in_nil.mpr e) (by assumption)) (fun e => absurd (in_dot.mpr e) (by assumption)) (fun e => absurd (in_dd.mpr e) (by assumption)) hma hoa hia (fun x hx => hx)))
    case done =>
      rintro c u h tk hok F' N'
      have hi2 := ls_len hls
      rw [List.length_map] at hi2
      rw [hi2, List.take_length] at hok
      (k_steps; repeat' ((with_reducible refine Stop.un ?_); (first | ((with_reducible show wpAny _ _ (subscriptTail _ (PySem.Expr.Slice _ _ none _) (Value.ref _) (Value.ref _)) _ _ _); k_dflt (refine' init_R ?FZq ?NZq ?aZq ?laZq ?zZq ?_ ?sZq ?tZq; (case FZq => k_asm); (case NZq => k_asm); (case aZq => walk_at "kk MEM"); (case laZq => first | with_reducible assumption | exact lstO_of _ _); (case zZq => walk_at "kk LNF"); (case sZq => with_unfolding_all rfl); (case tZq => (intro _; with_unfolding_all rfl)); k_whole); intro D' h' F' N' l1; (try k_lt l1); (try k_sweep)) | ((with_reducible show wpAny _ _ (binaryOp Operator.Add (Value.ref _) (Value.ref _)) _ _ _); k_dflt (refine' add_R ?FZq ?NZq ?aZq ?bZq ?laZq ?lbZq ?zZq ?_; (case FZq => k_asm); (case NZq => k_asm); (case aZq => walk_at "kk MEM"); (case bZq => walk_at "kk MEM"); (case laZq => first | with_reducible assumption | exact lstO_of _ _); (case lbZq => first | with_reducible assumption | exact lstO_of _ _); (case zZq => walk_at "kk LNF"); k_whole); intro D' h' F' N' l1; (try k_lt l1); (try k_sweep)) | ((with_reducible show wpAny _ _ (compareOp CmpOp.NotEq (Value.ref _) (Value.ref _)) _ _ _); k_dflt (refine' ne_I ?NZq ?aZq ?bZq ?laZq ?lbZq ?iZq ?jZq ?uZq ?_; (case NZq => k_asm); (case aZq => walk_at "kk MEM"); (case bZq => walk_at "kk MEM"); (case laZq => first | with_reducible assumption | exact lstO_of _ _); (case lbZq => first | with_reducible assumption | exact lstO_of _ _); (case iZq => first | with_reducible assumption | exact IntsAre.nil | exact IntsAre.cons _ _ IntsAre.nil | exact IntsAre.cons _ _ (IntsAre.cons _ _ IntsAre.nil)); (case jZq => first | with_reducible assumption | exact IntsAre.nil | exact IntsAre.cons _ _ IntsAre.nil | exact IntsAre.cons _ _ (IntsAre.cons _ _ IntsAre.nil)); (case uZq => ke_room); k_whole)) | ((with_reducible show wpAny _ _ (compareOp CmpOp.Eq (Value.ref _) (Value.ref _)) _ _ _); k_dflt (refine' eq_I ?NZq ?aZq ?bZq ?laZq ?lbZq ?iZq ?jZq ?uZq ?_; (case NZq => k_asm); (case aZq => walk_at "kk MEM"); (case bZq => walk_at "kk MEM"); (case laZq => first | with_reducible assumption | exact lstO_of _ _); (case lbZq => first | with_reducible assumption | exact lstO_of _ _); (case iZq => first | with_reducible assumption | exact IntsAre.nil | exact IntsAre.cons _ _ IntsAre.nil | exact IntsAre.cons _ _ (IntsAre.cons _ _ IntsAre.nil)); (case jZq => first | with_reducible assumption | exact IntsAre.nil | exact IntsAre.cons _ _ IntsAre.nil | exact IntsAre.cons _ _ (IntsAre.cons _ _ IntsAre.nil)); (case uZq => ke_room); k_whole))); k_steps))
      exact hret ((c.P, c.o) :: c.sub) _ _ _ ⟨c.P, _, _, _, rfl, rfl, hok.1, hok.2⟩ (by k_asm) (cb_drop (by assumption) (fun p hp => hp))
end
section
local macro_rules | `(tactic| walk_at "call ref") => `(tactic| (k_here; (with_reducible show wpAny _ _ (call (Value.ref 122) _) _ _ _); refine Stop.of ?_))
local macro_rules | `(tactic| walk_at "call ref") => `(tactic| (k_here; (with_reducible show wpAny _ _ (call (Value.ref 129) _) _ _ _); refine Stop.of ?_))
local macro_rules | `(tactic| walk_at "call ref") => `(tactic| (k_here; (with_reducible show wpAny _ _ (call (Value.ref 134) _) _ _ _); refine Stop.of ?_))
local macro_rules | `(tactic| walk_at "exec If") => `(tactic| (k_here; (fail_if_success (with_reducible show wpAny _ _ _ (SetTo _ _ _ _ _ _ _) _ _)); (fail_if_success (with_reducible show wpAny _ _ _ (RetOr _ _ _ _ _ _ _) _ _)); (with_reducible show wpAny _ _ (exec (Stmt.If (PySem.Expr.Compare _ [CmpOp.Gt] _ _) [Stmt.Assign _ _ _] _ _) _) _ _ _); refine Stop.of ?_))
local macro_rules | `(tactic| walk_at "exec If") => `(tactic| (k_here; (fail_if_success (with_reducible show wpAny _ _ _ (SetTo _ _ _ _ _ _ _) _ _)); (fail_if_success (with_reducible show wpAny _ _ _ (RetOr _ _ _ _ _ _ _) _ _)); (with_reducible show wpAny _ _ (exec (Stmt.If (PySem.Expr.BoolOp _ _ _) [Stmt.Return _ _] _ _) _) _ _ _); refine Stop.of ?_))
local macro_rules | `(tactic| walk_at "exec Assign") => `(tactic| (k_here; (fail_if_success (with_reducible show wpAny _ _ _ (SetTo _ _ _ _ _ _ _) _ _)); (fail_if_success (with_reducible show wpAny _ _ _ (RetOr _ _ _ _ _ _ _) _ _)); (with_reducible show wpAny _ _ (exec (Stmt.Assign _ (PySem.Expr.IfExp _ _ _ _) _) _) _ _ _); refine Stop.of ?_))
local macro_rules | `(tactic| walk_at "compareOp Eq ref ref") => `(tactic| (k_here; (with_reducible show wpAny _ _ (compareOp CmpOp.Eq (Value.ref _) (Value.ref _)) _ _ _); refine Stop.of ?_))
local macro_rules | `(tactic| walk_at "compareOp NotEq ref ref") => `(tactic| (k_here; (with_reducible show wpAny _ _ (compareOp CmpOp.NotEq (Value.ref _) (Value.ref _)) _ _ _); refine Stop.of ?_))
local macro_rules | `(tactic| walk_at "subscriptTail Name Slice ref ref") => `(tactic| (k_here; (with_reducible show wpAny _ _ (subscriptTail _ (PySem.Expr.Slice _ _ none _) (Value.ref _) (Value.ref _)) _ _ _); refine Stop.of ?_))
local macro_rules | `(tactic| walk_at "binaryOp Add ref ref") => `(tactic| (k_here; (with_reducible show wpAny _ _ (binaryOp Operator.Add (Value.ref _) (Value.ref _)) _ _ _); refine Stop.of ?_))
set_option maxRecDepth 100000 in
set_option maxHeartbeats 100000000 in
theorem right_ok (news : List (Addr × Obj)) (lc lt : Addr) (vc vt : List Value) (nc nt : Nat) (codes : List Nat) (hlc : (lc, listOf vc.toArray nc) ∈ news) (hlt : (lt, listOf vt.toArray nt) ∈ news) (hic : IntsAre vc (IN codes)) (hit : IntsAre vt (IN (normL codes))) (hz : codes.length ≤ 4096) (hz2 : (normL codes).length ≤ 4096) (hc : ∀ c ∈ codes, 1 ≤ c) : SpecW PySem.Challenge.rw_ko0129_05.row.prog Mine.hd.view_39 Mine.hd.heap_39 141 12 300 [.ref lc, .ref lt] news (fun led v => led = [] ∧ v = .bool true) := by
  w_top off
  unfold SpecW
  intros
  rename_i hret
  refine wpAny_call ?_
  k_dflt cell_enter
  (k_steps; repeat' ((with_reducible refine Stop.un ?_); (first | ((with_reducible show wpAny _ _ (call (Value.builtin "len") [Value.ref _]) _ _ _); k_dflt (refine' len_R ?NZq ?mZq ?iZq ?zZq ?_; (case NZq => k_asm); (case mZq => (repeat (first | (with_reducible assumption) | (with_reducible exact List.mem_cons_self ..) | (with_reducible refine List.mem_cons_of_mem _ ?_) | (with_reducible refine List.mem_append_right _ ?_)))); (case iZq => with_reducible assumption); (case zZq => walk_at "kk LNF"); k_whole); intro t' tk') | ((with_reducible show wpAny _ _ (binaryOp Operator.Add (Value.ref _) (Value.ref _)) _ _ _); k_dflt (refine' add_R ?FZq ?NZq ?aZq ?bZq ?laZq ?lbZq ?zZq ?_; (case FZq => k_asm); (case NZq => k_asm); (case aZq => (repeat (first | (with_reducible assumption) | (with_reducible exact List.mem_cons_self ..) | (with_reducible refine List.mem_cons_of_mem _ ?_) | (with_reducible refine List.mem_append_right _ ?_)))); (case bZq => (repeat (first | (with_reducible assumption) | (with_reducible exact List.mem_cons_self ..) | (with_reducible refine List.mem_cons_of_mem _ ?_) | (with_reducible refine List.mem_append_right _ ?_)))); (case laZq => first | with_reducible assumption | exact lstO_of _ _); (case lbZq => first | with_reducible assumption | exact lstO_of _ _); (case zZq => walk_at "kk LNF"); k_whole); intro D' h' F' N' l1; (try k_lt l1); (try k_sweep)) | ((with_reducible show wpAny _ _ (subscriptTail _ (PySem.Expr.Slice _ _ none _) (Value.ref _) (Value.ref _)) _ _ _); k_dflt (refine' from_R ?FZq ?NZq ?mZq ?iZq ?yZq ?zZq ?_ ?sZq ?tZq; (case FZq => k_asm); (case NZq => k_asm); (case mZq => (repeat (first | (with_reducible assumption) | (with_reducible exact List.mem_cons_self ..) | (with_reducible refine List.mem_cons_of_mem _ ?_) | (with_reducible refine List.mem_append_right _ ?_)))); (case iZq => first | with_reducible assumption | exact lstO_of _ _); (case yZq => walk_at "kk nat"); (case zZq => walk_at "kk LNF"); (case sZq => with_unfolding_all rfl); (case tZq => (intro _; with_unfolding_all rfl)); k_whole); intro D' h' F' N' l1; (try k_lt l1); (try k_sweep)) | ((with_reducible show wpAny _ _ (subscriptTail _ (PySem.Expr.Slice _ _ none _) (Value.ref _) (Value.ref _)) _ _ _); k_dflt (refine' upto_R ?FZq ?NZq ?mZq ?iZq ?yZq ?zZq ?_ ?sZq ?tZq; (case FZq => k_asm); (case NZq => k_asm); (case mZq => (repeat (first | (with_reducible assumption) | (with_reducible exact List.mem_cons_self ..) | (with_reducible refine List.mem_cons_of_mem _ ?_) | (with_reducible refine List.mem_append_right _ ?_)))); (case iZq => first | with_reducible assumption | exact lstO_of _ _); (case yZq => walk_at "kk nat"); (case zZq => walk_at "kk LNF"); (case sZq => with_unfolding_all rfl); (case tZq => (intro _; with_unfolding_all rfl)); k_whole); intro D' h' F' N' l1; (try k_lt l1); (try k_sweep)) | ((with_reducible show wpAny _ _ (subscriptTail _ (PySem.Expr.Slice _ _ none _) (Value.ref _) (Value.ref _)) _ _ _); k_dflt (refine' from_L ?FZq ?NZq ?mZq ?iZq ?yZq ?zZq ?_ ?sZq ?tZq; (case FZq => k_asm); (case NZq => k_asm); (case mZq => (repeat (first | (with_reducible assumption) | (with_reducible exact List.mem_cons_self ..) | (with_reducible refine List.mem_cons_of_mem _ ?_) | (with_reducible refine List.mem_append_right _ ?_)))); (case iZq => walk_at "kk INF"); (case yZq => walk_at "kk nat"); (case zZq => walk_at "kk LNF"); (case sZq => with_unfolding_all rfl); (case tZq => (intro _; with_unfolding_all rfl)); k_whole); intro D' ws' h' F' N' l1 hI'; (try k_lt l1); (try k_sweep)) | ((with_reducible show wpAny _ _ (call (Value.builtin "len") [Value.ref _]) _ _ _); k_dflt (refine' len_L ?NZq ?mZq ?iZq ?zZq ?_; (case NZq => k_asm); (case mZq => (repeat (first | (with_reducible assumption) | (with_reducible exact List.mem_cons_self ..) | (with_reducible refine List.mem_cons_of_mem _ ?_) | (with_reducible refine List.mem_append_right _ ?_)))); (case iZq => walk_at "kk INF"); (case zZq => walk_at "kk LNF"); k_whole); intro t' tk') | ((with_reducible show wpAny _ _ (compareOp CmpOp.NotEq (Value.ref _) (Value.ref _)) _ _ _); k_dflt (refine' ne_NN ?NZq ?aZq ?bZq ?laZq ?lbZq ?iZq ?jZq ?uZq ?_; (case NZq => k_asm); (case aZq => (repeat (first | (with_reducible assumption) | (with_reducible exact List.mem_cons_self ..) | (with_reducible refine List.mem_cons_of_mem _ ?_) | (with_reducible refine List.mem_append_right _ ?_)))); (case bZq => (repeat (first | (with_reducible assumption) | (with_reducible exact List.mem_cons_self ..) | (with_reducible refine List.mem_cons_of_mem _ ?_) | (with_reducible refine List.mem_append_right _ ?_)))); (case laZq => first | with_reducible assumption | exact lstO_of _ _); (case lbZq => first | with_reducible assumption | exact lstO_of _ _); (case iZq => first | with_reducible exact ls_up (by with_reducible assumption) (fun p hp => by (repeat (first | (with_reducible assumption) | (with_reducible exact List.mem_cons_self ..) | (with_reducible refine List.mem_cons_of_mem _ ?_) | (with_reducible refine List.mem_append_right _ ?_))))); (case jZq => first | with_reducible exact ls_up (by with_reducible assumption) (fun p hp => by (repeat (first | (with_reducible assumption) | (with_reducible exact List.mem_cons_self ..) | (with_reducible refine List.mem_cons_of_mem _ ?_) | (with_reducible refine List.mem_append_right _ ?_))))); (case uZq => ke_room); k_whole)) | ((with_reducible show wpAny _ _ (compareOp CmpOp.Eq (Value.ref _) (Value.ref _)) _ _ _); k_dflt (refine' eq_NN ?NZq ?aZq ?bZq ?laZq ?lbZq ?iZq ?jZq ?uZq ?_; (case NZq => k_asm); (case aZq => (repeat (first | (with_reducible assumption) | (with_reducible exact List.mem_cons_self ..) | (with_reducible refine List.mem_cons_of_mem _ ?_) | (with_reducible refine List.mem_append_right _ ?_)))); (case bZq => (repeat (first | (with_reducible assumption) | (with_reducible exact List.mem_cons_self ..) | (with_reducible refine List.mem_cons_of_mem _ ?_) | (with_reducible refine List.mem_append_right _ ?_)))); (case laZq => first | with_reducible assumption | exact lstO_of _ _); (case lbZq => first | with_reducible assumption | exact lstO_of _ _); (case iZq => first | with_reducible exact ls_up (by with_reducible assumption) (fun p hp => by (repeat (first | (with_reducible assumption) | (with_reducible exact List.mem_cons_self ..) | (with_reducible refine List.mem_cons_of_mem _ ?_) | (with_reducible refine List.mem_append_right _ ?_))))); (case jZq => first | with_reducible exact ls_up (by with_reducible assumption) (fun p hp => by (repeat (first | (with_reducible assumption) | (with_reducible exact List.mem_cons_self ..) | (with_reducible refine List.mem_cons_of_mem _ ?_) | (with_reducible refine List.mem_append_right _ ?_))))); (case uZq => ke_room); k_whole)) | ((with_reducible show wpAny _ _ (compareOp CmpOp.Eq (Value.ref _) (Value.ref _)) _ _ _); k_dflt (refine' eq_I ?NZq ?aZq ?bZq ?laZq ?lbZq ?iZq ?jZq ?uZq ?_; (case NZq => k_asm); (case aZq => (repeat (first | (with_reducible assumption) | (with_reducible exact List.mem_cons_self ..) | (with_reducible refine List.mem_cons_of_mem _ ?_) | (with_reducible refine List.mem_append_right _ ?_)))); (case bZq => (repeat (first | (with_reducible assumption) | (with_reducible exact List.mem_cons_self ..) | (with_reducible refine List.mem_cons_of_mem _ ?_) | (with_reducible refine List.mem_append_right _ ?_)))); (case laZq => first | with_reducible assumption | exact lstO_of _ _); (case lbZq => first | with_reducible assumption | exact lstO_of _ _); (case iZq => first | with_reducible assumption | exact IntsAre.nil | exact IntsAre.cons _ _ IntsAre.nil | exact IntsAre.cons _ _ (IntsAre.cons _ _ IntsAre.nil)); (case jZq => first | with_reducible assumption | exact IntsAre.nil | exact IntsAre.cons _ _ IntsAre.nil | exact IntsAre.cons _ _ (IntsAre.cons _ _ IntsAre.nil)); (case uZq => ke_room); k_whole)) | ((with_reducible show wpAny _ _ (call (Value.ref 134) [Value.int _ _, Value.ref _]) _ _ _); k_dflt (refine' SpecW.use2 (by k_asm) (by k_asm) (by k_asm) (by k_asm) (by k_asm) (by first | exact rfl | assumption) (walk_ok _ _ _ _ _ _ _ ?p1Zq ?p2Zq ?p3Zq ?p4Zq ?p5Zq) (by ktr_room) (by ktr_units) ?_; (case p1Zq => (repeat (first | (with_reducible assumption) | (with_reducible exact List.mem_cons_self ..) | (with_reducible refine List.mem_cons_of_mem _ ?_) | (with_reducible refine List.mem_append_right _ ?_)))); (case p2Zq => first | with_reducible assumption | exact lstO_of _ _); (case p3Zq => first | exact ls_up (show LsAre [] [] _ from by with_reducible assumption) (fun p hp => nomatch hp) | exact ls_up (by with_reducible assumption) (fun p hp => by (repeat (first | (with_reducible assumption) | (with_reducible exact List.mem_cons_self ..) | (with_reducible refine List.mem_cons_of_mem _ ?_) | (with_reducible refine List.mem_append_right _ ?_))); done)); (case p4Zq => walk_at "kk LNF"); (case p5Zq => first | exact Nat.zero_le _ | (walk_at "kk LNF")); k_whole); intro led' v' h' tk' hR' F' N'; (obtain ⟨q', qo', qs', sub', hV', hL', hlo', hls'⟩ := hR'); subst hV' hL'; (try simp only [List.nil_append, List.cons_append] at F' N'); k_sweep) | ((with_reducible show wpAny _ _ (call (Value.ref 129) [Value.ref _]) _ _ _); k_dflt (refine' SpecW.use2 (by k_asm) (by k_asm) (by k_asm) (by k_asm) (by k_asm) (by first | exact rfl | assumption) (pieces_ok _ _ _ _ _ ?p1Zq ?p2Zq ?p3Zq) (by ktr_room) (by ktr_units) ?_; (case p1Zq => (repeat (first | (with_reducible assumption) | (with_reducible exact List.mem_cons_self ..) | (with_reducible refine List.mem_cons_of_mem _ ?_) | (with_reducible refine List.mem_append_right _ ?_)))); (case p2Zq => walk_at "kk INF"); (case p3Zq => walk_at "kk LNF"); k_whole); intro led' v' h' tk' hR' F' N'; (obtain ⟨q', ws', k', sub', hV', hL', hls'⟩ := hR'); subst hV' hL'; (try simp only [List.nil_append, List.cons_append] at F' N'); k_sweep) | ((with_reducible show wpAny _ _ (call (Value.ref 122) [Value.ref _]) _ _ _); k_dflt (refine' Spec.use2 (by k_asm) (by k_asm) (by k_asm) (by k_asm) (by k_asm) (by first | exact rfl | assumption) (slashes_ok _ _ _ _ _ ?p1Zq ?p2Zq ?p3Zq) (by ktr_room) (by ktr_units) ?_; (case p1Zq => (repeat (first | (with_reducible assumption) | (with_reducible exact List.mem_cons_self ..) | (with_reducible refine List.mem_cons_of_mem _ ?_) | (with_reducible refine List.mem_append_right _ ?_)))); (case p2Zq => walk_at "kk INF"); (case p3Zq => walk_at "kk LNF"); k_whole); intro led' v' h' tk' hR' hfr' F' N'; (obtain ⟨hL', t', hV'⟩ := hR'); subst hL' hV'; (try simp only [List.nil_append, List.cons_append] at F' N'); (try clear hfr'); k_sweep)); k_steps))
  refine Stop.un ?_
  refine join_set (Str.ofString "root") (fun led v => led = [] ∧ ∃ t, v = .int ((rootL codes).length : Int) t) (by assumption) (by assumption) ?_ ?_
  · (k_steps; repeat' ((with_reducible refine Stop.un ?_); (first | ((with_reducible show wpAny _ _ (call (Value.builtin "len") [Value.ref _]) _ _ _); k_dflt (refine' len_R ?NZq ?mZq ?iZq ?zZq ?_; (case NZq => k_asm); (case mZq => (repeat (first | (with_reducible assumption) | (with_reducible exact List.mem_cons_self ..) | (with_reducible refine List.mem_cons_of_mem _ ?_) | (with_reducible refine List.mem_append_right _ ?_)))); (case iZq => with_reducible assumption); (case zZq => walk_at "kk LNF"); k_whole); intro t' tk') | ((with_reducible show wpAny _ _ (binaryOp Operator.Add (Value.ref _) (Value.ref _)) _ _ _); k_dflt (refine' add_R ?FZq ?NZq ?aZq ?bZq ?laZq ?lbZq ?zZq ?_; (case FZq => k_asm); (case NZq => k_asm); (case aZq => (repeat (first | (with_reducible assumption) | (with_reducible exact List.mem_cons_self ..) | (with_reducible refine List.mem_cons_of_mem _ ?_) | (with_reducible refine List.mem_append_right _ ?_)))); (case bZq => (repeat (first | (with_reducible assumption) | (with_reducible exact List.mem_cons_self ..) | (with_reducible refine List.mem_cons_of_mem _ ?_) | (with_reducible refine List.mem_append_right _ ?_)))); (case laZq => first | with_reducible assumption | exact lstO_of _ _); (case lbZq => first | with_reducible assumption | exact lstO_of _ _); (case zZq => walk_at "kk LNF"); k_whole); intro D' h' F' N' l1; (try k_lt l1); (try k_sweep)) | ((with_reducible show wpAny _ _ (subscriptTail _ (PySem.Expr.Slice _ _ none _) (Value.ref _) (Value.ref _)) _ _ _); k_dflt (refine' from_R ?FZq ?NZq ?mZq ?iZq ?yZq ?zZq ?_ ?sZq ?tZq; (case FZq => k_asm); (case NZq => k_asm); (case mZq => (repeat (first | (with_reducible assumption) | (with_reducible exact List.mem_cons_self ..) | (with_reducible refine List.mem_cons_of_mem _ ?_) | (with_reducible refine List.mem_append_right _ ?_)))); (case iZq => first | with_reducible assumption | exact lstO_of _ _); (case yZq => walk_at "kk nat"); (case zZq => walk_at "kk LNF"); (case sZq => with_unfolding_all rfl); (case tZq => (intro _; with_unfolding_all rfl)); k_whole); intro D' h' F' N' l1; (try k_lt l1); (try k_sweep)) | ((with_reducible show wpAny _ _ (subscriptTail _ (PySem.Expr.Slice _ _ none _) (Value.ref _) (Value.ref _)) _ _ _); k_dflt (refine' upto_R ?FZq ?NZq ?mZq ?iZq ?yZq ?zZq ?_ ?sZq ?tZq; (case FZq => k_asm); (case NZq => k_asm); (case mZq => (repeat (first | (with_reducible assumption) | (with_reducible exact List.mem_cons_self ..) | (with_reducible refine List.mem_cons_of_mem _ ?_) | (with_reducible refine List.mem_append_right _ ?_)))); (case iZq => first | with_reducible assumption | exact lstO_of _ _); (case yZq => walk_at "kk nat"); (case zZq => walk_at "kk LNF"); (case sZq => with_unfolding_all rfl); (case tZq => (intro _; with_unfolding_all rfl)); k_whole); intro D' h' F' N' l1; (try k_lt l1); (try k_sweep)) | ((with_reducible show wpAny _ _ (subscriptTail _ (PySem.Expr.Slice _ _ none _) (Value.ref _) (Value.ref _)) _ _ _); k_dflt (refine' from_L ?FZq ?NZq ?mZq ?iZq ?yZq ?zZq ?_ ?sZq ?tZq; (case FZq => k_asm); (case NZq => k_asm); (case mZq => (repeat (first | (with_reducible assumption) | (with_reducible exact List.mem_cons_self ..) | (with_reducible refine List.mem_cons_of_mem _ ?_) | (with_reducible refine List.mem_append_right _ ?_)))); (case iZq => walk_at "kk INF"); (case yZq => walk_at "kk nat"); (case zZq => walk_at "kk LNF"); (case sZq => with_unfolding_all rfl); (case tZq => (intro _; with_unfolding_all rfl)); k_whole); intro D' ws' h' F' N' l1 hI'; (try k_lt l1); (try k_sweep)) | ((with_reducible show wpAny _ _ (call (Value.builtin "len") [Value.ref _]) _ _ _); k_dflt (refine' len_L ?NZq ?mZq ?iZq ?zZq ?_; (case NZq => k_asm); (case mZq => (repeat (first | (with_reducible assumption) | (with_reducible exact List.mem_cons_self ..) | (with_reducible refine List.mem_cons_of_mem _ ?_) | (with_reducible refine List.mem_append_right _ ?_)))); (case iZq => walk_at "kk INF"); (case zZq => walk_at "kk LNF"); k_whole); intro t' tk') | ((with_reducible show wpAny _ _ (compareOp CmpOp.NotEq (Value.ref _) (Value.ref _)) _ _ _); k_dflt (refine' ne_NN ?NZq ?aZq ?bZq ?laZq ?lbZq ?iZq ?jZq ?uZq ?_; (case NZq => k_asm); (case aZq => (repeat (first | (with_reducible assumption) | (with_reducible exact List.mem_cons_self ..) | (with_reducible refine List.mem_cons_of_mem _ ?_) | (with_reducible refine List.mem_append_right _ ?_)))); (case bZq => (repeat (first | (with_reducible assumption) | (with_reducible exact List.mem_cons_self ..) | (with_reducible refine List.mem_cons_of_mem _ ?_) | (with_reducible refine List.mem_append_right _ ?_)))); (case laZq => first | with_reducible assumption | exact lstO_of _ _); (case lbZq => first | with_reducible assumption | exact lstO_of _ _); (case iZq => first | with_reducible exact ls_up (by with_reducible assumption) (fun p hp => by (repeat (first | (with_reducible assumption) | (with_reducible exact List.mem_cons_self ..) | (with_reducible refine List.mem_cons_of_mem _ ?_) | (with_reducible refine List.mem_append_right _ ?_))))); (case jZq => first | with_reducible exact ls_up (by with_reducible assumption) (fun p hp => by (repeat (first | (with_reducible assumption) | (with_reducible exact List.mem_cons_self ..) | (with_reducible refine List.mem_cons_of_mem _ ?_) | (with_reducible refine List.mem_append_right _ ?_))))); (case uZq => ke_room); k_whole)) | ((with_reducible show wpAny _ _ (compareOp CmpOp.Eq (Value.ref _) (Value.ref _)) _ _ _); k_dflt (refine' eq_NN ?NZq ?aZq ?bZq ?laZq ?lbZq ?iZq ?jZq ?uZq ?_; (case NZq => k_asm); (case aZq => (repeat (first | (with_reducible assumption) | (with_reducible exact List.mem_cons_self ..) | (with_reducible refine List.mem_cons_of_mem _ ?_) | (with_reducible refine List.mem_append_right _ ?_)))); (case bZq => (repeat (first | (with_reducible assumption) | (with_reducible exact List.mem_cons_self ..) | (with_reducible refine List.mem_cons_of_mem _ ?_) | (with_reducible refine List.mem_append_right _ ?_)))); (case laZq => first | with_reducible assumption | exact lstO_of _ _); (case lbZq => first | with_reducible assumption | exact lstO_of _ _); (case iZq => first | with_reducible exact ls_up (by with_reducible assumption) (fun p hp => by (repeat (first | (with_reducible assumption) | (with_reducible exact List.mem_cons_self ..) | (with_reducible refine List.mem_cons_of_mem _ ?_) | (with_reducible refine List.mem_append_right _ ?_))))); (case jZq => first | with_reducible exact ls_up (by with_reducible assumption) (fun p hp => by (repeat (first | (with_reducible assumption) | (with_reducible exact List.mem_cons_self ..) | (with_reducible refine List.mem_cons_of_mem _ ?_) | (with_reducible refine List.mem_append_right _ ?_))))); (case uZq => ke_room); k_whole)) | ((with_reducible show wpAny _ _ (compareOp CmpOp.Eq (Value.ref _) (Value.ref _)) _ _ _); k_dflt (refine' eq_I ?NZq ?aZq ?bZq ?laZq ?lbZq ?iZq ?jZq ?uZq ?_; (case NZq => k_asm); (case aZq => (repeat (first | (with_reducible assumption) | (with_reducible exact List.mem_cons_self ..) | (with_reducible refine List.mem_cons_of_mem _ ?_) | (with_reducible refine List.mem_append_right _ ?_)))); (case bZq => (repeat (first | (with_reducible assumption) | (with_reducible exact List.mem_cons_self ..) | (with_reducible refine List.mem_cons_of_mem _ ?_) | (with_reducible refine List.mem_append_right _ ?_)))); (case laZq => first | with_reducible assumption | exact lstO_of _ _); (case lbZq => first | with_reducible assumption | exact lstO_of _ _); (case iZq => first | with_reducible assumption | exact IntsAre.nil | exact IntsAre.cons _ _ IntsAre.nil | exact IntsAre.cons _ _ (IntsAre.cons _ _ IntsAre.nil)); (case jZq => first | with_reducible assumption | exact IntsAre.nil | exact IntsAre.cons _ _ IntsAre.nil | exact IntsAre.cons _ _ (IntsAre.cons _ _ IntsAre.nil)); (case uZq => ke_room); k_whole)) | ((with_reducible show wpAny _ _ (call (Value.ref 134) [Value.int _ _, Value.ref _]) _ _ _); k_dflt (refine' SpecW.use2 (by k_asm) (by k_asm) (by k_asm) (by k_asm) (by k_asm) (by first | exact rfl | assumption) (walk_ok _ _ _ _ _ _ _ ?p1Zq ?p2Zq ?p3Zq ?p4Zq ?p5Zq) (by ktr_room) (by ktr_units) ?_; (case p1Zq => (repeat (first | (with_reducible assumption) | (with_reducible exact List.mem_cons_self ..) | (with_reducible refine List.mem_cons_of_mem _ ?_) | (with_reducible refine List.mem_append_right _ ?_)))); (case p2Zq => first | with_reducible assumption | exact lstO_of _ _); (case p3Zq => first | exact ls_up (show LsAre [] [] _ from by with_reducible assumption) (fun p hp => nomatch hp) | exact ls_up (by with_reducible assumption) (fun p hp => by (repeat (first | (with_reducible assumption) | (with_reducible exact List.mem_cons_self ..) | (with_reducible refine List.mem_cons_of_mem _ ?_) | (with_reducible refine List.mem_append_right _ ?_))); done)); (case p4Zq => walk_at "kk LNF"); (case p5Zq => first | exact Nat.zero_le _ | (walk_at "kk LNF")); k_whole); intro led' v' h' tk' hR' F' N'; (obtain ⟨q', qo', qs', sub', hV', hL', hlo', hls'⟩ := hR'); subst hV' hL'; (try simp only [List.nil_append, List.cons_append] at F' N'); k_sweep) | ((with_reducible show wpAny _ _ (call (Value.ref 129) [Value.ref _]) _ _ _); k_dflt (refine' SpecW.use2 (by k_asm) (by k_asm) (by k_asm) (by k_asm) (by k_asm) (by first | exact rfl | assumption) (pieces_ok _ _ _ _ _ ?p1Zq ?p2Zq ?p3Zq) (by ktr_room) (by ktr_units) ?_; (case p1Zq => (repeat (first | (with_reducible assumption) | (with_reducible exact List.mem_cons_self ..) | (with_reducible refine List.mem_cons_of_mem _ ?_) | (with_reducible refine List.mem_append_right _ ?_)))); (case p2Zq => walk_at "kk INF"); (case p3Zq => walk_at "kk LNF"); k_whole); intro led' v' h' tk' hR' F' N'; (obtain ⟨q', ws', k', sub', hV', hL', hls'⟩ := hR'); subst hV' hL'; (try simp only [List.nil_append, List.cons_append] at F' N'); k_sweep) | ((with_reducible show wpAny _ _ (call (Value.ref 122) [Value.ref _]) _ _ _); k_dflt (refine' Spec.use2 (by k_asm) (by k_asm) (by k_asm) (by k_asm) (by k_asm) (by first | exact rfl | assumption) (slashes_ok _ _ _ _ _ ?p1Zq ?p2Zq ?p3Zq) (by ktr_room) (by ktr_units) ?_; (case p1Zq => (repeat (first | (with_reducible assumption) | (with_reducible exact List.mem_cons_self ..) | (with_reducible refine List.mem_cons_of_mem _ ?_) | (with_reducible refine List.mem_append_right _ ?_)))); (case p2Zq => walk_at "kk INF"); (case p3Zq => walk_at "kk LNF"); k_whole); intro led' v' h' tk' hR' hfr' F' N'; (obtain ⟨hL', t', hV'⟩ := hR'); subst hL' hV'; (try simp only [List.nil_append, List.cons_append] at F' N'); (try clear hfr'); k_sweep)); k_steps))
    · exact ⟨rfl, _, _, _, [], rfl, by assumption, by assumption, rfl, _, congrArg (fun i => Value.int i _) (by have h := root_len codes; have h2 : ¬ frontL codes < 3 := (by omega); rw [if_neg h2] at h; rw [h]; rfl)⟩
    · refine ⟨rfl, _, _, _, [], rfl, set_same (v := .int (frontL codes : Int) _) (by assumption) rfl, by assumption, rfl, _, congrArg (fun i => Value.int i _) (by have h := root_len codes; have h2 : frontL codes < 3 := (by omega); rw [if_pos h2] at h; rw [h])⟩
  · rintro led v h' tk' ⟨rfl, t', rfl⟩ F' N'
    rw [List.nil_append] at N'
    have hq5 := q5_root codes
    have hsl := splitL_length 47 codes
    (k_steps; repeat' ((with_reducible refine Stop.un ?_); (first | ((with_reducible show wpAny _ _ (call (Value.builtin "len") [Value.ref _]) _ _ _); k_dflt (refine' len_R ?NZq ?mZq ?iZq ?zZq ?_; (case NZq => k_asm); (case mZq => (repeat (first | (with_reducible assumption) | (with_reducible exact List.mem_cons_self ..) | (with_reducible refine List.mem_cons_of_mem _ ?_) | (with_reducible refine List.mem_append_right _ ?_)))); (case iZq => with_reducible assumption); (case zZq => walk_at "kk LNF"); k_whole); intro t' tk') | ((with_reducible show wpAny _ _ (binaryOp Operator.Add (Value.ref _) (Value.ref _)) _ _ _); k_dflt (refine' add_R ?FZq ?NZq ?aZq ?bZq ?laZq ?lbZq ?zZq ?_; (case FZq => k_asm); (case NZq => k_asm); (case aZq => (repeat (first | (with_reducible assumption) | (with_reducible exact List.mem_cons_self ..) | (with_reducible refine List.mem_cons_of_mem _ ?_) | (with_reducible refine List.mem_append_right _ ?_)))); (case bZq => (repeat (first | (with_reducible assumption) | (with_reducible exact List.mem_cons_self ..) | (with_reducible refine List.mem_cons_of_mem _ ?_) | (with_reducible refine List.mem_append_right _ ?_)))); (case laZq => first | with_reducible assumption | exact lstO_of _ _); (case lbZq => first | with_reducible assumption | exact lstO_of _ _); (case zZq => walk_at "kk LNF"); k_whole); intro D' h' F' N' l1; (try k_lt l1); (try k_sweep)) | ((with_reducible show wpAny _ _ (subscriptTail _ (PySem.Expr.Slice _ _ none _) (Value.ref _) (Value.ref _)) _ _ _); k_dflt (refine' from_R ?FZq ?NZq ?mZq ?iZq ?yZq ?zZq ?_ ?sZq ?tZq; (case FZq => k_asm); (case NZq => k_asm); (case mZq => (repeat (first | (with_reducible assumption) | (with_reducible exact List.mem_cons_self ..) | (with_reducible refine List.mem_cons_of_mem _ ?_) | (with_reducible refine List.mem_append_right _ ?_)))); (case iZq => first | with_reducible assumption | exact lstO_of _ _); (case yZq => walk_at "kk nat"); (case zZq => walk_at "kk LNF"); (case sZq => with_unfolding_all rfl); (case tZq => (intro _; with_unfolding_all rfl)); k_whole); intro D' h' F' N' l1; (try k_lt l1); (try k_sweep)) | ((with_reducible show wpAny _ _ (subscriptTail _ (PySem.Expr.Slice _ _ none _) (Value.ref _) (Value.ref _)) _ _ _); k_dflt (refine' upto_R ?FZq ?NZq ?mZq ?iZq ?yZq ?zZq ?_ ?sZq ?tZq; (case FZq => k_asm); (case NZq => k_asm); (case mZq => (repeat (first | (with_reducible assumption) | (with_reducible exact List.mem_cons_self ..) | (with_reducible refine List.mem_cons_of_mem _ ?_) | (with_reducible refine List.mem_append_right _ ?_)))); (case iZq => first | with_reducible assumption | exact lstO_of _ _); (case yZq => walk_at "kk nat"); (case zZq => walk_at "kk LNF"); (case sZq => with_unfolding_all rfl); (case tZq => (intro _; with_unfolding_all rfl)); k_whole); intro D' h' F' N' l1; (try k_lt l1); (try k_sweep)) | ((with_reducible show wpAny _ _ (subscriptTail _ (PySem.Expr.Slice _ _ none _) (Value.ref _) (Value.ref _)) _ _ _); k_dflt (refine' from_L ?FZq ?NZq ?mZq ?iZq ?yZq ?zZq ?_ ?sZq ?tZq; (case FZq => k_asm); (case NZq => k_asm); (case mZq => (repeat (first | (with_reducible assumption) | (with_reducible exact List.mem_cons_self ..) | (with_reducible refine List.mem_cons_of_mem _ ?_) | (with_reducible refine List.mem_append_right _ ?_)))); (case iZq => walk_at "kk INF"); (case yZq => walk_at "kk nat"); (case zZq => walk_at "kk LNF"); (case sZq => with_unfolding_all rfl); (case tZq => (intro _; with_unfolding_all rfl)); k_whole); intro D' ws' h' F' N' l1 hI'; (try k_lt l1); (try k_sweep)) | ((with_reducible show wpAny _ _ (call (Value.builtin "len") [Value.ref _]) _ _ _); k_dflt (refine' len_L ?NZq ?mZq ?iZq ?zZq ?_; (case NZq => k_asm); (case mZq => (repeat (first | (with_reducible assumption) | (with_reducible exact List.mem_cons_self ..) | (with_reducible refine List.mem_cons_of_mem _ ?_) | (with_reducible refine List.mem_append_right _ ?_)))); (case iZq => walk_at "kk INF"); (case zZq => walk_at "kk LNF"); k_whole); intro t' tk') | ((with_reducible show wpAny _ _ (compareOp CmpOp.NotEq (Value.ref _) (Value.ref _)) _ _ _); k_dflt (refine' ne_NN ?NZq ?aZq ?bZq ?laZq ?lbZq ?iZq ?jZq ?uZq ?_; (case NZq => k_asm); (case aZq => (repeat (first | (with_reducible assumption) | (with_reducible exact List.mem_cons_self ..) | (with_reducible refine List.mem_cons_of_mem _ ?_) | (with_reducible refine List.mem_append_right _ ?_)))); (case bZq => (repeat (first | (with_reducible assumption) | (with_reducible exact List.mem_cons_self ..) | (with_reducible refine List.mem_cons_of_mem _ ?_) | (with_reducible refine List.mem_append_right _ ?_)))); (case laZq => first | with_reducible assumption | exact lstO_of _ _); (case lbZq => first | with_reducible assumption | exact lstO_of _ _); (case iZq => first | with_reducible exact ls_up (by with_reducible assumption) (fun p hp => by (repeat (first | (with_reducible assumption) | (with_reducible exact List.mem_cons_self ..) | (with_reducible refine List.mem_cons_of_mem _ ?_) | (with_reducible refine List.mem_append_right _ ?_))))); (case jZq => first | with_reducible exact ls_up (by with_reducible assumption) (fun p hp => by (repeat (first | (with_reducible assumption) | (with_reducible exact List.mem_cons_self ..) | (with_reducible refine List.mem_cons_of_mem _ ?_) | (with_reducible refine List.mem_append_right _ ?_))))); (case uZq => ke_room); k_whole)) | ((with_reducible show wpAny _ _ (compareOp CmpOp.Eq (Value.ref _) (Value.ref _)) _ _ _); k_dflt (refine' eq_NN ?NZq ?aZq ?bZq ?laZq ?lbZq ?iZq ?jZq ?uZq ?_; (case NZq => k_asm); (case aZq => (repeat (first | (with_reducible assumption) | (with_reducible exact List.mem_cons_self ..) | (with_reducible refine List.mem_cons_of_mem _ ?_) | (with_reducible refine List.mem_append_right _ ?_)))); (case bZq => (repeat (first | (with_reducible assumption) | (with_reducible exact List.mem_cons_self ..) | (with_reducible refine List.mem_cons_of_mem _ ?_) | (with_reducible refine List.mem_append_right _ ?_)))); (case laZq => first | with_reducible assumption | exact lstO_of _ _); (case lbZq => first | with_reducible assumption | exact lstO_of _ _); (case iZq => first | with_reducible exact ls_up (by with_reducible assumption) (fun p hp => by (repeat (first | (with_reducible assumption) | (with_reducible exact List.mem_cons_self ..) | (with_reducible refine List.mem_cons_of_mem _ ?_) | (with_reducible refine List.mem_append_right _ ?_))))); (case jZq => first | with_reducible exact ls_up (by with_reducible assumption) (fun p hp => by (repeat (first | (with_reducible assumption) | (with_reducible exact List.mem_cons_self ..) | (with_reducible refine List.mem_cons_of_mem _ ?_) | (with_reducible refine List.mem_append_right _ ?_))))); (case uZq => ke_room); k_whole)) | ((with_reducible show wpAny _ _ (compareOp CmpOp.Eq (Value.ref _) (Value.ref _)) _ _ _); k_dflt (refine' eq_I ?NZq ?aZq ?bZq ?laZq ?lbZq ?iZq ?jZq ?uZq ?_; (case NZq => k_asm); (case aZq => (repeat (first | (with_reducible assumption) | (with_reducible exact List.mem_cons_self ..) | (with_reducible refine List.mem_cons_of_mem _ ?_) | (with_reducible refine List.mem_append_right _ ?_)))); (case bZq => (repeat (first | (with_reducible assumption) | (with_reducible exact List.mem_cons_self ..) | (with_reducible refine List.mem_cons_of_mem _ ?_) | (with_reducible refine List.mem_append_right _ ?_)))); (case laZq => first | with_reducible assumption | exact lstO_of _ _); (case lbZq => first | with_reducible assumption | exact lstO_of _ _); (case iZq => first | with_reducible assumption | exact IntsAre.nil | exact IntsAre.cons _ _ IntsAre.nil | exact IntsAre.cons _ _ (IntsAre.cons _ _ IntsAre.nil)); (case jZq => first | with_reducible assumption | exact IntsAre.nil | exact IntsAre.cons _ _ IntsAre.nil | exact IntsAre.cons _ _ (IntsAre.cons _ _ IntsAre.nil)); (case uZq => ke_room); k_whole)) | ((with_reducible show wpAny _ _ (call (Value.ref 134) [Value.int _ _, Value.ref _]) _ _ _); k_dflt (refine' SpecW.use2 (by k_asm) (by k_asm) (by k_asm) (by k_asm) (by k_asm) (by first | exact rfl | assumption) (walk_ok _ _ _ _ _ _ _ ?p1Zq ?p2Zq ?p3Zq ?p4Zq ?p5Zq) (by ktr_room) (by ktr_units) ?_; (case p1Zq => (repeat (first | (with_reducible assumption) | (with_reducible exact List.mem_cons_self ..) | (with_reducible refine List.mem_cons_of_mem _ ?_) | (with_reducible refine List.mem_append_right _ ?_)))); (case p2Zq => first | with_reducible assumption | exact lstO_of _ _); (case p3Zq => first | exact ls_up (show LsAre [] [] _ from by with_reducible assumption) (fun p hp => nomatch hp) | exact ls_up (by with_reducible assumption) (fun p hp => by (repeat (first | (with_reducible assumption) | (with_reducible exact List.mem_cons_self ..) | (with_reducible refine List.mem_cons_of_mem _ ?_) | (with_reducible refine List.mem_append_right _ ?_))); done)); (case p4Zq => walk_at "kk LNF"); (case p5Zq => first | exact Nat.zero_le _ | (walk_at "kk LNF")); k_whole); intro led' v' h' tk' hR' F' N'; (obtain ⟨q', qo', qs', sub', hV', hL', hlo', hls'⟩ := hR'); subst hV' hL'; (try simp only [List.nil_append, List.cons_append] at F' N'); k_sweep) | ((with_reducible show wpAny _ _ (call (Value.ref 129) [Value.ref _]) _ _ _); k_dflt (refine' SpecW.use2 (by k_asm) (by k_asm) (by k_asm) (by k_asm) (by k_asm) (by first | exact rfl | assumption) (pieces_ok _ _ _ _ _ ?p1Zq ?p2Zq ?p3Zq) (by ktr_room) (by ktr_units) ?_; (case p1Zq => (repeat (first | (with_reducible assumption) | (with_reducible exact List.mem_cons_self ..) | (with_reducible refine List.mem_cons_of_mem _ ?_) | (with_reducible refine List.mem_append_right _ ?_)))); (case p2Zq => walk_at "kk INF"); (case p3Zq => walk_at "kk LNF"); k_whole); intro led' v' h' tk' hR' F' N'; (obtain ⟨q', ws', k', sub', hV', hL', hls'⟩ := hR'); subst hV' hL'; (try simp only [List.nil_append, List.cons_append] at F' N'); k_sweep) | ((with_reducible show wpAny _ _ (call (Value.ref 122) [Value.ref _]) _ _ _); k_dflt (refine' Spec.use2 (by k_asm) (by k_asm) (by k_asm) (by k_asm) (by k_asm) (by first | exact rfl | assumption) (slashes_ok _ _ _ _ _ ?p1Zq ?p2Zq ?p3Zq) (by ktr_room) (by ktr_units) ?_; (case p1Zq => (repeat (first | (with_reducible assumption) | (with_reducible exact List.mem_cons_self ..) | (with_reducible refine List.mem_cons_of_mem _ ?_) | (with_reducible refine List.mem_append_right _ ?_)))); (case p2Zq => walk_at "kk INF"); (case p3Zq => walk_at "kk LNF"); k_whole); intro led' v' h' tk' hR' hfr' F' N'; (obtain ⟨hL', t', hV'⟩ := hR'); subst hL' hV'; (try simp only [List.nil_append, List.cons_append] at F' N'); (try clear hfr'); k_sweep)); k_steps))
    · exact absurd hq5 (by omega)
    refine Stop.un ?_
    refine join_set (Str.ofString "depth") (fun led v => led = [] ∧ ∃ t, v = .int (depL codes : Int) t) (by assumption) (by assumption) ?_ ?_
    · (k_steps; repeat' ((with_reducible refine Stop.un ?_); (first | ((with_reducible show wpAny _ _ (call (Value.builtin "len") [Value.ref _]) _ _ _); k_dflt (refine' len_R ?NZq ?mZq ?iZq ?zZq ?_; (case NZq => k_asm); (case mZq => (repeat (first | (with_reducible assumption) | (with_reducible exact List.mem_cons_self ..) | (with_reducible refine List.mem_cons_of_mem _ ?_) | (with_reducible refine List.mem_append_right _ ?_)))); (case iZq => with_reducible assumption); (case zZq => walk_at "kk LNF"); k_whole); intro t' tk') | ((with_reducible show wpAny _ _ (binaryOp Operator.Add (Value.ref _) (Value.ref _)) _ _ _); k_dflt (refine' add_R ?FZq ?NZq ?aZq ?bZq ?laZq ?lbZq ?zZq ?_; (case FZq => k_asm); (case NZq => k_asm); (case aZq => (repeat (first | (with_reducible assumption) | (with_reducible exact List.mem_cons_self ..) | (with_reducible refine List.mem_cons_of_mem _ ?_) | (with_reducible refine List.mem_append_right _ ?_)))); (case bZq => (repeat (first | (with_reducible assumption) | (with_reducible exact List.mem_cons_self ..) | (with_reducible refine List.mem_cons_of_mem _ ?_) | (with_reducible refine List.mem_append_right _ ?_)))); (case laZq => first | with_reducible assumption | exact lstO_of _ _); (case lbZq => first | with_reducible assumption | exact lstO_of _ _); (case zZq => walk_at "kk LNF"); k_whole); intro D' h' F' N' l1; (try k_lt l1); (try k_sweep)) | ((with_reducible show wpAny _ _ (subscriptTail _ (PySem.Expr.Slice _ _ none _) (Value.ref _) (Value.ref _)) _ _ _); k_dflt (refine' from_R ?FZq ?NZq ?mZq ?iZq ?yZq ?zZq ?_ ?sZq ?tZq; (case FZq => k_asm); (case NZq => k_asm); (case mZq => (repeat (first | (with_reducible assumption) | (with_reducible exact List.mem_cons_self ..) | (with_reducible refine List.mem_cons_of_mem _ ?_) | (with_reducible refine List.mem_append_right _ ?_)))); (case iZq => first | with_reducible assumption | exact lstO_of _ _); (case yZq => walk_at "kk nat"); (case zZq => walk_at "kk LNF"); (case sZq => with_unfolding_all rfl); (case tZq => (intro _; with_unfolding_all rfl)); k_whole); intro D' h' F' N' l1; (try k_lt l1); (try k_sweep)) | ((with_reducible show wpAny _ _ (subscriptTail _ (PySem.Expr.Slice _ _ none _) (Value.ref _) (Value.ref _)) _ _ _); k_dflt (refine' upto_R ?FZq ?NZq ?mZq ?iZq ?yZq ?zZq ?_ ?sZq ?tZq; (case FZq => k_asm); (case NZq => k_asm); (case mZq => (repeat (first | (with_reducible assumption) | (with_reducible exact List.mem_cons_self ..) | (with_reducible refine List.mem_cons_of_mem _ ?_) | (with_reducible refine List.mem_append_right _ ?_)))); (case iZq => first | with_reducible assumption | exact lstO_of _ _); (case yZq => walk_at "kk nat"); (case zZq => walk_at "kk LNF"); (case sZq => with_unfolding_all rfl); (case tZq => (intro _; with_unfolding_all rfl)); k_whole); intro D' h' F' N' l1; (try k_lt l1); (try k_sweep)) | ((with_reducible show wpAny _ _ (subscriptTail _ (PySem.Expr.Slice _ _ none _) (Value.ref _) (Value.ref _)) _ _ _); k_dflt (refine' from_L ?FZq ?NZq ?mZq ?iZq ?yZq ?zZq ?_ ?sZq ?tZq; (case FZq => k_asm); (case NZq => k_asm); (case mZq => (repeat (first | (with_reducible assumption) | (with_reducible exact List.mem_cons_self ..) | (with_reducible refine List.mem_cons_of_mem _ ?_) | (with_reducible refine List.mem_append_right _ ?_)))); (case iZq => walk_at "kk INF"); (case yZq => walk_at "kk nat"); (case zZq => walk_at "kk LNF"); (case sZq => with_unfolding_all rfl); (case tZq => (intro _; with_unfolding_all rfl)); k_whole); intro D' ws' h' F' N' l1 hI'; (try k_lt l1); (try k_sweep)) | ((with_reducible show wpAny _ _ (call (Value.builtin "len") [Value.ref _]) _ _ _); k_dflt (refine' len_L ?NZq ?mZq ?iZq ?zZq ?_; (case NZq => k_asm); (case mZq => (repeat (first | (with_reducible assumption) | (with_reducible exact List.mem_cons_self ..) | (with_reducible refine List.mem_cons_of_mem _ ?_) | (with_reducible refine List.mem_append_right _ ?_)))); (case iZq => walk_at "kk INF"); (case zZq => walk_at "kk LNF"); k_whole); intro t' tk') | ((with_reducible show wpAny _ _ (compareOp CmpOp.NotEq (Value.ref _) (Value.ref _)) _ _ _); k_dflt (refine' ne_NN ?NZq ?aZq ?bZq ?laZq ?lbZq ?iZq ?jZq ?uZq ?_; (case NZq => k_asm); (case aZq => (repeat (first | (with_reducible assumption) | (with_reducible exact List.mem_cons_self ..) | (with_reducible refine List.mem_cons_of_mem _ ?_) | (with_reducible refine List.mem_append_right _ ?_)))); (case bZq => (repeat (first | (with_reducible assumption) | (with_reducible exact List.mem_cons_self ..) | (with_reducible refine List.mem_cons_of_mem _ ?_) | (with_reducible refine List.mem_append_right _ ?_)))); (case laZq => first | with_reducible assumption | exact lstO_of _ _); (case lbZq => first | with_reducible assumption | exact lstO_of _ _); (case iZq => first | with_reducible exact ls_up (by with_reducible assumption) (fun p hp => by (repeat (first | (with_reducible assumption) | (with_reducible exact List.mem_cons_self ..) | (with_reducible refine List.mem_cons_of_mem _ ?_) | (with_reducible refine List.mem_append_right _ ?_))))); (case jZq => first | with_reducible exact ls_up (by with_reducible assumption) (fun p hp => by (repeat (first | (with_reducible assumption) | (with_reducible exact List.mem_cons_self ..) | (with_reducible refine List.mem_cons_of_mem _ ?_) | (with_reducible refine List.mem_append_right _ ?_))))); (case uZq => ke_room); k_whole)) | ((with_reducible show wpAny _ _ (compareOp CmpOp.Eq (Value.ref _) (Value.ref _)) _ _ _); k_dflt (refine' eq_NN ?NZq ?aZq ?bZq ?laZq ?lbZq ?iZq ?jZq ?uZq ?_; (case NZq => k_asm); (case aZq => (repeat (first | (with_reducible assumption) | (with_reducible exact List.mem_cons_self ..) | (with_reducible refine List.mem_cons_of_mem _ ?_) | (with_reducible refine List.mem_append_right _ ?_)))); (case bZq => (repeat (first | (with_reducible assumption) | (with_reducible exact List.mem_cons_self ..) | (with_reducible refine List.mem_cons_of_mem _ ?_) | (with_reducible refine List.mem_append_right _ ?_)))); (case laZq => first | with_reducible assumption | exact lstO_of _ _); (case lbZq => first | with_reducible assumption | exact lstO_of _ _); (case iZq => first | with_reducible exact ls_up (by with_reducible assumption) (fun p hp => by (repeat (first | (with_reducible assumption) | (with_reducible exact List.mem_cons_self ..) | (with_reducible refine List.mem_cons_of_mem _ ?_) | (with_reducible refine List.mem_append_right _ ?_))))); (case jZq => first | with_reducible exact ls_up (by with_reducible assumption) (fun p hp => by (repeat (first | (with_reducible assumption) | (with_reducible exact List.mem_cons_self ..) | (with_reducible refine List.mem_cons_of_mem _ ?_) | (with_reducible refine List.mem_append_right _ ?_))))); (case uZq => ke_room); k_whole)) | ((with_reducible show wpAny _ _ (compareOp CmpOp.Eq (Value.ref _) (Value.ref _)) _ _ _); k_dflt (refine' eq_I ?NZq ?aZq ?bZq ?laZq ?lbZq ?iZq ?jZq ?uZq ?_; (case NZq => k_asm); (case aZq => (repeat (first | (with_reducible assumption) | (with_reducible exact List.mem_cons_self ..) | (with_reducible refine List.mem_cons_of_mem _ ?_) | (with_reducible refine List.mem_append_right _ ?_)))); (case bZq => (repeat (first | (with_reducible assumption) | (with_reducible exact List.mem_cons_self ..) | (with_reducible refine List.mem_cons_of_mem _ ?_) | (with_reducible refine List.mem_append_right _ ?_)))); (case laZq => first | with_reducible assumption | exact lstO_of _ _); (case lbZq => first | with_reducible assumption | exact lstO_of _ _); (case iZq => first | with_reducible assumption | exact IntsAre.nil | exact IntsAre.cons _ _ IntsAre.nil | exact IntsAre.cons _ _ (IntsAre.cons _ _ IntsAre.nil)); (case jZq => first | with_reducible assumption | exact IntsAre.nil | exact IntsAre.cons _ _ IntsAre.nil | exact IntsAre.cons _ _ (IntsAre.cons _ _ IntsAre.nil)); (case uZq => ke_room); k_whole)) | ((with_reducible show wpAny _ _ (call (Value.ref 134) [Value.int _ _, Value.ref _]) _ _ _); k_dflt (refine' SpecW.use2 (by k_asm) (by k_asm) (by k_asm) (by k_asm) (by k_asm) (by first | exact rfl | assumption) (walk_ok _ _ _ _ _ _ _ ?p1Zq ?p2Zq ?p3Zq ?p4Zq ?p5Zq) (by ktr_room) (by ktr_units) ?_; (case p1Zq => (repeat (first | (with_reducible assumption) | (with_reducible exact List.mem_cons_self ..) | (with_reducible refine List.mem_cons_of_mem _ ?_) | (with_reducible refine List.mem_append_right _ ?_)))); (case p2Zq => first | with_reducible assumption | exact lstO_of _ _); (case p3Zq => first | exact ls_up (show LsAre [] [] _ from by with_reducible assumption) (fun p hp => nomatch hp) | exact ls_up (by with_reducible assumption) (fun p hp => by (repeat (first | (with_reducible assumption) | (with_reducible exact List.mem_cons_self ..) | (with_reducible refine List.mem_cons_of_mem _ ?_) | (with_reducible refine List.mem_append_right _ ?_))); done)); (case p4Zq => walk_at "kk LNF"); (case p5Zq => first | exact Nat.zero_le _ | (walk_at "kk LNF")); k_whole); intro led' v' h' tk' hR' F' N'; (obtain ⟨q', qo', qs', sub', hV', hL', hlo', hls'⟩ := hR'); subst hV' hL'; (try simp only [List.nil_append, List.cons_append] at F' N'); k_sweep) | ((with_reducible show wpAny _ _ (call (Value.ref 129) [Value.ref _]) _ _ _); k_dflt (refine' SpecW.use2 (by k_asm) (by k_asm) (by k_asm) (by k_asm) (by k_asm) (by first | exact rfl | assumption) (pieces_ok _ _ _ _ _ ?p1Zq ?p2Zq ?p3Zq) (by ktr_room) (by ktr_units) ?_; (case p1Zq => (repeat (first | (with_reducible assumption) | (with_reducible exact List.mem_cons_self ..) | (with_reducible refine List.mem_cons_of_mem _ ?_) | (with_reducible refine List.mem_append_right _ ?_)))); (case p2Zq => walk_at "kk INF"); (case p3Zq => walk_at "kk LNF"); k_whole); intro led' v' h' tk' hR' F' N'; (obtain ⟨q', ws', k', sub', hV', hL', hls'⟩ := hR'); subst hV' hL'; (try simp only [List.nil_append, List.cons_append] at F' N'); k_sweep) | ((with_reducible show wpAny _ _ (call (Value.ref 122) [Value.ref _]) _ _ _); k_dflt (refine' Spec.use2 (by k_asm) (by k_asm) (by k_asm) (by k_asm) (by k_asm) (by first | exact rfl | assumption) (slashes_ok _ _ _ _ _ ?p1Zq ?p2Zq ?p3Zq) (by ktr_room) (by ktr_units) ?_; (case p1Zq => (repeat (first | (with_reducible assumption) | (with_reducible exact List.mem_cons_self ..) | (with_reducible refine List.mem_cons_of_mem _ ?_) | (with_reducible refine List.mem_append_right _ ?_)))); (case p2Zq => walk_at "kk INF"); (case p3Zq => walk_at "kk LNF"); k_whole); intro led' v' h' tk' hR' hfr' F' N'; (obtain ⟨hL', t', hV'⟩ := hR'); subst hL' hV'; (try simp only [List.nil_append, List.cons_append] at F' N'); (try clear hfr'); k_sweep)); k_steps))
      · exact ⟨rfl, _, _, _, [], rfl, by assumption, by assumption, rfl, _, congrArg (fun i => Value.int i _) (dep_a (by assumption))⟩
      · exact ⟨rfl, _, _, _, [], rfl, by assumption, by assumption, rfl, _, congrArg (fun i => Value.int i _) (dep_b (by assumption))⟩
    · rintro led v h' tk' ⟨rfl, t', rfl⟩ F' N'
      rw [List.nil_append] at N'
      have hdl : depL codes ≤ 4100 := by
        unfold depL
        have h := splitL_length 47 codes
        split <;> omega
      (k_steps; repeat' ((with_reducible refine Stop.un ?_); (first | ((with_reducible show wpAny _ _ (call (Value.builtin "len") [Value.ref _]) _ _ _); k_dflt (refine' len_R ?NZq ?mZq ?iZq ?zZq ?_; (case NZq => k_asm); (case mZq => (repeat (first | (with_reducible assumption) | (with_reducible exact List.mem_cons_self ..) | (with_reducible refine List.mem_cons_of_mem _ ?_) | (with_reducible refine List.mem_append_right _ ?_)))); (case iZq => with_reducible assumption); (case zZq => walk_at "kk LNF"); k_whole); intro t' tk') | ((with_reducible show wpAny _ _ (binaryOp Operator.Add (Value.ref _) (Value.ref _)) _ _ _); k_dflt (refine' add_R ?FZq ?NZq ?aZq ?bZq ?laZq ?lbZq ?zZq ?_; (case FZq => k_asm); (case NZq => k_asm); (case aZq => (repeat (first | (with_reducible assumption) | (with_reducible exact List.mem_cons_self ..) | (with_reducible refine List.mem_cons_of_mem _ ?_) | (with_reducible refine List.mem_append_right _ ?_)))); (case bZq => (repeat (first | (with_reducible assumption) | (with_reducible exact List.mem_cons_self ..) | (with_reducible refine List.mem_cons_of_mem _ ?_) | (with_reducible refine List.mem_append_right _ ?_)))); (case laZq => first | with_reducible assumption | exact lstO_of _ _); (case lbZq => first | with_reducible assumption | exact lstO_of _ _); (case zZq => walk_at "kk LNF"); k_whole); intro D' h' F' N' l1; (try k_lt l1); (try k_sweep)) | ((with_reducible show wpAny _ _ (subscriptTail _ (PySem.Expr.Slice _ _ none _) (Value.ref _) (Value.ref _)) _ _ _); k_dflt (refine' from_R ?FZq ?NZq ?mZq ?iZq ?yZq ?zZq ?_ ?sZq ?tZq; (case FZq => k_asm); (case NZq => k_asm); (case mZq => (repeat (first | (with_reducible assumption) | (with_reducible exact List.mem_cons_self ..) | (with_reducible refine List.mem_cons_of_mem _ ?_) | (with_reducible refine List.mem_append_right _ ?_)))); (case iZq => first | with_reducible assumption | exact lstO_of _ _); (case yZq => walk_at "kk nat"); (case zZq => walk_at "kk LNF"); (case sZq => with_unfolding_all rfl); (case tZq => (intro _; with_unfolding_all rfl)); k_whole); intro D' h' F' N' l1; (try k_lt l1); (try k_sweep)) | ((with_reducible show wpAny _ _ (subscriptTail _ (PySem.Expr.Slice _ _ none _) (Value.ref _) (Value.ref _)) _ _ _); k_dflt (refine' upto_R ?FZq ?NZq ?mZq ?iZq ?yZq ?zZq ?_ ?sZq ?tZq; (case FZq => k_asm); (case NZq => k_asm); (case mZq => (repeat (first | (with_reducible assumption) | (with_reducible exact List.mem_cons_self ..) | (with_reducible refine List.mem_cons_of_mem _ ?_) | (with_reducible refine List.mem_append_right _ ?_)))); (case iZq => first | with_reducible assumption | exact lstO_of _ _); (case yZq => walk_at "kk nat"); (case zZq => walk_at "kk LNF"); (case sZq => with_unfolding_all rfl); (case tZq => (intro _; with_unfolding_all rfl)); k_whole); intro D' h' F' N' l1; (try k_lt l1); (try k_sweep)) | ((with_reducible show wpAny _ _ (subscriptTail _ (PySem.Expr.Slice _ _ none _) (Value.ref _) (Value.ref _)) _ _ _); k_dflt (refine' from_L ?FZq ?NZq ?mZq ?iZq ?yZq ?zZq ?_ ?sZq ?tZq; (case FZq => k_asm); (case NZq => k_asm); (case mZq => (repeat (first | (with_reducible assumption) | (with_reducible exact List.mem_cons_self ..) | (with_reducible refine List.mem_cons_of_mem _ ?_) | (with_reducible refine List.mem_append_right _ ?_)))); (case iZq => walk_at "kk INF"); (case yZq => walk_at "kk nat"); (case zZq => walk_at "kk LNF"); (case sZq => with_unfolding_all rfl); (case tZq => (intro _; with_unfolding_all rfl)); k_whole); intro D' ws' h' F' N' l1 hI'; (try k_lt l1); (try k_sweep)) | ((with_reducible show wpAny _ _ (call (Value.builtin "len") [Value.ref _]) _ _ _); k_dflt (refine' len_L ?NZq ?mZq ?iZq ?zZq ?_; (case NZq => k_asm); (case mZq => (repeat (first | (with_reducible assumption) | (with_reducible exact List.mem_cons_self ..) | (with_reducible refine List.mem_cons_of_mem _ ?_) | (with_reducible refine List.mem_append_right _ ?_)))); (case iZq => walk_at "kk INF"); (case zZq => walk_at "kk LNF"); k_whole); intro t' tk') | ((with_reducible show wpAny _ _ (compareOp CmpOp.NotEq (Value.ref _) (Value.ref _)) _ _ _); k_dflt (refine' ne_NN ?NZq ?aZq ?bZq ?laZq ?lbZq ?iZq ?jZq ?uZq ?_; (case NZq => k_asm); (case aZq => (repeat (first | (with_reducible assumption) | (with_reducible exact List.mem_cons_self ..) | (with_reducible refine List.mem_cons_of_mem _ ?_) | (with_reducible refine List.mem_append_right _ ?_)))); (case bZq => (repeat (first | (with_reducible assumption) | (with_reducible exact List.mem_cons_self ..) | (with_reducible refine List.mem_cons_of_mem _ ?_) | (with_reducible refine List.mem_append_right _ ?_)))); (case laZq => first | with_reducible assumption | exact lstO_of _ _); (case lbZq => first | with_reducible assumption | exact lstO_of _ _); (case iZq => first | with_reducible exact ls_up (by with_reducible assumption) (fun p hp => by (repeat (first | (with_reducible assumption) | (with_reducible exact List.mem_cons_self ..) | (with_reducible refine List.mem_cons_of_mem _ ?_) | (with_reducible refine List.mem_append_right _ ?_))))); (case jZq => first | with_reducible exact ls_up (by with_reducible assumption) (fun p hp => by (repeat (first | (with_reducible assumption) | (with_reducible exact List.mem_cons_self ..) | (with_reducible refine List.mem_cons_of_mem _ ?_) | (with_reducible refine List.mem_append_right _ ?_))))); (case uZq => ke_room); k_whole)) | ((with_reducible show wpAny _ _ (compareOp CmpOp.Eq (Value.ref _) (Value.ref _)) _ _ _); k_dflt (refine' eq_NN ?NZq ?aZq ?bZq ?laZq ?lbZq ?iZq ?jZq ?uZq ?_; (case NZq => k_asm); (case aZq => (repeat (first | (with_reducible assumption) | (with_reducible exact List.mem_cons_self ..) | (with_reducible refine List.mem_cons_of_mem _ ?_) | (with_reducible refine List.mem_append_right _ ?_)))); (case bZq => (repeat (first | (with_reducible assumption) | (with_reducible exact List.mem_cons_self ..) | (with_reducible refine List.mem_cons_of_mem _ ?_) | (with_reducible refine List.mem_append_right _ ?_)))); (case laZq => first | with_reducible assumption | exact lstO_of _ _); (case lbZq => first | with_reducible assumption | exact lstO_of _ _); (case iZq => first | with_reducible exact ls_up (by with_reducible assumption) (fun p hp => by (repeat (first | (with_reducible assumption) | (with_reducible exact List.mem_cons_self ..) | (with_reducible refine List.mem_cons_of_mem _ ?_) | (with_reducible refine List.mem_append_right _ ?_))))); (case jZq => first | with_reducible exact ls_up (by with_reducible assumption) (fun p hp => by (repeat (first | (with_reducible assumption) | (with_reducible exact List.mem_cons_self ..) | (with_reducible refine List.mem_cons_of_mem _ ?_) | (with_reducible refine List.mem_append_right _ ?_))))); (case uZq => ke_room); k_whole)) | ((with_reducible show wpAny _ _ (compareOp CmpOp.Eq (Value.ref _) (Value.ref _)) _ _ _); k_dflt (refine' eq_I ?NZq ?aZq ?bZq ?laZq ?lbZq ?iZq ?jZq ?uZq ?_; (case NZq => k_asm); (case aZq => (repeat (first | (with_reducible assumption) | (with_reducible exact List.mem_cons_self ..) | (with_reducible refine List.mem_cons_of_mem _ ?_) | (with_reducible refine List.mem_append_right _ ?_)))); (case bZq => (repeat (first | (with_reducible assumption) | (with_reducible exact List.mem_cons_self ..) | (with_reducible refine List.mem_cons_of_mem _ ?_) | (with_reducible refine List.mem_append_right _ ?_)))); (case laZq => first | with_reducible assumption | exact lstO_of _ _); (case lbZq => first | with_reducible assumption | exact lstO_of _ _); (case iZq => first | with_reducible assumption | exact IntsAre.nil | exact IntsAre.cons _ _ IntsAre.nil | exact IntsAre.cons _ _ (IntsAre.cons _ _ IntsAre.nil)); (case jZq => first | with_reducible assumption | exact IntsAre.nil | exact IntsAre.cons _ _ IntsAre.nil | exact IntsAre.cons _ _ (IntsAre.cons _ _ IntsAre.nil)); (case uZq => ke_room); k_whole)) | ((with_reducible show wpAny _ _ (call (Value.ref 134) [Value.int _ _, Value.ref _]) _ _ _); k_dflt (refine' SpecW.use2 (by k_asm) (by k_asm) (by k_asm) (by k_asm) (by k_asm) (by first | exact rfl | assumption) (walk_ok _ _ _ _ _ _ _ ?p1Zq ?p2Zq ?p3Zq ?p4Zq ?p5Zq) (by ktr_room) (by ktr_units) ?_; (case p1Zq => (repeat (first | (with_reducible assumption) | (with_reducible exact List.mem_cons_self ..) | (with_reducible refine List.mem_cons_of_mem _ ?_) | (with_reducible refine List.mem_append_right _ ?_)))); (case p2Zq => first | with_reducible assumption | exact lstO_of _ _); (case p3Zq => first | exact ls_up (show LsAre [] [] _ from by with_reducible assumption) (fun p hp => nomatch hp) | exact ls_up (by with_reducible assumption) (fun p hp => by (repeat (first | (with_reducible assumption) | (with_reducible exact List.mem_cons_self ..) | (with_reducible refine List.mem_cons_of_mem _ ?_) | (with_reducible refine List.mem_append_right _ ?_))); done)); (case p4Zq => walk_at "kk LNF"); (case p5Zq => first | exact Nat.zero_le _ | (walk_at "kk LNF")); k_whole); intro led' v' h' tk' hR' F' N'; (obtain ⟨q', qo', qs', sub', hV', hL', hlo', hls'⟩ := hR'); subst hV' hL'; (try simp only [List.nil_append, List.cons_append] at F' N'); k_sweep) | ((with_reducible show wpAny _ _ (call (Value.ref 129) [Value.ref _]) _ _ _); k_dflt (refine' SpecW.use2 (by k_asm) (by k_asm) (by k_asm) (by k_asm) (by k_asm) (by first | exact rfl | assumption) (pieces_ok _ _ _ _ _ ?p1Zq ?p2Zq ?p3Zq) (by ktr_room) (by ktr_units) ?_; (case p1Zq => (repeat (first | (with_reducible assumption) | (with_reducible exact List.mem_cons_self ..) | (with_reducible refine List.mem_cons_of_mem _ ?_) | (with_reducible refine List.mem_append_right _ ?_)))); (case p2Zq => walk_at "kk INF"); (case p3Zq => walk_at "kk LNF"); k_whole); intro led' v' h' tk' hR' F' N'; (obtain ⟨q', ws', k', sub', hV', hL', hls'⟩ := hR'); subst hV' hL'; (try simp only [List.nil_append, List.cons_append] at F' N'); k_sweep) | ((with_reducible show wpAny _ _ (call (Value.ref 122) [Value.ref _]) _ _ _); k_dflt (refine' Spec.use2 (by k_asm) (by k_asm) (by k_asm) (by k_asm) (by k_asm) (by first | exact rfl | assumption) (slashes_ok _ _ _ _ _ ?p1Zq ?p2Zq ?p3Zq) (by ktr_room) (by ktr_units) ?_; (case p1Zq => (repeat (first | (with_reducible assumption) | (with_reducible exact List.mem_cons_self ..) | (with_reducible refine List.mem_cons_of_mem _ ?_) | (with_reducible refine List.mem_append_right _ ?_)))); (case p2Zq => walk_at "kk INF"); (case p3Zq => walk_at "kk LNF"); k_whole); intro led' v' h' tk' hR' hfr' F' N'; (obtain ⟨hL', t', hV'⟩ := hR'); subst hL' hV'; (try simp only [List.nil_append, List.cons_append] at F' N'); (try clear hfr'); k_sweep)); k_steps))
      refine Stop.un ?_
      refine join_ret (¬ (rootL codes = [] ∧ walkL (depL codes) (splitL 47 codes) = walkL (depL codes) [])) (by assumption) (by assumption) ?_ ?_
      · have hnl : LsAre [] [] (([] : List (List Nat)).map IN) := True.intro
        (k_steps; repeat' ((with_reducible refine Stop.un ?_); (first | ((with_reducible show wpAny _ _ (call (Value.builtin "len") [Value.ref _]) _ _ _); k_dflt (refine' len_R ?NZq ?mZq ?iZq ?zZq ?_; (case NZq => k_asm); (case mZq => (repeat (first | (with_reducible assumption) | (with_reducible exact List.mem_cons_self ..) | (with_reducible refine List.mem_cons_of_mem _ ?_) | (with_reducible refine List.mem_append_right _ ?_)))); (case iZq => with_reducible assumption); (case zZq => walk_at "kk LNF"); k_whole); intro t' tk') | ((with_reducible show wpAny _ _ (binaryOp Operator.Add (Value.ref _) (Value.ref _)) _ _ _); k_dflt (refine' add_R ?FZq ?NZq ?aZq ?bZq ?laZq ?lbZq ?zZq ?_; (case FZq => k_asm); (case NZq => k_asm); (case aZq => (repeat (first | (with_reducible assumption) | (with_reducible exact List.mem_cons_self ..) | (with_reducible refine List.mem_cons_of_mem _ ?_) | (with_reducible refine List.mem_append_right _ ?_)))); (case bZq => (repeat (first | (with_reducible assumption) | (with_reducible exact List.mem_cons_self ..) | (with_reducible refine List.mem_cons_of_mem _ ?_) | (with_reducible refine List.mem_append_right _ ?_)))); (case laZq => first | with_reducible assumption | exact lstO_of _ _); (case lbZq => first | with_reducible assumption | exact lstO_of _ _); (case zZq => walk_at "kk LNF"); k_whole); intro D' h' F' N' l1; (try k_lt l1); (try k_sweep)) | ((with_reducible show wpAny _ _ (subscriptTail _ (PySem.Expr.Slice _ _ none _) (Value.ref _) (Value.ref _)) _ _ _); k_dflt (refine' from_R ?FZq ?NZq ?mZq ?iZq ?yZq ?zZq ?_ ?sZq ?tZq; (case FZq => k_asm); (case NZq => k_asm); (case mZq => (repeat (first | (with_reducible assumption) | (with_reducible exact List.mem_cons_self ..) | (with_reducible refine List.mem_cons_of_mem _ ?_) | (with_reducible refine List.mem_append_right _ ?_)))); (case iZq => first | with_reducible assumption | exact lstO_of _ _); (case yZq => walk_at "kk nat"); (case zZq => walk_at "kk LNF"); (case sZq => with_unfolding_all rfl); (case tZq => (intro _; with_unfolding_all rfl)); k_whole); intro D' h' F' N' l1; (try k_lt l1); (try k_sweep)) | ((with_reducible show wpAny _ _ (subscriptTail _ (PySem.Expr.Slice _ _ none _) (Value.ref _) (Value.ref _)) _ _ _); k_dflt (refine' upto_R ?FZq ?NZq ?mZq ?iZq ?yZq ?zZq ?_ ?sZq ?tZq; (case FZq => k_asm); (case NZq => k_asm); (case mZq => (repeat (first | (with_reducible assumption) | (with_reducible exact List.mem_cons_self ..) | (with_reducible refine List.mem_cons_of_mem _ ?_) | (with_reducible refine List.mem_append_right _ ?_)))); (case iZq => first | with_reducible assumption | exact lstO_of _ _); (case yZq => walk_at "kk nat"); (case zZq => walk_at "kk LNF"); (case sZq => with_unfolding_all rfl); (case tZq => (intro _; with_unfolding_all rfl)); k_whole); intro D' h' F' N' l1; (try k_lt l1); (try k_sweep)) | ((with_reducible show wpAny _ _ (subscriptTail _ (PySem.Expr.Slice _ _ none _) (Value.ref _) (Value.ref _)) _ _ _); k_dflt (refine' from_L ?FZq ?NZq ?mZq ?iZq ?yZq ?zZq ?_ ?sZq ?tZq; (case FZq => k_asm); (case NZq => k_asm); (case mZq => (repeat (first | (with_reducible assumption) | (with_reducible exact List.mem_cons_self ..) | (with_reducible refine List.mem_cons_of_mem _ ?_) | (with_reducible refine List.mem_append_right _ ?_)))); (case iZq => walk_at "kk INF"); (case yZq => walk_at "kk nat"); (case zZq => walk_at "kk LNF"); (case sZq => with_unfolding_all rfl); (case tZq => (intro _; with_unfolding_all rfl)); k_whole); intro D' ws' h' F' N' l1 hI'; (try k_lt l1); (try k_sweep)) | ((with_reducible show wpAny _ _ (call (Value.builtin "len") [Value.ref _]) _ _ _); k_dflt (refine' len_L ?NZq ?mZq ?iZq ?zZq ?_; (case NZq => k_asm); (case mZq => (repeat (first | (with_reducible assumption) | (with_reducible exact List.mem_cons_self ..) | (with_reducible refine List.mem_cons_of_mem _ ?_) | (with_reducible refine List.mem_append_right _ ?_)))); (case iZq => walk_at "kk INF"); (case zZq => walk_at "kk LNF"); k_whole); intro t' tk') | ((with_reducible show wpAny _ _ (compareOp CmpOp.NotEq (Value.ref _) (Value.ref _)) _ _ _); k_dflt (refine' ne_NN ?NZq ?aZq ?bZq ?laZq ?lbZq ?iZq ?jZq ?uZq ?_; (case NZq => k_asm); (case aZq => (repeat (first | (with_reducible assumption) | (with_reducible exact List.mem_cons_self ..) | (with_reducible refine List.mem_cons_of_mem _ ?_) | (with_reducible refine List.mem_append_right _ ?_)))); (case bZq => (repeat (first | (with_reducible assumption) | (with_reducible exact List.mem_cons_self ..) | (with_reducible refine List.mem_cons_of_mem _ ?_) | (with_reducible refine List.mem_append_right _ ?_)))); (case laZq => first | with_reducible assumption | exact lstO_of _ _); (case lbZq => first | with_reducible assumption | exact lstO_of _ _); (case iZq => first | with_reducible exact ls_up (by with_reducible assumption) (fun p hp => by (repeat (first | (with_reducible assumption) | (with_reducible exact List.mem_cons_self ..) | (with_reducible refine List.mem_cons_of_mem _ ?_) | (with_reducible refine List.mem_append_right _ ?_))))); (case jZq => first | with_reducible exact ls_up (by with_reducible assumption) (fun p hp => by (repeat (first | (with_reducible assumption) | (with_reducible exact List.mem_cons_self ..) | (with_reducible refine List.mem_cons_of_mem _ ?_) | (with_reducible refine List.mem_append_right _ ?_))))); (case uZq => ke_room); k_whole)) | ((with_reducible show wpAny _ _ (compareOp CmpOp.Eq (Value.ref _) (Value.ref _)) _ _ _); k_dflt (refine' eq_NN ?NZq ?aZq ?bZq ?laZq ?lbZq ?iZq ?jZq ?uZq ?_; (case NZq => k_asm); (case aZq => (repeat (first | (with_reducible assumption) | (with_reducible exact List.mem_cons_self ..) | (with_reducible refine List.mem_cons_of_mem _ ?_) | (with_reducible refine List.mem_append_right _ ?_)))); (case bZq => (repeat (first | (with_reducible assumption) | (with_reducible exact List.mem_cons_self ..) | (with_reducible refine List.mem_cons_of_mem _ ?_) | (with_reducible refine List.mem_append_right _ ?_)))); (case laZq => first | with_reducible assumption | exact lstO_of _ _); (case lbZq => first | with_reducible assumption | exact lstO_of _ _); (case iZq => first | with_reducible exact ls_up (by with_reducible assumption) (fun p hp => by (repeat (first | (with_reducible assumption) | (with_reducible exact List.mem_cons_self ..) | (with_reducible refine List.mem_cons_of_mem _ ?_) | (with_reducible refine List.mem_append_right _ ?_))))); (case jZq => first | with_reducible exact ls_up (by with_reducible assumption) (fun p hp => by (repeat (first | (with_reducible assumption) | (with_reducible exact List.mem_cons_self ..) | (with_reducible refine List.mem_cons_of_mem _ ?_) | (with_reducible refine List.mem_append_right _ ?_))))); (case uZq => ke_room); k_whole)) | ((with_reducible show wpAny _ _ (compareOp CmpOp.Eq (Value.ref _) (Value.ref _)) _ _ _); k_dflt (refine' eq_I ?NZq ?aZq ?bZq ?laZq ?lbZq ?iZq ?jZq ?uZq ?_; (case NZq => k_asm); (case aZq => (repeat (first | (with_reducible assumption) | (with_reducible exact List.mem_cons_self ..) | (with_reducible refine List.mem_cons_of_mem _ ?_) | (with_reducible refine List.mem_append_right _ ?_)))); (case bZq => (repeat (first | (with_reducible assumption) | (with_reducible exact List.mem_cons_self ..) | (with_reducible refine List.mem_cons_of_mem _ ?_) | (with_reducible refine List.mem_append_right _ ?_)))); (case laZq => first | with_reducible assumption | exact lstO_of _ _); (case lbZq => first | with_reducible assumption | exact lstO_of _ _); (case iZq => first | with_reducible assumption | exact IntsAre.nil | exact IntsAre.cons _ _ IntsAre.nil | exact IntsAre.cons _ _ (IntsAre.cons _ _ IntsAre.nil)); (case jZq => first | with_reducible assumption | exact IntsAre.nil | exact IntsAre.cons _ _ IntsAre.nil | exact IntsAre.cons _ _ (IntsAre.cons _ _ IntsAre.nil)); (case uZq => ke_room); k_whole)) | ((with_reducible show wpAny _ _ (call (Value.ref 134) [Value.int _ _, Value.ref _]) _ _ _); k_dflt (refine' SpecW.use2 (by k_asm) (by k_asm) (by k_asm) (by k_asm) (by k_asm) (by first | exact rfl | assumption) (walk_ok _ _ _ _ _ _ _ ?p1Zq ?p2Zq ?p3Zq ?p4Zq ?p5Zq) (by ktr_room) (by ktr_units) ?_; (case p1Zq => (repeat (first | (with_reducible assumption) | (with_reducible exact List.mem_cons_self ..) | (with_reducible refine List.mem_cons_of_mem _ ?_) | (with_reducible refine List.mem_append_right _ ?_)))); (case p2Zq => first | with_reducible assumption | exact lstO_of _ _); (case p3Zq => first | exact ls_up (show LsAre [] [] _ from by with_reducible assumption) (fun p hp => nomatch hp) | exact ls_up (by with_reducible assumption) (fun p hp => by (repeat (first | (with_reducible assumption) | (with_reducible exact List.mem_cons_self ..) | (with_reducible refine List.mem_cons_of_mem _ ?_) | (with_reducible refine List.mem_append_right _ ?_))); done)); (case p4Zq => walk_at "kk LNF"); (case p5Zq => first | exact Nat.zero_le _ | (walk_at "kk LNF")); k_whole); intro led' v' h' tk' hR' F' N'; (obtain ⟨q', qo', qs', sub', hV', hL', hlo', hls'⟩ := hR'); subst hV' hL'; (try simp only [List.nil_append, List.cons_append] at F' N'); k_sweep) | ((with_reducible show wpAny _ _ (call (Value.ref 129) [Value.ref _]) _ _ _); k_dflt (refine' SpecW.use2 (by k_asm) (by k_asm) (by k_asm) (by k_asm) (by k_asm) (by first | exact rfl | assumption) (pieces_ok _ _ _ _ _ ?p1Zq ?p2Zq ?p3Zq) (by ktr_room) (by ktr_units) ?_; (case p1Zq => (repeat (first | (with_reducible assumption) | (with_reducible exact List.mem_cons_self ..) | (with_reducible refine List.mem_cons_of_mem _ ?_) | (with_reducible refine List.mem_append_right _ ?_)))); (case p2Zq => walk_at "kk INF"); (case p3Zq => walk_at "kk LNF"); k_whole); intro led' v' h' tk' hR' F' N'; (obtain ⟨q', ws', k', sub', hV', hL', hls'⟩ := hR'); subst hV' hL'; (try simp only [List.nil_append, List.cons_append] at F' N'); k_sweep) | ((with_reducible show wpAny _ _ (call (Value.ref 122) [Value.ref _]) _ _ _); k_dflt (refine' Spec.use2 (by k_asm) (by k_asm) (by k_asm) (by k_asm) (by k_asm) (by first | exact rfl | assumption) (slashes_ok _ _ _ _ _ ?p1Zq ?p2Zq ?p3Zq) (by ktr_room) (by ktr_units) ?_; (case p1Zq => (repeat (first | (with_reducible assumption) | (with_reducible exact List.mem_cons_self ..) | (with_reducible refine List.mem_cons_of_mem _ ?_) | (with_reducible refine List.mem_append_right _ ?_)))); (case p2Zq => walk_at "kk INF"); (case p3Zq => walk_at "kk LNF"); k_whole); intro led' v' h' tk' hR' hfr' F' N'; (obtain ⟨hL', t', hV'⟩ := hR'); subst hL' hV'; (try simp only [List.nil_append, List.cons_append] at F' N'); (try clear hfr'); k_sweep)); k_steps))
        · refine .inr ⟨_, rfl, ?_⟩
          (k_steps; repeat' ((with_reducible refine Stop.un ?_); (first | ((with_reducible show wpAny _ _ (call (Value.builtin "len") [Value.ref _]) _ _ _); k_dflt (refine' len_R ?NZq ?mZq ?iZq ?zZq ?_; (case NZq => k_asm); (case mZq => (repeat (first | (with_reducible assumption) | (with_reducible exact List.mem_cons_self ..) | (with_reducible refine List.mem_cons_of_mem _ ?_) | (with_reducible refine List.mem_append_right _ ?_)))); (case iZq => with_reducible assumption); (case zZq => walk_at "kk LNF"); k_whole); intro t' tk') | ((with_reducible show wpAny _ _ (binaryOp Operator.Add (Value.ref _) (Value.ref _)) _ _ _); k_dflt (refine' add_R ?FZq ?NZq ?aZq ?bZq ?laZq ?lbZq ?zZq ?_; (case FZq => k_asm); (case NZq => k_asm); (case aZq => (repeat (first | (with_reducible assumption) | (with_reducible exact List.mem_cons_self ..) | (with_reducible refine List.mem_cons_of_mem _ ?_) | (with_reducible refine List.mem_append_right _ ?_)))); (case bZq => (repeat (first | (with_reducible assumption) | (with_reducible exact List.mem_cons_self ..) | (with_reducible refine List.mem_cons_of_mem _ ?_) | (with_reducible refine List.mem_append_right _ ?_)))); (case laZq => first | with_reducible assumption | exact lstO_of _ _); (case lbZq => first | with_reducible assumption | exact lstO_of _ _); (case zZq => walk_at "kk LNF"); k_whole); intro D' h' F' N' l1; (try k_lt l1); (try k_sweep)) | ((with_reducible show wpAny _ _ (subscriptTail _ (PySem.Expr.Slice _ _ none _) (Value.ref _) (Value.ref _)) _ _ _); k_dflt (refine' from_R ?FZq ?NZq ?mZq ?iZq ?yZq ?zZq ?_ ?sZq ?tZq; (case FZq => k_asm); (case NZq => k_asm); (case mZq => (repeat (first | (with_reducible assumption) | (with_reducible exact List.mem_cons_self ..) | (with_reducible refine List.mem_cons_of_mem _ ?_) | (with_reducible refine List.mem_append_right _ ?_)))); (case iZq => first | with_reducible assumption | exact lstO_of _ _); (case yZq => walk_at "kk nat"); (case zZq => walk_at "kk LNF"); (case sZq => with_unfolding_all rfl); (case tZq => (intro _; with_unfolding_all rfl)); k_whole); intro D' h' F' N' l1; (try k_lt l1); (try k_sweep)) | ((with_reducible show wpAny _ _ (subscriptTail _ (PySem.Expr.Slice _ _ none _) (Value.ref _) (Value.ref _)) _ _ _); k_dflt (refine' upto_R ?FZq ?NZq ?mZq ?iZq ?yZq ?zZq ?_ ?sZq ?tZq; (case FZq => k_asm); (case NZq => k_asm); (case mZq => (repeat (first | (with_reducible assumption) | (with_reducible exact List.mem_cons_self ..) | (with_reducible refine List.mem_cons_of_mem _ ?_) | (with_reducible refine List.mem_append_right _ ?_)))); (case iZq => first | with_reducible assumption | exact lstO_of _ _); (case yZq => walk_at "kk nat"); (case zZq => walk_at "kk LNF"); (case sZq => with_unfolding_all rfl); (case tZq => (intro _; with_unfolding_all rfl)); k_whole); intro D' h' F' N' l1; (try k_lt l1); (try k_sweep)) | ((with_reducible show wpAny _ _ (subscriptTail _ (PySem.Expr.Slice _ _ none _) (Value.ref _) (Value.ref _)) _ _ _); k_dflt (refine' from_L ?FZq ?NZq ?mZq ?iZq ?yZq ?zZq ?_ ?sZq ?tZq; (case FZq => k_asm); (case NZq => k_asm); (case mZq => (repeat (first | (with_reducible assumption) | (with_reducible exact List.mem_cons_self ..) | (with_reducible refine List.mem_cons_of_mem _ ?_) | (with_reducible refine List.mem_append_right _ ?_)))); (case iZq => walk_at "kk INF"); (case yZq => walk_at "kk nat"); (case zZq => walk_at "kk LNF"); (case sZq => with_unfolding_all rfl); (case tZq => (intro _; with_unfolding_all rfl)); k_whole); intro D' ws' h' F' N' l1 hI'; (try k_lt l1); (try k_sweep)) | ((with_reducible show wpAny _ _ (call (Value.builtin "len") [Value.ref _]) _ _ _); k_dflt (refine' len_L ?NZq ?mZq ?iZq ?zZq ?_; (case NZq => k_asm); (case mZq => (repeat (first | (with_reducible assumption) | (with_reducible exact List.mem_cons_self ..) | (with_reducible refine List.mem_cons_of_mem _ ?_) | (with_reducible refine List.mem_append_right _ ?_)))); (case iZq => walk_at "kk INF"); (case zZq => walk_at "kk LNF"); k_whole); intro t' tk') | ((with_reducible show wpAny _ _ (compareOp CmpOp.NotEq (Value.ref _) (Value.ref _)) _ _ _); k_dflt (refine' ne_NN ?NZq ?aZq ?bZq ?laZq ?lbZq ?iZq ?jZq ?uZq ?_; (case NZq => k_asm); (case aZq => (repeat (first | (with_reducible assumption) | (with_reducible exact List.mem_cons_self ..) | (with_reducible refine List.mem_cons_of_mem _ ?_) | (with_reducible refine List.mem_append_right _ ?_)))); (case bZq => (repeat (first | (with_reducible assumption) | (with_reducible exact List.mem_cons_self ..) | (with_reducible refine List.mem_cons_of_mem _ ?_) | (with_reducible refine List.mem_append_right _ ?_)))); (case laZq => first | with_reducible assumption | exact lstO_of _ _); (case lbZq => first | with_reducible assumption | exact lstO_of _ _); (case iZq => first | with_reducible exact ls_up (by with_reducible assumption) (fun p hp => by (repeat (first | (with_reducible assumption) | (with_reducible exact List.mem_cons_self ..) | (with_reducible refine List.mem_cons_of_mem _ ?_) | (with_reducible refine List.mem_append_right _ ?_))))); (case jZq => first | with_reducible exact ls_up (by with_reducible assumption) (fun p hp => by (repeat (first | (with_reducible assumption) | (with_reducible exact List.mem_cons_self ..) | (with_reducible refine List.mem_cons_of_mem _ ?_) | (with_reducible refine List.mem_append_right _ ?_))))); (case uZq => ke_room); k_whole)) | ((with_reducible show wpAny _ _ (compareOp CmpOp.Eq (Value.ref _) (Value.ref _)) _ _ _); k_dflt (refine' eq_NN ?NZq ?aZq ?bZq ?laZq ?lbZq ?iZq ?jZq ?uZq ?_; (case NZq => k_asm); (case aZq => (repeat (first | (with_reducible assumption) | (with_reducible exact List.mem_cons_self ..) | (with_reducible refine List.mem_cons_of_mem _ ?_) | (with_reducible refine List.mem_append_right _ ?_)))); (case bZq => (repeat (first | (with_reducible assumption) | (with_reducible exact List.mem_cons_self ..) | (with_reducible refine List.mem_cons_of_mem _ ?_) | (with_reducible refine List.mem_append_right _ ?_)))); (case laZq => first | with_reducible assumption | exact lstO_of _ _); (case lbZq => first | with_reducible assumption | exact lstO_of _ _); (case iZq => first | with_reducible exact ls_up (by with_reducible assumption) (fun p hp => by (repeat (first | (with_reducible assumption) | (with_reducible exact List.mem_cons_self ..) | (with_reducible refine List.mem_cons_of_mem _ ?_) | (with_reducible refine List.mem_append_right _ ?_))))); (case jZq => first | with_reducible exact ls_up (by with_reducible assumption) (fun p hp => by (repeat (first | (with_reducible assumption) | (with_reducible exact List.mem_cons_self ..) | (with_reducible refine List.mem_cons_of_mem _ ?_) | (with_reducible refine List.mem_append_right _ ?_))))); (case uZq => ke_room); k_whole)) | ((with_reducible show wpAny _ _ (compareOp CmpOp.Eq (Value.ref _) (Value.ref _)) _ _ _); k_dflt (refine' eq_I ?NZq ?aZq ?bZq ?laZq ?lbZq ?iZq ?jZq ?uZq ?_; (case NZq => k_asm); (case aZq => (repeat (first | (with_reducible assumption) | (with_reducible exact List.mem_cons_self ..) | (with_reducible refine List.mem_cons_of_mem _ ?_) | (with_reducible refine List.mem_append_right _ ?_)))); (case bZq => (repeat (first | (with_reducible assumption) | (with_reducible exact List.mem_cons_self ..) | (with_reducible refine List.mem_cons_of_mem _ ?_) | (with_reducible refine List.mem_append_right _ ?_)))); (case laZq => first | with_reducible assumption | exact lstO_of _ _); (case lbZq => first | with_reducible assumption | exact lstO_of _ _); (case iZq => first | with_reducible assumption | exact IntsAre.nil | exact IntsAre.cons _ _ IntsAre.nil | exact IntsAre.cons _ _ (IntsAre.cons _ _ IntsAre.nil)); (case jZq => first | with_reducible assumption | exact IntsAre.nil | exact IntsAre.cons _ _ IntsAre.nil | exact IntsAre.cons _ _ (IntsAre.cons _ _ IntsAre.nil)); (case uZq => ke_room); k_whole)) | ((with_reducible show wpAny _ _ (call (Value.ref 134) [Value.int _ _, Value.ref _]) _ _ _); k_dflt (refine' SpecW.use2 (by k_asm) (by k_asm) (by k_asm) (by k_asm) (by k_asm) (by first | exact rfl | assumption) (walk_ok _ _ _ _ _ _ _ ?p1Zq ?p2Zq ?p3Zq ?p4Zq ?p5Zq) (by ktr_room) (by ktr_units) ?_; (case p1Zq => (repeat (first | (with_reducible assumption) | (with_reducible exact List.mem_cons_self ..) | (with_reducible refine List.mem_cons_of_mem _ ?_) | (with_reducible refine List.mem_append_right _ ?_)))); (case p2Zq => first | with_reducible assumption | exact lstO_of _ _); (case p3Zq => first | exact ls_up (show LsAre [] [] _ from by with_reducible assumption) (fun p hp => nomatch hp) | exact ls_up (by with_reducible assumption) (fun p hp => by (repeat (first | (with_reducible assumption) | (with_reducible exact List.mem_cons_self ..) | (with_reducible refine List.mem_cons_of_mem _ ?_) | (with_reducible refine List.mem_append_right _ ?_))); done)); (case p4Zq => walk_at "kk LNF"); (case p5Zq => first | exact Nat.zero_le _ | (walk_at "kk LNF")); k_whole); intro led' v' h' tk' hR' F' N'; (obtain ⟨q', qo', qs', sub', hV', hL', hlo', hls'⟩ := hR'); subst hV' hL'; (try simp only [List.nil_append, List.cons_append] at F' N'); k_sweep) | ((with_reducible show wpAny _ _ (call (Value.ref 129) [Value.ref _]) _ _ _); k_dflt (refine' SpecW.use2 (by k_asm) (by k_asm) (by k_asm) (by k_asm) (by k_asm) (by first | exact rfl | assumption) (pieces_ok _ _ _ _ _ ?p1Zq ?p2Zq ?p3Zq) (by ktr_room) (by ktr_units) ?_; (case p1Zq => (repeat (first | (with_reducible assumption) | (with_reducible exact List.mem_cons_self ..) | (with_reducible refine List.mem_cons_of_mem _ ?_) | (with_reducible refine List.mem_append_right _ ?_)))); (case p2Zq => walk_at "kk INF"); (case p3Zq => walk_at "kk LNF"); k_whole); intro led' v' h' tk' hR' F' N'; (obtain ⟨q', ws', k', sub', hV', hL', hls'⟩ := hR'); subst hV' hL'; (try simp only [List.nil_append, List.cons_append] at F' N'); k_sweep) | ((with_reducible show wpAny _ _ (call (Value.ref 122) [Value.ref _]) _ _ _); k_dflt (refine' Spec.use2 (by k_asm) (by k_asm) (by k_asm) (by k_asm) (by k_asm) (by first | exact rfl | assumption) (slashes_ok _ _ _ _ _ ?p1Zq ?p2Zq ?p3Zq) (by ktr_room) (by ktr_units) ?_; (case p1Zq => (repeat (first | (with_reducible assumption) | (with_reducible exact List.mem_cons_self ..) | (with_reducible refine List.mem_cons_of_mem _ ?_) | (with_reducible refine List.mem_append_right _ ?_)))); (case p2Zq => walk_at "kk INF"); (case p3Zq => walk_at "kk LNF"); k_whole); intro led' v' h' tk' hR' hfr' F' N'; (obtain ⟨hL', t', hV'⟩ := hR'); subst hL' hV'; (try simp only [List.nil_append, List.cons_append] at F' N'); (try clear hfr'); k_sweep)); k_steps))
          exact hret [] _ _ _ ⟨rfl, congrArg Value.bool (decide_eq_true (dot46 (q5_dot hc (root_nil0 (by assumption)) (by assumption))))⟩ (by k_asm) (cb_drop (by assumption) (show ∀ p ∈ news, _ from fun p hp => by (repeat (first | (with_reducible assumption) | (with_reducible exact List.mem_cons_self ..) | (with_reducible refine List.mem_cons_of_mem _ ?_) | (with_reducible refine List.mem_append_right _ ?_)))))
        · exact .inl ⟨rfl, fun h => absurd h.2 (by assumption), _, _, rfl, by assumption, cb_drop (by assumption) (fun p hp => by (repeat (first | (with_reducible assumption) | (with_reducible exact List.mem_cons_self ..) | (with_reducible refine List.mem_cons_of_mem _ ?_) | (with_reducible refine List.mem_append_right _ ?_))))⟩
        · exact .inl ⟨rfl, fun h => absurd (congrArg (fun x => (List.length x : Int)) h.1) (by assumption), _, _, rfl, by assumption, by assumption⟩
      · intro hT h' tk' F' N'
        (k_steps; repeat' ((with_reducible refine Stop.un ?_); (first | ((with_reducible show wpAny _ _ (call (Value.builtin "len") [Value.ref _]) _ _ _); k_dflt (refine' len_R ?NZq ?mZq ?iZq ?zZq ?_; (case NZq => k_asm); (case mZq => (repeat (first | (with_reducible assumption) | (with_reducible exact List.mem_cons_self ..) | (with_reducible refine List.mem_cons_of_mem _ ?_) | (with_reducible refine List.mem_append_right _ ?_)))); (case iZq => with_reducible assumption); (case zZq => walk_at "kk LNF"); k_whole); intro t' tk') | ((with_reducible show wpAny _ _ (binaryOp Operator.Add (Value.ref _) (Value.ref _)) _ _ _); k_dflt (refine' add_R ?FZq ?NZq ?aZq ?bZq ?laZq ?lbZq ?zZq ?_; (case FZq => k_asm); (case NZq => k_asm); (case aZq => (repeat (first | (with_reducible assumption) | (with_reducible exact List.mem_cons_self ..) | (with_reducible refine List.mem_cons_of_mem _ ?_) | (with_reducible refine List.mem_append_right _ ?_)))); (case bZq => (repeat (first | (with_reducible assumption) | (with_reducible exact List.mem_cons_self ..) | (with_reducible refine List.mem_cons_of_mem _ ?_) | (with_reducible refine List.mem_append_right _ ?_)))); (case laZq => first | with_reducible assumption | exact lstO_of _ _); (case lbZq => first | with_reducible assumption | exact lstO_of _ _); (case zZq => walk_at "kk LNF"); k_whole); intro D' h' F' N' l1; (try k_lt l1); (try k_sweep)) | ((with_reducible show wpAny _ _ (subscriptTail _ (PySem.Expr.Slice _ _ none _) (Value.ref _) (Value.ref _)) _ _ _); k_dflt (refine' from_R ?FZq ?NZq ?mZq ?iZq ?yZq ?zZq ?_ ?sZq ?tZq; (case FZq => k_asm); (case NZq => k_asm); (case mZq => (repeat (first | (with_reducible assumption) | (with_reducible exact List.mem_cons_self ..) | (with_reducible refine List.mem_cons_of_mem _ ?_) | (with_reducible refine List.mem_append_right _ ?_)))); (case iZq => first | with_reducible assumption | exact lstO_of _ _); (case yZq => walk_at "kk nat"); (case zZq => walk_at "kk LNF"); (case sZq => with_unfolding_all rfl); (case tZq => (intro _; with_unfolding_all rfl)); k_whole); intro D' h' F' N' l1; (try k_lt l1); (try k_sweep)) | ((with_reducible show wpAny _ _ (subscriptTail _ (PySem.Expr.Slice _ _ none _) (Value.ref _) (Value.ref _)) _ _ _); k_dflt (refine' upto_R ?FZq ?NZq ?mZq ?iZq ?yZq ?zZq ?_ ?sZq ?tZq; (case FZq => k_asm); (case NZq => k_asm); (case mZq => (repeat (first | (with_reducible assumption) | (with_reducible exact List.mem_cons_self ..) | (with_reducible refine List.mem_cons_of_mem _ ?_) | (with_reducible refine List.mem_append_right _ ?_)))); (case iZq => first | with_reducible assumption | exact lstO_of _ _); (case yZq => walk_at "kk nat"); (case zZq => walk_at "kk LNF"); (case sZq => with_unfolding_all rfl); (case tZq => (intro _; with_unfolding_all rfl)); k_whole); intro D' h' F' N' l1; (try k_lt l1); (try k_sweep)) | ((with_reducible show wpAny _ _ (subscriptTail _ (PySem.Expr.Slice _ _ none _) (Value.ref _) (Value.ref _)) _ _ _); k_dflt (refine' from_L ?FZq ?NZq ?mZq ?iZq ?yZq ?zZq ?_ ?sZq ?tZq; (case FZq => k_asm); (case NZq => k_asm); (case mZq => (repeat (first | (with_reducible assumption) | (with_reducible exact List.mem_cons_self ..) | (with_reducible refine List.mem_cons_of_mem _ ?_) | (with_reducible refine List.mem_append_right _ ?_)))); (case iZq => walk_at "kk INF"); (case yZq => walk_at "kk nat"); (case zZq => walk_at "kk LNF"); (case sZq => with_unfolding_all rfl); (case tZq => (intro _; with_unfolding_all rfl)); k_whole); intro D' ws' h' F' N' l1 hI'; (try k_lt l1); (try k_sweep)) | ((with_reducible show wpAny _ _ (call (Value.builtin "len") [Value.ref _]) _ _ _); k_dflt (refine' len_L ?NZq ?mZq ?iZq ?zZq ?_; (case NZq => k_asm); (case mZq => (repeat (first | (with_reducible assumption) | (with_reducible exact List.mem_cons_self ..) | (with_reducible refine List.mem_cons_of_mem _ ?_) | (with_reducible refine List.mem_append_right _ ?_)))); (case iZq => walk_at "kk INF"); (case zZq => walk_at "kk LNF"); k_whole); intro t' tk') | ((with_reducible show wpAny _ _ (compareOp CmpOp.NotEq (Value.ref _) (Value.ref _)) _ _ _); k_dflt (refine' ne_NN ?NZq ?aZq ?bZq ?laZq ?lbZq ?iZq ?jZq ?uZq ?_; (case NZq => k_asm); (case aZq => (repeat (first | (with_reducible assumption) | (with_reducible exact List.mem_cons_self ..) | (with_reducible refine List.mem_cons_of_mem _ ?_) | (with_reducible refine List.mem_append_right _ ?_)))); (case bZq => (repeat (first | (with_reducible assumption) | (with_reducible exact List.mem_cons_self ..) | (with_reducible refine List.mem_cons_of_mem _ ?_) | (with_reducible refine List.mem_append_right _ ?_)))); (case laZq => first | with_reducible assumption | exact lstO_of _ _); (case lbZq => first | with_reducible assumption | exact lstO_of _ _); (case iZq => first | with_reducible exact ls_up (by with_reducible assumption) (fun p hp => by (repeat (first | (with_reducible assumption) | (with_reducible exact List.mem_cons_self ..) | (with_reducible refine List.mem_cons_of_mem _ ?_) | (with_reducible refine List.mem_append_right _ ?_))))); (case jZq => first | with_reducible exact ls_up (by with_reducible assumption) (fun p hp => by (repeat (first | (with_reducible assumption) | (with_reducible exact List.mem_cons_self ..) | (with_reducible refine List.mem_cons_of_mem _ ?_) | (with_reducible refine List.mem_append_right _ ?_))))); (case uZq => ke_room); k_whole)) | ((with_reducible show wpAny _ _ (compareOp CmpOp.Eq (Value.ref _) (Value.ref _)) _ _ _); k_dflt (refine' eq_NN ?NZq ?aZq ?bZq ?laZq ?lbZq ?iZq ?jZq ?uZq ?_; (case NZq => k_asm); (case aZq => (repeat (first | (with_reducible assumption) | (with_reducible exact List.mem_cons_self ..) | (with_reducible refine List.mem_cons_of_mem _ ?_) | (with_reducible refine List.mem_append_right _ ?_)))); (case bZq => (repeat (first | (with_reducible assumption) | (with_reducible exact List.mem_cons_self ..) | (with_reducible refine List.mem_cons_of_mem _ ?_) | (with_reducible refine List.mem_append_right _ ?_)))); (case laZq => first | with_reducible assumption | exact lstO_of _ _); (case lbZq => first | with_reducible assumption | exact lstO_of _ _); (case iZq => first | with_reducible exact ls_up (by with_reducible assumption) (fun p hp => by (repeat (first | (with_reducible assumption) | (with_reducible exact List.mem_cons_self ..) | (with_reducible refine List.mem_cons_of_mem _ ?_) | (with_reducible refine List.mem_append_right _ ?_))))); (case jZq => first | with_reducible exact ls_up (by with_reducible assumption) (fun p hp => by (repeat (first | (with_reducible assumption) | (with_reducible exact List.mem_cons_self ..) | (with_reducible refine List.mem_cons_of_mem _ ?_) | (with_reducible refine List.mem_append_right _ ?_))))); (case uZq => ke_room); k_whole)) | ((with_reducible show wpAny _ _ (compareOp CmpOp.Eq (Value.ref _) (Value.ref _)) _ _ _); k_dflt (refine' eq_I ?NZq ?aZq ?bZq ?laZq ?lbZq ?iZq ?jZq ?uZq ?_; (case NZq => k_asm); (case aZq => (repeat (first | (with_reducible assumption) | (with_reducible exact List.mem_cons_self ..) | (with_reducible refine List.mem_cons_of_mem _ ?_) | (with_reducible refine List.mem_append_right _ ?_)))); (case bZq => (repeat (first | (with_reducible assumption) | (with_reducible exact List.mem_cons_self ..) | (with_reducible refine List.mem_cons_of_mem _ ?_) | (with_reducible refine List.mem_append_right _ ?_)))); (case laZq => first | with_reducible assumption | exact lstO_of _ _); (case lbZq => first | with_reducible assumption | exact lstO_of _ _); (case iZq => first | with_reducible assumption | exact IntsAre.nil | exact IntsAre.cons _ _ IntsAre.nil | exact IntsAre.cons _ _ (IntsAre.cons _ _ IntsAre.nil)); (case jZq => first | with_reducible assumption | exact IntsAre.nil | exact IntsAre.cons _ _ IntsAre.nil | exact IntsAre.cons _ _ (IntsAre.cons _ _ IntsAre.nil)); (case uZq => ke_room); k_whole)) | ((with_reducible show wpAny _ _ (call (Value.ref 134) [Value.int _ _, Value.ref _]) _ _ _); k_dflt (refine' SpecW.use2 (by k_asm) (by k_asm) (by k_asm) (by k_asm) (by k_asm) (by first | exact rfl | assumption) (walk_ok _ _ _ _ _ _ _ ?p1Zq ?p2Zq ?p3Zq ?p4Zq ?p5Zq) (by ktr_room) (by ktr_units) ?_; (case p1Zq => (repeat (first | (with_reducible assumption) | (with_reducible exact List.mem_cons_self ..) | (with_reducible refine List.mem_cons_of_mem _ ?_) | (with_reducible refine List.mem_append_right _ ?_)))); (case p2Zq => first | with_reducible assumption | exact lstO_of _ _); (case p3Zq => first | exact ls_up (show LsAre [] [] _ from by with_reducible assumption) (fun p hp => nomatch hp) | exact ls_up (by with_reducible assumption) (fun p hp => by (repeat (first | (with_reducible assumption) | (with_reducible exact List.mem_cons_self ..) | (with_reducible refine List.mem_cons_of_mem _ ?_) | (with_reducible refine List.mem_append_right _ ?_))); done)); (case p4Zq => walk_at "kk LNF"); (case p5Zq => first | exact Nat.zero_le _ | (walk_at "kk LNF")); k_whole); intro led' v' h' tk' hR' F' N'; (obtain ⟨q', qo', qs', sub', hV', hL', hlo', hls'⟩ := hR'); subst hV' hL'; (try simp only [List.nil_append, List.cons_append] at F' N'); k_sweep) | ((with_reducible show wpAny _ _ (call (Value.ref 129) [Value.ref _]) _ _ _); k_dflt (refine' SpecW.use2 (by k_asm) (by k_asm) (by k_asm) (by k_asm) (by k_asm) (by first | exact rfl | assumption) (pieces_ok _ _ _ _ _ ?p1Zq ?p2Zq ?p3Zq) (by ktr_room) (by ktr_units) ?_; (case p1Zq => (repeat (first | (with_reducible assumption) | (with_reducible exact List.mem_cons_self ..) | (with_reducible refine List.mem_cons_of_mem _ ?_) | (with_reducible refine List.mem_append_right _ ?_)))); (case p2Zq => walk_at "kk INF"); (case p3Zq => walk_at "kk LNF"); k_whole); intro led' v' h' tk' hR' F' N'; (obtain ⟨q', ws', k', sub', hV', hL', hls'⟩ := hR'); subst hV' hL'; (try simp only [List.nil_append, List.cons_append] at F' N'); k_sweep) | ((with_reducible show wpAny _ _ (call (Value.ref 122) [Value.ref _]) _ _ _); k_dflt (refine' Spec.use2 (by k_asm) (by k_asm) (by k_asm) (by k_asm) (by k_asm) (by first | exact rfl | assumption) (slashes_ok _ _ _ _ _ ?p1Zq ?p2Zq ?p3Zq) (by ktr_room) (by ktr_units) ?_; (case p1Zq => (repeat (first | (with_reducible assumption) | (with_reducible exact List.mem_cons_self ..) | (with_reducible refine List.mem_cons_of_mem _ ?_) | (with_reducible refine List.mem_append_right _ ?_)))); (case p2Zq => walk_at "kk INF"); (case p3Zq => walk_at "kk LNF"); k_whole); intro led' v' h' tk' hR' hfr' F' N'; (obtain ⟨hL', t', hV'⟩ := hR'); subst hL' hV'; (try simp only [List.nil_append, List.cons_append] at F' N'); (try clear hfr'); k_sweep)); k_steps))
        refine Stop.un ?_
        have hT2 := q5_steps hT
        refine join_setN (Str.ofString "steps") (fun X led v => ∃ (q : Addr) (ws : List Value) (n : Nat) (sub : List (Addr × Obj)), v = .ref q ∧ led = (q, listOf ws.toArray n) :: sub ∧ LsAre (led ++ X) ws ((stepsOf codes).map IN)) (by assumption) (by assumption) ?_ ?_
        · (k_steps; repeat' ((with_reducible refine Stop.un ?_); (first | ((with_reducible show wpAny _ _ (call (Value.builtin "len") [Value.ref _]) _ _ _); k_dflt (refine' len_R ?NZq ?mZq ?iZq ?zZq ?_; (case NZq => k_asm); (case mZq => (repeat (first | (with_reducible assumption) | (with_reducible exact List.mem_cons_self ..) | (with_reducible refine List.mem_cons_of_mem _ ?_) | (with_reducible refine List.mem_append_right _ ?_)))); (case iZq => with_reducible assumption); (case zZq => walk_at "kk LNF"); k_whole); intro t' tk') | ((with_reducible show wpAny _ _ (binaryOp Operator.Add (Value.ref _) (Value.ref _)) _ _ _); k_dflt (refine' add_R ?FZq ?NZq ?aZq ?bZq ?laZq ?lbZq ?zZq ?_; (case FZq => k_asm); (case NZq => k_asm); (case aZq => (repeat (first | (with_reducible assumption) | (with_reducible exact List.mem_cons_self ..) | (with_reducible refine List.mem_cons_of_mem _ ?_) | (with_reducible refine List.mem_append_right _ ?_)))); (case bZq => (repeat (first | (with_reducible assumption) | (with_reducible exact List.mem_cons_self ..) | (with_reducible refine List.mem_cons_of_mem _ ?_) | (with_reducible refine List.mem_append_right _ ?_)))); (case laZq => first | with_reducible assumption | exact lstO_of _ _); (case lbZq => first | with_reducible assumption | exact lstO_of _ _); (case zZq => walk_at "kk LNF"); k_whole); intro D' h' F' N' l1; (try k_lt l1); (try k_sweep)) | ((with_reducible show wpAny _ _ (subscriptTail _ (PySem.Expr.Slice _ _ none _) (Value.ref _) (Value.ref _)) _ _ _); k_dflt (refine' from_R ?FZq ?NZq ?mZq ?iZq ?yZq ?zZq ?_ ?sZq ?tZq; (case FZq => k_asm); (case NZq => k_asm); (case mZq => (repeat (first | (with_reducible assumption) | (with_reducible exact List.mem_cons_self ..) | (with_reducible refine List.mem_cons_of_mem _ ?_) | (with_reducible refine List.mem_append_right _ ?_)))); (case iZq => first | with_reducible assumption | exact lstO_of _ _); (case yZq => walk_at "kk nat"); (case zZq => walk_at "kk LNF"); (case sZq => with_unfolding_all rfl); (case tZq => (intro _; with_unfolding_all rfl)); k_whole); intro D' h' F' N' l1; (try k_lt l1); (try k_sweep)) | ((with_reducible show wpAny _ _ (subscriptTail _ (PySem.Expr.Slice _ _ none _) (Value.ref _) (Value.ref _)) _ _ _); k_dflt (refine' upto_R ?FZq ?NZq ?mZq ?iZq ?yZq ?zZq ?_ ?sZq ?tZq; (case FZq => k_asm); (case NZq => k_asm); (case mZq => (repeat (first | (with_reducible assumption) | (with_reducible exact List.mem_cons_self ..) | (with_reducible refine List.mem_cons_of_mem _ ?_) | (with_reducible refine List.mem_append_right _ ?_)))); (case iZq => first | with_reducible assumption | exact lstO_of _ _); (case yZq => walk_at "kk nat"); (case zZq => walk_at "kk LNF"); (case sZq => with_unfolding_all rfl); (case tZq => (intro _; with_unfolding_all rfl)); k_whole); intro D' h' F' N' l1; (try k_lt l1); (try k_sweep)) | ((with_reducible show wpAny _ _ (subscriptTail _ (PySem.Expr.Slice _ _ none _) (Value.ref _) (Value.ref _)) _ _ _); k_dflt (refine' from_L ?FZq ?NZq ?mZq ?iZq ?yZq ?zZq ?_ ?sZq ?tZq; (case FZq => k_asm); (case NZq => k_asm); (case mZq => (repeat (first | (with_reducible assumption) | (with_reducible exact List.mem_cons_self ..) | (with_reducible refine List.mem_cons_of_mem _ ?_) | (with_reducible refine List.mem_append_right _ ?_)))); (case iZq => walk_at "kk INF"); (case yZq => walk_at "kk nat"); (case zZq => walk_at "kk LNF"); (case sZq => with_unfolding_all rfl); (case tZq => (intro _; with_unfolding_all rfl)); k_whole); intro D' ws' h' F' N' l1 hI'; (try k_lt l1); (try k_sweep)) | ((with_reducible show wpAny _ _ (call (Value.builtin "len") [Value.ref _]) _ _ _); k_dflt (refine' len_L ?NZq ?mZq ?iZq ?zZq ?_; (case NZq => k_asm); (case mZq => (repeat (first | (with_reducible assumption) | (with_reducible exact List.mem_cons_self ..) | (with_reducible refine List.mem_cons_of_mem _ ?_) | (with_reducible refine List.mem_append_right _ ?_)))); (case iZq => walk_at "kk INF"); (case zZq => walk_at "kk LNF"); k_whole); intro t' tk') | ((with_reducible show wpAny _ _ (compareOp CmpOp.NotEq (Value.ref _) (Value.ref _)) _ _ _); k_dflt (refine' ne_NN ?NZq ?aZq ?bZq ?laZq ?lbZq ?iZq ?jZq ?uZq ?_; (case NZq => k_asm); (case aZq => (repeat (first | (with_reducible assumption) | (with_reducible exact List.mem_cons_self ..) | (with_reducible refine List.mem_cons_of_mem _ ?_) | (with_reducible refine List.mem_append_right _ ?_)))); (case bZq => (repeat (first | (with_reducible assumption) | (with_reducible exact List.mem_cons_self ..) | (with_reducible refine List.mem_cons_of_mem _ ?_) | (with_reducible refine List.mem_append_right _ ?_)))); (case laZq => first | with_reducible assumption | exact lstO_of _ _); (case lbZq => first | with_reducible assumption | exact lstO_of _ _); (case iZq => first | with_reducible exact ls_up (by with_reducible assumption) (fun p hp => by (repeat (first | (with_reducible assumption) | (with_reducible exact List.mem_cons_self ..) | (with_reducible refine List.mem_cons_of_mem _ ?_) | (with_reducible refine List.mem_append_right _ ?_))))); (case jZq => first | with_reducible exact ls_up (by with_reducible assumption) (fun p hp => by (repeat (first | (with_reducible assumption) | (with_reducible exact List.mem_cons_self ..) | (with_reducible refine List.mem_cons_of_mem _ ?_) | (with_reducible refine List.mem_append_right _ ?_))))); (case uZq => ke_room); k_whole)) | ((with_reducible show wpAny _ _ (compareOp CmpOp.Eq (Value.ref _) (Value.ref _)) _ _ _); k_dflt (refine' eq_NN ?NZq ?aZq ?bZq ?laZq ?lbZq ?iZq ?jZq ?uZq ?_; (case NZq => k_asm); (case aZq => (repeat (first | (with_reducible assumption) | (with_reducible exact List.mem_cons_self ..) | (with_reducible refine List.mem_cons_of_mem _ ?_) | (with_reducible refine List.mem_append_right _ ?_)))); (case bZq => (repeat (first | (with_reducible assumption) | (with_reducible exact List.mem_cons_self ..) | (with_reducible refine List.mem_cons_of_mem _ ?_) | (with_reducible refine List.mem_append_right _ ?_)))); (case laZq => first | with_reducible assumption | exact lstO_of _ _); (case lbZq => first | with_reducible assumption | exact lstO_of _ _); (case iZq => first | with_reducible exact ls_up (by with_reducible assumption) (fun p hp => by (repeat (first | (with_reducible assumption) | (with_reducible exact List.mem_cons_self ..) | (with_reducible refine List.mem_cons_of_mem _ ?_) | (with_reducible refine List.mem_append_right _ ?_))))); (case jZq => first | with_reducible exact ls_up (by with_reducible assumption) (fun p hp => by (repeat (first | (with_reducible assumption) | (with_reducible exact List.mem_cons_self ..) | (with_reducible refine List.mem_cons_of_mem _ ?_) | (with_reducible refine List.mem_append_right _ ?_))))); (case uZq => ke_room); k_whole)) | ((with_reducible show wpAny _ _ (compareOp CmpOp.Eq (Value.ref _) (Value.ref _)) _ _ _); k_dflt (refine' eq_I ?NZq ?aZq ?bZq ?laZq ?lbZq ?iZq ?jZq ?uZq ?_; (case NZq => k_asm); (case aZq => (repeat (first | (with_reducible assumption) | (with_reducible exact List.mem_cons_self ..) | (with_reducible refine List.mem_cons_of_mem _ ?_) | (with_reducible refine List.mem_append_right _ ?_)))); (case bZq => (repeat (first | (with_reducible assumption) | (with_reducible exact List.mem_cons_self ..) | (with_reducible refine List.mem_cons_of_mem _ ?_) | (with_reducible refine List.mem_append_right _ ?_)))); (case laZq => first | with_reducible assumption | exact lstO_of _ _); (case lbZq => first | with_reducible assumption | exact lstO_of _ _); (case iZq => first | with_reducible assumption | exact IntsAre.nil | exact IntsAre.cons _ _ IntsAre.nil | exact IntsAre.cons _ _ (IntsAre.cons _ _ IntsAre.nil)); (case jZq => first | with_reducible assumption | exact IntsAre.nil | exact IntsAre.cons _ _ IntsAre.nil | exact IntsAre.cons _ _ (IntsAre.cons _ _ IntsAre.nil)); (case uZq => ke_room); k_whole)) | ((with_reducible show wpAny _ _ (call (Value.ref 134) [Value.int _ _, Value.ref _]) _ _ _); k_dflt (refine' SpecW.use2 (by k_asm) (by k_asm) (by k_asm) (by k_asm) (by k_asm) (by first | exact rfl | assumption) (walk_ok _ _ _ _ _ _ _ ?p1Zq ?p2Zq ?p3Zq ?p4Zq ?p5Zq) (by ktr_room) (by ktr_units) ?_; (case p1Zq => (repeat (first | (with_reducible assumption) | (with_reducible exact List.mem_cons_self ..) | (with_reducible refine List.mem_cons_of_mem _ ?_) | (with_reducible refine List.mem_append_right _ ?_)))); (case p2Zq => first | with_reducible assumption | exact lstO_of _ _); (case p3Zq => first | exact ls_up (show LsAre [] [] _ from by with_reducible assumption) (fun p hp => nomatch hp) | exact ls_up (by with_reducible assumption) (fun p hp => by (repeat (first | (with_reducible assumption) | (with_reducible exact List.mem_cons_self ..) | (with_reducible refine List.mem_cons_of_mem _ ?_) | (with_reducible refine List.mem_append_right _ ?_))); done)); (case p4Zq => walk_at "kk LNF"); (case p5Zq => first | exact Nat.zero_le _ | (walk_at "kk LNF")); k_whole); intro led' v' h' tk' hR' F' N'; (obtain ⟨q', qo', qs', sub', hV', hL', hlo', hls'⟩ := hR'); subst hV' hL'; (try simp only [List.nil_append, List.cons_append] at F' N'); k_sweep) | ((with_reducible show wpAny _ _ (call (Value.ref 129) [Value.ref _]) _ _ _); k_dflt (refine' SpecW.use2 (by k_asm) (by k_asm) (by k_asm) (by k_asm) (by k_asm) (by first | exact rfl | assumption) (pieces_ok _ _ _ _ _ ?p1Zq ?p2Zq ?p3Zq) (by ktr_room) (by ktr_units) ?_; (case p1Zq => (repeat (first | (with_reducible assumption) | (with_reducible exact List.mem_cons_self ..) | (with_reducible refine List.mem_cons_of_mem _ ?_) | (with_reducible refine List.mem_append_right _ ?_)))); (case p2Zq => walk_at "kk INF"); (case p3Zq => walk_at "kk LNF"); k_whole); intro led' v' h' tk' hR' F' N'; (obtain ⟨q', ws', k', sub', hV', hL', hls'⟩ := hR'); subst hV' hL'; (try simp only [List.nil_append, List.cons_append] at F' N'); k_sweep) | ((with_reducible show wpAny _ _ (call (Value.ref 122) [Value.ref _]) _ _ _); k_dflt (refine' Spec.use2 (by k_asm) (by k_asm) (by k_asm) (by k_asm) (by k_asm) (by first | exact rfl | assumption) (slashes_ok _ _ _ _ _ ?p1Zq ?p2Zq ?p3Zq) (by ktr_room) (by ktr_units) ?_; (case p1Zq => (repeat (first | (with_reducible assumption) | (with_reducible exact List.mem_cons_self ..) | (with_reducible refine List.mem_cons_of_mem _ ?_) | (with_reducible refine List.mem_append_right _ ?_)))); (case p2Zq => walk_at "kk INF"); (case p3Zq => walk_at "kk LNF"); k_whole); intro led' v' h' tk' hR' hfr' F' N'; (obtain ⟨hL', t', hV'⟩ := hR'); subst hL' hV'; (try simp only [List.nil_append, List.cons_append] at F' N'); (try clear hfr'); k_sweep)); k_steps))
          · exact ⟨rfl, _, _, _, _, rfl, by assumption, news_snoc (by assumption), _, _, _, _, rfl, rfl, ls_snoc (by assumption) (steps_a (by assumption))⟩
          · exact ⟨rfl, _, _, _, [_], rfl, by assumption, by assumption, _, [], _, _, rfl, rfl, ls_none (steps_b (by assumption))⟩
        · rintro led v h' tk' ⟨q, ws, n, sub, rfl, rfl, hsp⟩ F' N'
          have hst := steps_len codes
          rw [hT2] at hsp hst
          simp only [List.cons_append] at hsp N'
          (k_steps; repeat' ((with_reducible refine Stop.un ?_); (first | ((with_reducible show wpAny _ _ (call (Value.builtin "len") [Value.ref _]) _ _ _); k_dflt (refine' len_R ?NZq ?mZq ?iZq ?zZq ?_; (case NZq => k_asm); (case mZq => (repeat (first | (with_reducible assumption) | (with_reducible exact List.mem_cons_self ..) | (with_reducible refine List.mem_cons_of_mem _ ?_) | (with_reducible refine List.mem_append_right _ ?_)))); (case iZq => with_reducible assumption); (case zZq => walk_at "kk LNF"); k_whole); intro t' tk') | ((with_reducible show wpAny _ _ (binaryOp Operator.Add (Value.ref _) (Value.ref _)) _ _ _); k_dflt (refine' add_R ?FZq ?NZq ?aZq ?bZq ?laZq ?lbZq ?zZq ?_; (case FZq => k_asm); (case NZq => k_asm); (case aZq => (repeat (first | (with_reducible assumption) | (with_reducible exact List.mem_cons_self ..) | (with_reducible refine List.mem_cons_of_mem _ ?_) | (with_reducible refine List.mem_append_right _ ?_)))); (case bZq => (repeat (first | (with_reducible assumption) | (with_reducible exact List.mem_cons_self ..) | (with_reducible refine List.mem_cons_of_mem _ ?_) | (with_reducible refine List.mem_append_right _ ?_)))); (case laZq => first | with_reducible assumption | exact lstO_of _ _); (case lbZq => first | with_reducible assumption | exact lstO_of _ _); (case zZq => walk_at "kk LNF"); k_whole); intro D' h' F' N' l1; (try k_lt l1); (try k_sweep)) | ((with_reducible show wpAny _ _ (subscriptTail _ (PySem.Expr.Slice _ _ none _) (Value.ref _) (Value.ref _)) _ _ _); k_dflt (refine' from_R ?FZq ?NZq ?mZq ?iZq ?yZq ?zZq ?_ ?sZq ?tZq; (case FZq => k_asm); (case NZq => k_asm); (case mZq => (repeat (first | (with_reducible assumption) | (with_reducible exact List.mem_cons_self ..) | (with_reducible refine List.mem_cons_of_mem _ ?_) | (with_reducible refine List.mem_append_right _ ?_)))); (case iZq => first | with_reducible assumption | exact lstO_of _ _); (case yZq => walk_at "kk nat"); (case zZq => walk_at "kk LNF"); (case sZq => with_unfolding_all rfl); (case tZq => (intro _; with_unfolding_all rfl)); k_whole); intro D' h' F' N' l1; (try k_lt l1); (try k_sweep)) | ((with_reducible show wpAny _ _ (subscriptTail _ (PySem.Expr.Slice _ _ none _) (Value.ref _) (Value.ref _)) _ _ _); k_dflt (refine' upto_R ?FZq ?NZq ?mZq ?iZq ?yZq ?zZq ?_ ?sZq ?tZq; (case FZq => k_asm); (case NZq => k_asm); (case mZq => (repeat (first | (with_reducible assumption) | (with_reducible exact List.mem_cons_self ..) | (with_reducible refine List.mem_cons_of_mem _ ?_) | (with_reducible refine List.mem_append_right _ ?_)))); (case iZq => first | with_reducible assumption | exact lstO_of _ _); (case yZq => walk_at "kk nat"); (case zZq => walk_at "kk LNF"); (case sZq => with_unfolding_all rfl); (case tZq => (intro _; with_unfolding_all rfl)); k_whole); intro D' h' F' N' l1; (try k_lt l1); (try k_sweep)) | ((with_reducible show wpAny _ _ (subscriptTail _ (PySem.Expr.Slice _ _ none _) (Value.ref _) (Value.ref _)) _ _ _); k_dflt (refine' from_L ?FZq ?NZq ?mZq ?iZq ?yZq ?zZq ?_ ?sZq ?tZq; (case FZq => k_asm); (case NZq => k_asm); (case mZq => (repeat (first | (with_reducible assumption) | (with_reducible exact List.mem_cons_self ..) | (with_reducible refine List.mem_cons_of_mem _ ?_) | (with_reducible refine List.mem_append_right _ ?_)))); (case iZq => walk_at "kk INF"); (case yZq => walk_at "kk nat"); (case zZq => walk_at "kk LNF"); (case sZq => with_unfolding_all rfl); (case tZq => (intro _; with_unfolding_all rfl)); k_whole); intro D' ws' h' F' N' l1 hI'; (try k_lt l1); (try k_sweep)) | ((with_reducible show wpAny _ _ (call (Value.builtin "len") [Value.ref _]) _ _ _); k_dflt (refine' len_L ?NZq ?mZq ?iZq ?zZq ?_; (case NZq => k_asm); (case mZq => (repeat (first | (with_reducible assumption) | (with_reducible exact List.mem_cons_self ..) | (with_reducible refine List.mem_cons_of_mem _ ?_) | (with_reducible refine List.mem_append_right _ ?_)))); (case iZq => walk_at "kk INF"); (case zZq => walk_at "kk LNF"); k_whole); intro t' tk') | ((with_reducible show wpAny _ _ (compareOp CmpOp.NotEq (Value.ref _) (Value.ref _)) _ _ _); k_dflt (refine' ne_NN ?NZq ?aZq ?bZq ?laZq ?lbZq ?iZq ?jZq ?uZq ?_; (case NZq => k_asm); (case aZq => (repeat (first | (with_reducible assumption) | (with_reducible exact List.mem_cons_self ..) | (with_reducible refine List.mem_cons_of_mem _ ?_) | (with_reducible refine List.mem_append_right _ ?_)))); (case bZq => (repeat (first | (with_reducible assumption) | (with_reducible exact List.mem_cons_self ..) | (with_reducible refine List.mem_cons_of_mem _ ?_) | (with_reducible refine List.mem_append_right _ ?_)))); (case laZq => first | with_reducible assumption | exact lstO_of _ _); (case lbZq => first | with_reducible assumption | exact lstO_of _ _); (case iZq => first | with_reducible exact ls_up (by with_reducible assumption) (fun p hp => by (repeat (first | (with_reducible assumption) | (with_reducible exact List.mem_cons_self ..) | (with_reducible refine List.mem_cons_of_mem _ ?_) | (with_reducible refine List.mem_append_right _ ?_))))); (case jZq => first | with_reducible exact ls_up (by with_reducible assumption) (fun p hp => by (repeat (first | (with_reducible assumption) | (with_reducible exact List.mem_cons_self ..) | (with_reducible refine List.mem_cons_of_mem _ ?_) | (with_reducible refine List.mem_append_right _ ?_))))); (case uZq => ke_room); k_whole)) | ((with_reducible show wpAny _ _ (compareOp CmpOp.Eq (Value.ref _) (Value.ref _)) _ _ _); k_dflt (refine' eq_NN ?NZq ?aZq ?bZq ?laZq ?lbZq ?iZq ?jZq ?uZq ?_; (case NZq => k_asm); (case aZq => (repeat (first | (with_reducible assumption) | (with_reducible exact List.mem_cons_self ..) | (with_reducible refine List.mem_cons_of_mem _ ?_) | (with_reducible refine List.mem_append_right _ ?_)))); (case bZq => (repeat (first | (with_reducible assumption) | (with_reducible exact List.mem_cons_self ..) | (with_reducible refine List.mem_cons_of_mem _ ?_) | (with_reducible refine List.mem_append_right _ ?_)))); (case laZq => first | with_reducible assumption | exact lstO_of _ _); (case lbZq => first | with_reducible assumption | exact lstO_of _ _); (case iZq => first | with_reducible exact ls_up (by with_reducible assumption) (fun p hp => by (repeat (first | (with_reducible assumption) | (with_reducible exact List.mem_cons_self ..) | (with_reducible refine List.mem_cons_of_mem _ ?_) | (with_reducible refine List.mem_append_right _ ?_))))); (case jZq => first | with_reducible exact ls_up (by with_reducible assumption) (fun p hp => by (repeat (first | (with_reducible assumption) | (with_reducible exact List.mem_cons_self ..) | (with_reducible refine List.mem_cons_of_mem _ ?_) | (with_reducible refine List.mem_append_right _ ?_))))); (case uZq => ke_room); k_whole)) | ((with_reducible show wpAny _ _ (compareOp CmpOp.Eq (Value.ref _) (Value.ref _)) _ _ _); k_dflt (refine' eq_I ?NZq ?aZq ?bZq ?laZq ?lbZq ?iZq ?jZq ?uZq ?_; (case NZq => k_asm); (case aZq => (repeat (first | (with_reducible assumption) | (with_reducible exact List.mem_cons_self ..) | (with_reducible refine List.mem_cons_of_mem _ ?_) | (with_reducible refine List.mem_append_right _ ?_)))); (case bZq => (repeat (first | (with_reducible assumption) | (with_reducible exact List.mem_cons_self ..) | (with_reducible refine List.mem_cons_of_mem _ ?_) | (with_reducible refine List.mem_append_right _ ?_)))); (case laZq => first | with_reducible assumption | exact lstO_of _ _); (case lbZq => first | with_reducible assumption | exact lstO_of _ _); (case iZq => first | with_reducible assumption | exact IntsAre.nil | exact IntsAre.cons _ _ IntsAre.nil | exact IntsAre.cons _ _ (IntsAre.cons _ _ IntsAre.nil)); (case jZq => first | with_reducible assumption | exact IntsAre.nil | exact IntsAre.cons _ _ IntsAre.nil | exact IntsAre.cons _ _ (IntsAre.cons _ _ IntsAre.nil)); (case uZq => ke_room); k_whole)) | ((with_reducible show wpAny _ _ (call (Value.ref 134) [Value.int _ _, Value.ref _]) _ _ _); k_dflt (refine' SpecW.use2 (by k_asm) (by k_asm) (by k_asm) (by k_asm) (by k_asm) (by first | exact rfl | assumption) (walk_ok _ _ _ _ _ _ _ ?p1Zq ?p2Zq ?p3Zq ?p4Zq ?p5Zq) (by ktr_room) (by ktr_units) ?_; (case p1Zq => (repeat (first | (with_reducible assumption) | (with_reducible exact List.mem_cons_self ..) | (with_reducible refine List.mem_cons_of_mem _ ?_) | (with_reducible refine List.mem_append_right _ ?_)))); (case p2Zq => first | with_reducible assumption | exact lstO_of _ _); (case p3Zq => first | exact ls_up (show LsAre [] [] _ from by with_reducible assumption) (fun p hp => nomatch hp) | exact ls_up (by with_reducible assumption) (fun p hp => by (repeat (first | (with_reducible assumption) | (with_reducible exact List.mem_cons_self ..) | (with_reducible refine List.mem_cons_of_mem _ ?_) | (with_reducible refine List.mem_append_right _ ?_))); done)); (case p4Zq => walk_at "kk LNF"); (case p5Zq => first | exact Nat.zero_le _ | (walk_at "kk LNF")); k_whole); intro led' v' h' tk' hR' F' N'; (obtain ⟨q', qo', qs', sub', hV', hL', hlo', hls'⟩ := hR'); subst hV' hL'; (try simp only [List.nil_append, List.cons_append] at F' N'); k_sweep) | ((with_reducible show wpAny _ _ (call (Value.ref 129) [Value.ref _]) _ _ _); k_dflt (refine' SpecW.use2 (by k_asm) (by k_asm) (by k_asm) (by k_asm) (by k_asm) (by first | exact rfl | assumption) (pieces_ok _ _ _ _ _ ?p1Zq ?p2Zq ?p3Zq) (by ktr_room) (by ktr_units) ?_; (case p1Zq => (repeat (first | (with_reducible assumption) | (with_reducible exact List.mem_cons_self ..) | (with_reducible refine List.mem_cons_of_mem _ ?_) | (with_reducible refine List.mem_append_right _ ?_)))); (case p2Zq => walk_at "kk INF"); (case p3Zq => walk_at "kk LNF"); k_whole); intro led' v' h' tk' hR' F' N'; (obtain ⟨q', ws', k', sub', hV', hL', hls'⟩ := hR'); subst hV' hL'; (try simp only [List.nil_append, List.cons_append] at F' N'); k_sweep) | ((with_reducible show wpAny _ _ (call (Value.ref 122) [Value.ref _]) _ _ _); k_dflt (refine' Spec.use2 (by k_asm) (by k_asm) (by k_asm) (by k_asm) (by k_asm) (by first | exact rfl | assumption) (slashes_ok _ _ _ _ _ ?p1Zq ?p2Zq ?p3Zq) (by ktr_room) (by ktr_units) ?_; (case p1Zq => (repeat (first | (with_reducible assumption) | (with_reducible exact List.mem_cons_self ..) | (with_reducible refine List.mem_cons_of_mem _ ?_) | (with_reducible refine List.mem_append_right _ ?_)))); (case p2Zq => walk_at "kk INF"); (case p3Zq => walk_at "kk LNF"); k_whole); intro led' v' h' tk' hR' hfr' F' N'; (obtain ⟨hL', t', hV'⟩ := hR'); subst hL' hV'; (try simp only [List.nil_append, List.cons_append] at F' N'); (try clear hfr'); k_sweep)); k_steps))
          refine Stop.un ?_
          refine For_invVF (by assumption) rfl rfl ?_
          (k_steps; repeat' ((with_reducible refine Stop.un ?_); (first | ((with_reducible show wpAny _ _ (call (Value.builtin "len") [Value.ref _]) _ _ _); k_dflt (refine' len_R ?NZq ?mZq ?iZq ?zZq ?_; (case NZq => k_asm); (case mZq => (repeat (first | (with_reducible assumption) | (with_reducible exact List.mem_cons_self ..) | (with_reducible refine List.mem_cons_of_mem _ ?_) | (with_reducible refine List.mem_append_right _ ?_)))); (case iZq => with_reducible assumption); (case zZq => walk_at "kk LNF"); k_whole); intro t' tk') | ((with_reducible show wpAny _ _ (binaryOp Operator.Add (Value.ref _) (Value.ref _)) _ _ _); k_dflt (refine' add_R ?FZq ?NZq ?aZq ?bZq ?laZq ?lbZq ?zZq ?_; (case FZq => k_asm); (case NZq => k_asm); (case aZq => (repeat (first | (with_reducible assumption) | (with_reducible exact List.mem_cons_self ..) | (with_reducible refine List.mem_cons_of_mem _ ?_) | (with_reducible refine List.mem_append_right _ ?_)))); (case bZq => (repeat (first | (with_reducible assumption) | (with_reducible exact List.mem_cons_self ..) | (with_reducible refine List.mem_cons_of_mem _ ?_) | (with_reducible refine List.mem_append_right _ ?_)))); (case laZq => first | with_reducible assumption | exact lstO_of _ _); (case lbZq => first | with_reducible assumption | exact lstO_of _ _); (case zZq => walk_at "kk LNF"); k_whole); intro D' h' F' N' l1; (try k_lt l1); (try k_sweep)) | ((with_reducible show wpAny _ _ (subscriptTail _ (PySem.Expr.Slice _ _ none _) (Value.ref _) (Value.ref _)) _ _ _); k_dflt (refine' from_R ?FZq ?NZq ?mZq ?iZq ?yZq ?zZq ?_ ?sZq ?tZq; (case FZq => k_asm); (case NZq => k_asm); (case mZq => (repeat (first | (with_reducible assumption) | (with_reducible exact List.mem_cons_self ..) | (with_reducible refine List.mem_cons_of_mem _ ?_) | (with_reducible refine List.mem_append_right _ ?_)))); (case iZq => first | with_reducible assumption | exact lstO_of _ _); (case yZq => walk_at "kk nat"); (case zZq => walk_at "kk LNF"); (case sZq => with_unfolding_all rfl); (case tZq => (intro _; with_unfolding_all rfl)); k_whole); intro D' h' F' N' l1; (try k_lt l1); (try k_sweep)) | ((with_reducible show wpAny _ _ (subscriptTail _ (PySem.Expr.Slice _ _ none _) (Value.ref _) (Value.ref _)) _ _ _); k_dflt (refine' upto_R ?FZq ?NZq ?mZq ?iZq ?yZq ?zZq ?_ ?sZq ?tZq; (case FZq => k_asm); (case NZq => k_asm); (case mZq => (repeat (first | (with_reducible assumption) | (with_reducible exact List.mem_cons_self ..) | (with_reducible refine List.mem_cons_of_mem _ ?_) | (with_reducible refine List.mem_append_right _ ?_)))); (case iZq => first | with_reducible assumption | exact lstO_of _ _); (case yZq => walk_at "kk nat"); (case zZq => walk_at "kk LNF"); (case sZq => with_unfolding_all rfl); (case tZq => (intro _; with_unfolding_all rfl)); k_whole); intro D' h' F' N' l1; (try k_lt l1); (try k_sweep)) | ((with_reducible show wpAny _ _ (subscriptTail _ (PySem.Expr.Slice _ _ none _) (Value.ref _) (Value.ref _)) _ _ _); k_dflt (refine' from_L ?FZq ?NZq ?mZq ?iZq ?yZq ?zZq ?_ ?sZq ?tZq; (case FZq => k_asm); (case NZq => k_asm); (case mZq => (repeat (first | (with_reducible assumption) | (with_reducible exact List.mem_cons_self ..) | (with_reducible refine List.mem_cons_of_mem _ ?_) | (with_reducible refine List.mem_append_right _ ?_)))); (case iZq => walk_at "kk INF"); (case yZq => walk_at "kk nat"); (case zZq => walk_at "kk LNF"); (case sZq => with_unfolding_all rfl); (case tZq => (intro _; with_unfolding_all rfl)); k_whole); intro D' ws' h' F' N' l1 hI'; (try k_lt l1); (try k_sweep)) | ((with_reducible show wpAny _ _ (call (Value.builtin "len") [Value.ref _]) _ _ _); k_dflt (refine' len_L ?NZq ?mZq ?iZq ?zZq ?_; (case NZq => k_asm); (case mZq => (repeat (first | (with_reducible assumption) | (with_reducible exact List.mem_cons_self ..) | (with_reducible refine List.mem_cons_of_mem _ ?_) | (with_reducible refine List.mem_append_right _ ?_)))); (case iZq => walk_at "kk INF"); (case zZq => walk_at "kk LNF"); k_whole); intro t' tk') | ((with_reducible show wpAny _ _ (compareOp CmpOp.NotEq (Value.ref _) (Value.ref _)) _ _ _); k_dflt (refine' ne_NN ?NZq ?aZq ?bZq ?laZq ?lbZq ?iZq ?jZq ?uZq ?_; (case NZq => k_asm); (case aZq => (repeat (first | (with_reducible assumption) | (with_reducible exact List.mem_cons_self ..) | (with_reducible refine List.mem_cons_of_mem _ ?_) | (with_reducible refine List.mem_append_right _ ?_)))); (case bZq => (repeat (first | (with_reducible assumption) | (with_reducible exact List.mem_cons_self ..) | (with_reducible refine List.mem_cons_of_mem _ ?_) | (with_reducible refine List.mem_append_right _ ?_)))); (case laZq => first | with_reducible assumption | exact lstO_of _ _); (case lbZq => first | with_reducible assumption | exact lstO_of _ _); (case iZq => first | with_reducible exact ls_up (by with_reducible assumption) (fun p hp => by (repeat (first | (with_reducible assumption) | (with_reducible exact List.mem_cons_self ..) | (with_reducible refine List.mem_cons_of_mem _ ?_) | (with_reducible refine List.mem_append_right _ ?_))))); (case jZq => first | with_reducible exact ls_up (by with_reducible assumption) (fun p hp => by (repeat (first | (with_reducible assumption) | (with_reducible exact List.mem_cons_self ..) | (with_reducible refine List.mem_cons_of_mem _ ?_) | (with_reducible refine List.mem_append_right _ ?_))))); (case uZq => ke_room); k_whole)) | ((with_reducible show wpAny _ _ (compareOp CmpOp.Eq (Value.ref _) (Value.ref _)) _ _ _); k_dflt (refine' eq_NN ?NZq ?aZq ?bZq ?laZq ?lbZq ?iZq ?jZq ?uZq ?_; (case NZq => k_asm); (case aZq => (repeat (first | (with_reducible assumption) | (with_reducible exact List.mem_cons_self ..) | (with_reducible refine List.mem_cons_of_mem _ ?_) | (with_reducible refine List.mem_append_right _ ?_)))); (case bZq => (repeat (first | (with_reducible assumption) | (with_reducible exact List.mem_cons_self ..) | (with_reducible refine List.mem_cons_of_mem _ ?_) | (with_reducible refine List.mem_append_right _ ?_)))); (case laZq => first | with_reducible assumption | exact lstO_of _ _); (case lbZq => first | with_reducible assumption | exact lstO_of _ _); (case iZq => first | with_reducible exact ls_up (by with_reducible assumption) (fun p hp => by (repeat (first | (with_reducible assumption) | (with_reducible exact List.mem_cons_self ..) | (with_reducible refine List.mem_cons_of_mem _ ?_) | (with_reducible refine List.mem_append_right _ ?_))))); (case jZq => first | with_reducible exact ls_up (by with_reducible assumption) (fun p hp => by (repeat (first | (with_reducible assumption) | (with_reducible exact List.mem_cons_self ..) | (with_reducible refine List.mem_cons_of_mem _ ?_) | (with_reducible refine List.mem_append_right _ ?_))))); (case uZq => ke_room); k_whole)) | ((with_reducible show wpAny _ _ (compareOp CmpOp.Eq (Value.ref _) (Value.ref _)) _ _ _); k_dflt (refine' eq_I ?NZq ?aZq ?bZq ?laZq ?lbZq ?iZq ?jZq ?uZq ?_; (case NZq => k_asm); (case aZq => (repeat (first | (with_reducible assumption) | (with_reducible exact List.mem_cons_self ..) | (with_reducible refine List.mem_cons_of_mem _ ?_) | (with_reducible refine List.mem_append_right _ ?_)))); (case bZq => (repeat (first | (with_reducible assumption) | (with_reducible exact List.mem_cons_self ..) | (with_reducible refine List.mem_cons_of_mem _ ?_) | (with_reducible refine List.mem_append_right _ ?_)))); (case laZq => first | with_reducible assumption | exact lstO_of _ _); (case lbZq => first | with_reducible assumption | exact lstO_of _ _); (case iZq => first | with_reducible assumption | exact IntsAre.nil | exact IntsAre.cons _ _ IntsAre.nil | exact IntsAre.cons _ _ (IntsAre.cons _ _ IntsAre.nil)); (case jZq => first | with_reducible assumption | exact IntsAre.nil | exact IntsAre.cons _ _ IntsAre.nil | exact IntsAre.cons _ _ (IntsAre.cons _ _ IntsAre.nil)); (case uZq => ke_room); k_whole)) | ((with_reducible show wpAny _ _ (call (Value.ref 134) [Value.int _ _, Value.ref _]) _ _ _); k_dflt (refine' SpecW.use2 (by k_asm) (by k_asm) (by k_asm) (by k_asm) (by k_asm) (by first | exact rfl | assumption) (walk_ok _ _ _ _ _ _ _ ?p1Zq ?p2Zq ?p3Zq ?p4Zq ?p5Zq) (by ktr_room) (by ktr_units) ?_; (case p1Zq => (repeat (first | (with_reducible assumption) | (with_reducible exact List.mem_cons_self ..) | (with_reducible refine List.mem_cons_of_mem _ ?_) | (with_reducible refine List.mem_append_right _ ?_)))); (case p2Zq => first | with_reducible assumption | exact lstO_of _ _); (case p3Zq => first | exact ls_up (show LsAre [] [] _ from by with_reducible assumption) (fun p hp => nomatch hp) | exact ls_up (by with_reducible assumption) (fun p hp => by (repeat (first | (with_reducible assumption) | (with_reducible exact List.mem_cons_self ..) | (with_reducible refine List.mem_cons_of_mem _ ?_) | (with_reducible refine List.mem_append_right _ ?_))); done)); (case p4Zq => walk_at "kk LNF"); (case p5Zq => first | exact Nat.zero_le _ | (walk_at "kk LNF")); k_whole); intro led' v' h' tk' hR' F' N'; (obtain ⟨q', qo', qs', sub', hV', hL', hlo', hls'⟩ := hR'); subst hV' hL'; (try simp only [List.nil_append, List.cons_append] at F' N'); k_sweep) | ((with_reducible show wpAny _ _ (call (Value.ref 129) [Value.ref _]) _ _ _); k_dflt (refine' SpecW.use2 (by k_asm) (by k_asm) (by k_asm) (by k_asm) (by k_asm) (by first | exact rfl | assumption) (pieces_ok _ _ _ _ _ ?p1Zq ?p2Zq ?p3Zq) (by ktr_room) (by ktr_units) ?_; (case p1Zq => (repeat (first | (with_reducible assumption) | (with_reducible exact List.mem_cons_self ..) | (with_reducible refine List.mem_cons_of_mem _ ?_) | (with_reducible refine List.mem_append_right _ ?_)))); (case p2Zq => walk_at "kk INF"); (case p3Zq => walk_at "kk LNF"); k_whole); intro led' v' h' tk' hR' F' N'; (obtain ⟨q', ws', k', sub', hV', hL', hls'⟩ := hR'); subst hV' hL'; (try simp only [List.nil_append, List.cons_append] at F' N'); k_sweep) | ((with_reducible show wpAny _ _ (call (Value.ref 122) [Value.ref _]) _ _ _); k_dflt (refine' Spec.use2 (by k_asm) (by k_asm) (by k_asm) (by k_asm) (by k_asm) (by first | exact rfl | assumption) (slashes_ok _ _ _ _ _ ?p1Zq ?p2Zq ?p3Zq) (by ktr_room) (by ktr_units) ?_; (case p1Zq => (repeat (first | (with_reducible assumption) | (with_reducible exact List.mem_cons_self ..) | (with_reducible refine List.mem_cons_of_mem _ ?_) | (with_reducible refine List.mem_append_right _ ?_)))); (case p2Zq => walk_at "kk INF"); (case p3Zq => walk_at "kk LNF"); k_whole); intro led' v' h' tk' hR' hfr' F' N'; (obtain ⟨hL', t', hV'⟩ := hR'); subst hL' hV'; (try simp only [List.nil_append, List.cons_append] at F' N'); (try clear hfr'); k_sweep)); k_steps))
          refine Stop.un ?_
          refine' for_rangeC (depL codes + 1) [] rfl (by assumption) (by assumption) (by assumption) (by omega) (by omega) ?turn ?done
          case turn =>
            rintro i k t9 u9 h9 tk9 I oI hi' hk' hne F' N'
            dsimp only at *
            rw [Int.zero_add] at hk'
            subst hk'
            (k_steps; repeat' ((with_reducible refine Stop.un ?_); (first | ((with_reducible show wpAny _ _ (call (Value.builtin "len") [Value.ref _]) _ _ _); k_dflt (refine' len_R ?NZq ?mZq ?iZq ?zZq ?_; (case NZq => k_asm); (case mZq => (repeat (first | (with_reducible assumption) | (with_reducible exact List.mem_cons_self ..) | (with_reducible refine List.mem_cons_of_mem _ ?_) | (with_reducible refine List.mem_append_right _ ?_)))); (case iZq => with_reducible assumption); (case zZq => walk_at "kk LNF"); k_whole); intro t' tk') | ((with_reducible show wpAny _ _ (binaryOp Operator.Add (Value.ref _) (Value.ref _)) _ _ _); k_dflt (refine' add_R ?FZq ?NZq ?aZq ?bZq ?laZq ?lbZq ?zZq ?_; (case FZq => k_asm); (case NZq => k_asm); (case aZq => (repeat (first | (with_reducible assumption) | (with_reducible exact List.mem_cons_self ..) | (with_reducible refine List.mem_cons_of_mem _ ?_) | (with_reducible refine List.mem_append_right _ ?_)))); (case bZq => (repeat (first | (with_reducible assumption) | (with_reducible exact List.mem_cons_self ..) | (with_reducible refine List.mem_cons_of_mem _ ?_) | (with_reducible refine List.mem_append_right _ ?_)))); (case laZq => first | with_reducible assumption | exact lstO_of _ _); (case lbZq => first | with_reducible assumption | exact lstO_of _ _); (case zZq => walk_at "kk LNF"); k_whole); intro D' h' F' N' l1; (try k_lt l1); (try k_sweep)) | ((with_reducible show wpAny _ _ (subscriptTail _ (PySem.Expr.Slice _ _ none _) (Value.ref _) (Value.ref _)) _ _ _); k_dflt (refine' from_R ?FZq ?NZq ?mZq ?iZq ?yZq ?zZq ?_ ?sZq ?tZq; (case FZq => k_asm); (case NZq => k_asm); (case mZq => (repeat (first | (with_reducible assumption) | (with_reducible exact List.mem_cons_self ..) | (with_reducible refine List.mem_cons_of_mem _ ?_) | (with_reducible refine List.mem_append_right _ ?_)))); (case iZq => first | with_reducible assumption | exact lstO_of _ _); (case yZq => walk_at "kk nat"); (case zZq => walk_at "kk LNF"); (case sZq => with_unfolding_all rfl); (case tZq => (intro _; with_unfolding_all rfl)); k_whole); intro D' h' F' N' l1; (try k_lt l1); (try k_sweep)) | ((with_reducible show wpAny _ _ (subscriptTail _ (PySem.Expr.Slice _ _ none _) (Value.ref _) (Value.ref _)) _ _ _); k_dflt (refine' upto_R ?FZq ?NZq ?mZq ?iZq ?yZq ?zZq ?_ ?sZq ?tZq; (case FZq => k_asm); (case NZq => k_asm); (case mZq => (repeat (first | (with_reducible assumption) | (with_reducible exact List.mem_cons_self ..) | (with_reducible refine List.mem_cons_of_mem _ ?_) | (with_reducible refine List.mem_append_right _ ?_)))); (case iZq => first | with_reducible assumption | exact lstO_of _ _); (case yZq => walk_at "kk nat"); (case zZq => walk_at "kk LNF"); (case sZq => with_unfolding_all rfl); (case tZq => (intro _; with_unfolding_all rfl)); k_whole); intro D' h' F' N' l1; (try k_lt l1); (try k_sweep)) | ((with_reducible show wpAny _ _ (subscriptTail _ (PySem.Expr.Slice _ _ none _) (Value.ref _) (Value.ref _)) _ _ _); k_dflt (refine' from_L ?FZq ?NZq ?mZq ?iZq ?yZq ?zZq ?_ ?sZq ?tZq; (case FZq => k_asm); (case NZq => k_asm); (case mZq => (repeat (first | (with_reducible assumption) | (with_reducible exact List.mem_cons_self ..) | (with_reducible refine List.mem_cons_of_mem _ ?_) | (with_reducible refine List.mem_append_right _ ?_)))); (case iZq => walk_at "kk INF"); (case yZq => walk_at "kk nat"); (case zZq => walk_at "kk LNF"); (case sZq => with_unfolding_all rfl); (case tZq => (intro _; with_unfolding_all rfl)); k_whole); intro D' ws' h' F' N' l1 hI'; (try k_lt l1); (try k_sweep)) | ((with_reducible show wpAny _ _ (call (Value.builtin "len") [Value.ref _]) _ _ _); k_dflt (refine' len_L ?NZq ?mZq ?iZq ?zZq ?_; (case NZq => k_asm); (case mZq => (repeat (first | (with_reducible assumption) | (with_reducible exact List.mem_cons_self ..) | (with_reducible refine List.mem_cons_of_mem _ ?_) | (with_reducible refine List.mem_append_right _ ?_)))); (case iZq => walk_at "kk INF"); (case zZq => walk_at "kk LNF"); k_whole); intro t' tk') | ((with_reducible show wpAny _ _ (compareOp CmpOp.NotEq (Value.ref _) (Value.ref _)) _ _ _); k_dflt (refine' ne_NN ?NZq ?aZq ?bZq ?laZq ?lbZq ?iZq ?jZq ?uZq ?_; (case NZq => k_asm); (case aZq => (repeat (first | (with_reducible assumption) | (with_reducible exact List.mem_cons_self ..) | (with_reducible refine List.mem_cons_of_mem _ ?_) | (with_reducible refine List.mem_append_right _ ?_)))); (case bZq => (repeat (first | (with_reducible assumption) | (with_reducible exact List.mem_cons_self ..) | (with_reducible refine List.mem_cons_of_mem _ ?_) | (with_reducible refine List.mem_append_right _ ?_)))); (case laZq => first | with_reducible assumption | exact lstO_of _ _); (case lbZq => first | with_reducible assumption | exact lstO_of _ _); (case iZq => first | with_reducible exact ls_up (by with_reducible assumption) (fun p hp => by (repeat (first | (with_reducible assumption) | (with_reducible exact List.mem_cons_self ..) | (with_reducible refine List.mem_cons_of_mem _ ?_) | (with_reducible refine List.mem_append_right _ ?_))))); (case jZq => first | with_reducible exact ls_up (by with_reducible assumption) (fun p hp => by (repeat (first | (with_reducible assumption) | (with_reducible exact List.mem_cons_self ..) | (with_reducible refine List.mem_cons_of_mem _ ?_) | (with_reducible refine List.mem_append_right _ ?_))))); (case uZq => ke_room); k_whole)) | ((with_reducible show wpAny _ _ (compareOp CmpOp.Eq (Value.ref _) (Value.ref _)) _ _ _); k_dflt (refine' eq_NN ?NZq ?aZq ?bZq ?laZq ?lbZq ?iZq ?jZq ?uZq ?_; (case NZq => k_asm); (case aZq => (repeat (first | (with_reducible assumption) | (with_reducible exact List.mem_cons_self ..) | (with_reducible refine List.mem_cons_of_mem _ ?_) | (with_reducible refine List.mem_append_right _ ?_)))); (case bZq => (repeat (first | (with_reducible assumption) | (with_reducible exact List.mem_cons_self ..) | (with_reducible refine List.mem_cons_of_mem _ ?_) | (with_reducible refine List.mem_append_right _ ?_)))); (case laZq => first | with_reducible assumption | exact lstO_of _ _); (case lbZq => first | with_reducible assumption | exact lstO_of _ _); (case iZq => first | with_reducible exact ls_up (by with_reducible assumption) (fun p hp => by (repeat (first | (with_reducible assumption) | (with_reducible exact List.mem_cons_self ..) | (with_reducible refine List.mem_cons_of_mem _ ?_) | (with_reducible refine List.mem_append_right _ ?_))))); (case jZq => first | with_reducible exact ls_up (by with_reducible assumption) (fun p hp => by (repeat (first | (with_reducible assumption) | (with_reducible exact List.mem_cons_self ..) | (with_reducible refine List.mem_cons_of_mem _ ?_) | (with_reducible refine List.mem_append_right _ ?_))))); (case uZq => ke_room); k_whole)) | ((with_reducible show wpAny _ _ (compareOp CmpOp.Eq (Value.ref _) (Value.ref _)) _ _ _); k_dflt (refine' eq_I ?NZq ?aZq ?bZq ?laZq ?lbZq ?iZq ?jZq ?uZq ?_; (case NZq => k_asm); (case aZq => (repeat (first | (with_reducible assumption) | (with_reducible exact List.mem_cons_self ..) | (with_reducible refine List.mem_cons_of_mem _ ?_) | (with_reducible refine List.mem_append_right _ ?_)))); (case bZq => (repeat (first | (with_reducible assumption) | (with_reducible exact List.mem_cons_self ..) | (with_reducible refine List.mem_cons_of_mem _ ?_) | (with_reducible refine List.mem_append_right _ ?_)))); (case laZq => first | with_reducible assumption | exact lstO_of _ _); (case lbZq => first | with_reducible assumption | exact lstO_of _ _); (case iZq => first | with_reducible assumption | exact IntsAre.nil | exact IntsAre.cons _ _ IntsAre.nil | exact IntsAre.cons _ _ (IntsAre.cons _ _ IntsAre.nil)); (case jZq => first | with_reducible assumption | exact IntsAre.nil | exact IntsAre.cons _ _ IntsAre.nil | exact IntsAre.cons _ _ (IntsAre.cons _ _ IntsAre.nil)); (case uZq => ke_room); k_whole)) | ((with_reducible show wpAny _ _ (call (Value.ref 134) [Value.int _ _, Value.ref _]) _ _ _); k_dflt (refine' SpecW.use2 (by k_asm) (by k_asm) (by k_asm) (by k_asm) (by k_asm) (by first | exact rfl | assumption) (walk_ok _ _ _ _ _ _ _ ?p1Zq ?p2Zq ?p3Zq ?p4Zq ?p5Zq) (by ktr_room) (by ktr_units) ?_; (case p1Zq => (repeat (first | (with_reducible assumption) | (with_reducible exact List.mem_cons_self ..) | (with_reducible refine List.mem_cons_of_mem _ ?_) | (with_reducible refine List.mem_append_right _ ?_)))); (case p2Zq => first | with_reducible assumption | exact lstO_of _ _); (case p3Zq => first | exact ls_up (show LsAre [] [] _ from by with_reducible assumption) (fun p hp => nomatch hp) | exact ls_up (by with_reducible assumption) (fun p hp => by (repeat (first | (with_reducible assumption) | (with_reducible exact List.mem_cons_self ..) | (with_reducible refine List.mem_cons_of_mem _ ?_) | (with_reducible refine List.mem_append_right _ ?_))); done)); (case p4Zq => walk_at "kk LNF"); (case p5Zq => first | exact Nat.zero_le _ | (walk_at "kk LNF")); k_whole); intro led' v' h' tk' hR' F' N'; (obtain ⟨q', qo', qs', sub', hV', hL', hlo', hls'⟩ := hR'); subst hV' hL'; (try simp only [List.nil_append, List.cons_append] at F' N'); k_sweep) | ((with_reducible show wpAny _ _ (call (Value.ref 129) [Value.ref _]) _ _ _); k_dflt (refine' SpecW.use2 (by k_asm) (by k_asm) (by k_asm) (by k_asm) (by k_asm) (by first | exact rfl | assumption) (pieces_ok _ _ _ _ _ ?p1Zq ?p2Zq ?p3Zq) (by ktr_room) (by ktr_units) ?_; (case p1Zq => (repeat (first | (with_reducible assumption) | (with_reducible exact List.mem_cons_self ..) | (with_reducible refine List.mem_cons_of_mem _ ?_) | (with_reducible refine List.mem_append_right _ ?_)))); (case p2Zq => walk_at "kk INF"); (case p3Zq => walk_at "kk LNF"); k_whole); intro led' v' h' tk' hR' F' N'; (obtain ⟨q', ws', k', sub', hV', hL', hls'⟩ := hR'); subst hV' hL'; (try simp only [List.nil_append, List.cons_append] at F' N'); k_sweep) | ((with_reducible show wpAny _ _ (call (Value.ref 122) [Value.ref _]) _ _ _); k_dflt (refine' Spec.use2 (by k_asm) (by k_asm) (by k_asm) (by k_asm) (by k_asm) (by first | exact rfl | assumption) (slashes_ok _ _ _ _ _ ?p1Zq ?p2Zq ?p3Zq) (by ktr_room) (by ktr_units) ?_; (case p1Zq => (repeat (first | (with_reducible assumption) | (with_reducible exact List.mem_cons_self ..) | (with_reducible refine List.mem_cons_of_mem _ ?_) | (with_reducible refine List.mem_append_right _ ?_)))); (case p2Zq => walk_at "kk INF"); (case p3Zq => walk_at "kk LNF"); k_whole); intro led' v' h' tk' hR' hfr' F' N'; (obtain ⟨hL', t', hV'⟩ := hR'); subst hL' hV'; (try simp only [List.nil_append, List.cons_append] at F' N'); (try clear hfr'); k_sweep)); k_steps))
            · exact absurd (q5_leads codes (d := i) (by omega)) (by assumption)
            · rw [StopG.eq]
              exact turn_endC (by assumption) (by assumption) (fun p hp => by (repeat (first | (with_reducible assumption) | (with_reducible exact List.mem_cons_self ..) | (with_reducible refine List.mem_cons_of_mem _ ?_) | (with_reducible refine List.mem_append_right _ ?_)))) (by (repeat (first | (with_reducible assumption) | (with_reducible exact List.mem_cons_self ..) | (with_reducible refine List.mem_cons_of_mem _ ?_) | (with_reducible refine List.mem_append_right _ ?_)))) hne (by intro z h1 h2 h3; (simp only [List.forall_mem_cons, List.not_mem_nil, false_implies, implies_true, and_true, ne_eq] at h2); first | (simp only [kstB, h1, h2, List.contains_nil, if_false, Bool.false_eq_true, reduceIte]; done) | ((have h4 := h3); (simp only [List.contains_cons, List.contains_nil, Bool.or_false, Bool.or_eq_false_iff, beq_eq_false_iff_ne, ne_eq] at h4); (simp only [kstB, h1, h2, h3, h4, if_false, Bool.false_eq_true, reduceIte]; done)))
          case done =>
            rintro u9 h9 tk9 F' N'
            dsimp only at *
            (k_steps; repeat' ((with_reducible refine Stop.un ?_); (first | ((with_reducible show wpAny _ _ (call (Value.builtin "len") [Value.ref _]) _ _ _); k_dflt (refine' len_R ?NZq ?mZq ?iZq ?zZq ?_; (case NZq => k_asm); (case mZq => (repeat (first | (with_reducible assumption) | (with_reducible exact List.mem_cons_self ..) | (with_reducible refine List.mem_cons_of_mem _ ?_) | (with_reducible refine List.mem_append_right _ ?_)))); (case iZq => with_reducible assumption); (case zZq => walk_at "kk LNF"); k_whole); intro t' tk') | ((with_reducible show wpAny _ _ (binaryOp Operator.Add (Value.ref _) (Value.ref _)) _ _ _); k_dflt (refine' add_R ?FZq ?NZq ?aZq ?bZq ?laZq ?lbZq ?zZq ?_; (case FZq => k_asm); (case NZq => k_asm); (case aZq => (repeat (first | (with_reducible assumption) | (with_reducible exact List.mem_cons_self ..) | (with_reducible refine List.mem_cons_of_mem _ ?_) | (with_reducible refine List.mem_append_right _ ?_)))); (case bZq => (repeat (first | (with_reducible assumption) | (with_reducible exact List.mem_cons_self ..) | (with_reducible refine List.mem_cons_of_mem _ ?_) | (with_reducible refine List.mem_append_right _ ?_)))); (case laZq => first | with_reducible assumption | exact lstO_of _ _); (case lbZq => first | with_reducible assumption | exact lstO_of _ _); (case zZq => walk_at "kk LNF"); k_whole); intro D' h' F' N' l1; (try k_lt l1); (try k_sweep)) | ((with_reducible show wpAny _ _ (subscriptTail _ (PySem.Expr.Slice _ _ none _) (Value.ref _) (Value.ref _)) _ _ _); k_dflt (refine' from_R ?FZq ?NZq ?mZq ?iZq ?yZq ?zZq ?_ ?sZq ?tZq; (case FZq => k_asm); (case NZq => k_asm); (case mZq => (repeat (first | (with_reducible assumption) | (with_reducible exact List.mem_cons_self ..) | (with_reducible refine List.mem_cons_of_mem _ ?_) | (with_reducible refine List.mem_append_right _ ?_)))); (case iZq => first | with_reducible assumption | exact lstO_of _ _); (case yZq => walk_at "kk nat"); (case zZq => walk_at "kk LNF"); (case sZq => with_unfolding_all rfl); (case tZq => (intro _; with_unfolding_all rfl)); k_whole); intro D' h' F' N' l1; (try k_lt l1); (try k_sweep)) | ((with_reducible show wpAny _ _ (subscriptTail _ (PySem.Expr.Slice _ _ none _) (Value.ref _) (Value.ref _)) _ _ _); k_dflt (refine' upto_R ?FZq ?NZq ?mZq ?iZq ?yZq ?zZq ?_ ?sZq ?tZq; (case FZq => k_asm); (case NZq => k_asm); (case mZq => (repeat (first | (with_reducible assumption) | (with_reducible exact List.mem_cons_self ..) | (with_reducible refine List.mem_cons_of_mem _ ?_) | (with_reducible refine List.mem_append_right _ ?_)))); (case iZq => first | with_reducible assumption | exact lstO_of _ _); (case yZq => walk_at "kk nat"); (case zZq => walk_at "kk LNF"); (case sZq => with_unfolding_all rfl); (case tZq => (intro _; with_unfolding_all rfl)); k_whole); intro D' h' F' N' l1; (try k_lt l1); (try k_sweep)) | ((with_reducible show wpAny _ _ (subscriptTail _ (PySem.Expr.Slice _ _ none _) (Value.ref _) (Value.ref _)) _ _ _); k_dflt (refine' from_L ?FZq ?NZq ?mZq ?iZq ?yZq ?zZq ?_ ?sZq ?tZq; (case FZq => k_asm); (case NZq => k_asm); (case mZq => (repeat (first | (with_reducible assumption) | (with_reducible exact List.mem_cons_self ..) | (with_reducible refine List.mem_cons_of_mem _ ?_) | (with_reducible refine List.mem_append_right _ ?_)))); (case iZq => walk_at "kk INF"); (case yZq => walk_at "kk nat"); (case zZq => walk_at "kk LNF"); (case sZq => with_unfolding_all rfl); (case tZq => (intro _; with_unfolding_all rfl)); k_whole); intro D' ws' h' F' N' l1 hI'; (try k_lt l1); (try k_sweep)) | ((with_reducible show wpAny _ _ (call (Value.builtin "len") [Value.ref _]) _ _ _); k_dflt (refine' len_L ?NZq ?mZq ?iZq ?zZq ?_; (case NZq => k_asm); (case mZq => (repeat (first | (with_reducible assumption) | (with_reducible exact List.mem_cons_self ..) | (with_reducible refine List.mem_cons_of_mem _ ?_) | (with_reducible refine List.mem_append_right _ ?_)))); (case iZq => walk_at "kk INF"); (case zZq => walk_at "kk LNF"); k_whole); intro t' tk') | ((with_reducible show wpAny _ _ (compareOp CmpOp.NotEq (Value.ref _) (Value.ref _)) _ _ _); k_dflt (refine' ne_NN ?NZq ?aZq ?bZq ?laZq ?lbZq ?iZq ?jZq ?uZq ?_; (case NZq => k_asm); (case aZq => (repeat (first | (with_reducible assumption) | (with_reducible exact List.mem_cons_self ..) | (with_reducible refine List.mem_cons_of_mem _ ?_) | (with_reducible refine List.mem_append_right _ ?_)))); (case bZq => (repeat (first | (with_reducible assumption) | (with_reducible exact List.mem_cons_self ..) | (with_reducible refine List.mem_cons_of_mem _ ?_) | (with_reducible refine List.mem_append_right _ ?_)))); (case laZq => first | with_reducible assumption | exact lstO_of _ _); (case lbZq => first | with_reducible assumption | exact lstO_of _ _); (case iZq => first | with_reducible exact ls_up (by with_reducible assumption) (fun p hp => by (repeat (first | (with_reducible assumption) | (with_reducible exact List.mem_cons_self ..) | (with_reducible refine List.mem_cons_of_mem _ ?_) | (with_reducible refine List.mem_append_right _ ?_))))); (case jZq => first | with_reducible exact ls_up (by with_reducible assumption) (fun p hp => by (repeat (first | (with_reducible assumption) | (with_reducible exact List.mem_cons_self ..) | (with_reducible refine List.mem_cons_of_mem _ ?_) | (with_reducible refine List.mem_append_right _ ?_))))); (case uZq => ke_room); k_whole)) | ((with_reducible show wpAny _ _ (compareOp CmpOp.Eq (Value.ref _) (Value.ref _)) _ _ _); k_dflt (refine' eq_NN ?NZq ?aZq ?bZq ?laZq ?lbZq ?iZq ?jZq ?uZq ?_; (case NZq => k_asm); (case aZq => (repeat (first | (with_reducible assumption) | (with_reducible exact List.mem_cons_self ..) | (with_reducible refine List.mem_cons_of_mem _ ?_) | (with_reducible refine List.mem_append_right _ ?_)))); (case bZq => (repeat (first | (with_reducible assumption) | (with_reducible exact List.mem_cons_self ..) | (with_reducible refine List.mem_cons_of_mem _ ?_) | (with_reducible refine List.mem_append_right _ ?_)))); (case laZq => first | with_reducible assumption | exact lstO_of _ _); (case lbZq => first | with_reducible assumption | exact lstO_of _ _); (case iZq => first | with_reducible exact ls_up (by with_reducible assumption) (fun p hp => by (repeat (first | (with_reducible assumption) | (with_reducible exact List.mem_cons_self ..) | (with_reducible refine List.mem_cons_of_mem _ ?_) | (with_reducible refine List.mem_append_right _ ?_))))); (case jZq => first | with_reducible exact ls_up (by with_reducible assumption) (fun p hp => by (repeat (first | (with_reducible assumption) | (with_reducible exact List.mem_cons_self ..) | (with_reducible refine List.mem_cons_of_mem _ ?_) | (with_reducible refine List.mem_append_right _ ?_))))); (case uZq => ke_room); k_whole)) | ((with_reducible show wpAny _ _ (compareOp CmpOp.Eq (Value.ref _) (Value.ref _)) _ _ _); k_dflt (refine' eq_I ?NZq ?aZq ?bZq ?laZq ?lbZq ?iZq ?jZq ?uZq ?_; (case NZq => k_asm); (case aZq => (repeat (first | (with_reducible assumption) | (with_reducible exact List.mem_cons_self ..) | (with_reducible refine List.mem_cons_of_mem _ ?_) | (with_reducible refine List.mem_append_right _ ?_)))); (case bZq => (repeat (first | (with_reducible assumption) | (with_reducible exact List.mem_cons_self ..) | (with_reducible refine List.mem_cons_of_mem _ ?_) | (with_reducible refine List.mem_append_right _ ?_)))); (case laZq => first | with_reducible assumption | exact lstO_of _ _); (case lbZq => first | with_reducible assumption | exact lstO_of _ _); (case iZq => first | with_reducible assumption | exact IntsAre.nil | exact IntsAre.cons _ _ IntsAre.nil | exact IntsAre.cons _ _ (IntsAre.cons _ _ IntsAre.nil)); (case jZq => first | with_reducible assumption | exact IntsAre.nil | exact IntsAre.cons _ _ IntsAre.nil | exact IntsAre.cons _ _ (IntsAre.cons _ _ IntsAre.nil)); (case uZq => ke_room); k_whole)) | ((with_reducible show wpAny _ _ (call (Value.ref 134) [Value.int _ _, Value.ref _]) _ _ _); k_dflt (refine' SpecW.use2 (by k_asm) (by k_asm) (by k_asm) (by k_asm) (by k_asm) (by first | exact rfl | assumption) (walk_ok _ _ _ _ _ _ _ ?p1Zq ?p2Zq ?p3Zq ?p4Zq ?p5Zq) (by ktr_room) (by ktr_units) ?_; (case p1Zq => (repeat (first | (with_reducible assumption) | (with_reducible exact List.mem_cons_self ..) | (with_reducible refine List.mem_cons_of_mem _ ?_) | (with_reducible refine List.mem_append_right _ ?_)))); (case p2Zq => first | with_reducible assumption | exact lstO_of _ _); (case p3Zq => first | exact ls_up (show LsAre [] [] _ from by with_reducible assumption) (fun p hp => nomatch hp) | exact ls_up (by with_reducible assumption) (fun p hp => by (repeat (first | (with_reducible assumption) | (with_reducible exact List.mem_cons_self ..) | (with_reducible refine List.mem_cons_of_mem _ ?_) | (with_reducible refine List.mem_append_right _ ?_))); done)); (case p4Zq => walk_at "kk LNF"); (case p5Zq => first | exact Nat.zero_le _ | (walk_at "kk LNF")); k_whole); intro led' v' h' tk' hR' F' N'; (obtain ⟨q', qo', qs', sub', hV', hL', hlo', hls'⟩ := hR'); subst hV' hL'; (try simp only [List.nil_append, List.cons_append] at F' N'); k_sweep) | ((with_reducible show wpAny _ _ (call (Value.ref 129) [Value.ref _]) _ _ _); k_dflt (refine' SpecW.use2 (by k_asm) (by k_asm) (by k_asm) (by k_asm) (by k_asm) (by first | exact rfl | assumption) (pieces_ok _ _ _ _ _ ?p1Zq ?p2Zq ?p3Zq) (by ktr_room) (by ktr_units) ?_; (case p1Zq => (repeat (first | (with_reducible assumption) | (with_reducible exact List.mem_cons_self ..) | (with_reducible refine List.mem_cons_of_mem _ ?_) | (with_reducible refine List.mem_append_right _ ?_)))); (case p2Zq => walk_at "kk INF"); (case p3Zq => walk_at "kk LNF"); k_whole); intro led' v' h' tk' hR' F' N'; (obtain ⟨q', ws', k', sub', hV', hL', hls'⟩ := hR'); subst hV' hL'; (try simp only [List.nil_append, List.cons_append] at F' N'); k_sweep) | ((with_reducible show wpAny _ _ (call (Value.ref 122) [Value.ref _]) _ _ _); k_dflt (refine' Spec.use2 (by k_asm) (by k_asm) (by k_asm) (by k_asm) (by k_asm) (by first | exact rfl | assumption) (slashes_ok _ _ _ _ _ ?p1Zq ?p2Zq ?p3Zq) (by ktr_room) (by ktr_units) ?_; (case p1Zq => (repeat (first | (with_reducible assumption) | (with_reducible exact List.mem_cons_self ..) | (with_reducible refine List.mem_cons_of_mem _ ?_) | (with_reducible refine List.mem_append_right _ ?_)))); (case p2Zq => walk_at "kk INF"); (case p3Zq => walk_at "kk LNF"); k_whole); intro led' v' h' tk' hR' hfr' F' N'; (obtain ⟨hL', t', hV'⟩ := hR'); subst hL' hV'; (try simp only [List.nil_append, List.cons_append] at F' N'); (try clear hfr'); k_sweep)); k_steps))
            refine Stop.un ?_
            refine For_invVF (by assumption) rfl rfl ?_
            (k_steps; repeat' ((with_reducible refine Stop.un ?_); (first | ((with_reducible show wpAny _ _ (call (Value.builtin "len") [Value.ref _]) _ _ _); k_dflt (refine' len_R ?NZq ?mZq ?iZq ?zZq ?_; (case NZq => k_asm); (case mZq => (repeat (first | (with_reducible assumption) | (with_reducible exact List.mem_cons_self ..) | (with_reducible refine List.mem_cons_of_mem _ ?_) | (with_reducible refine List.mem_append_right _ ?_)))); (case iZq => with_reducible assumption); (case zZq => walk_at "kk LNF"); k_whole); intro t' tk') | ((with_reducible show wpAny _ _ (binaryOp Operator.Add (Value.ref _) (Value.ref _)) _ _ _); k_dflt (refine' add_R ?FZq ?NZq ?aZq ?bZq ?laZq ?lbZq ?zZq ?_; (case FZq => k_asm); (case NZq => k_asm); (case aZq => (repeat (first | (with_reducible assumption) | (with_reducible exact List.mem_cons_self ..) | (with_reducible refine List.mem_cons_of_mem _ ?_) | (with_reducible refine List.mem_append_right _ ?_)))); (case bZq => (repeat (first | (with_reducible assumption) | (with_reducible exact List.mem_cons_self ..) | (with_reducible refine List.mem_cons_of_mem _ ?_) | (with_reducible refine List.mem_append_right _ ?_)))); (case laZq => first | with_reducible assumption | exact lstO_of _ _); (case lbZq => first | with_reducible assumption | exact lstO_of _ _); (case zZq => walk_at "kk LNF"); k_whole); intro D' h' F' N' l1; (try k_lt l1); (try k_sweep)) | ((with_reducible show wpAny _ _ (subscriptTail _ (PySem.Expr.Slice _ _ none _) (Value.ref _) (Value.ref _)) _ _ _); k_dflt (refine' from_R ?FZq ?NZq ?mZq ?iZq ?yZq ?zZq ?_ ?sZq ?tZq; (case FZq => k_asm); (case NZq => k_asm); (case mZq => (repeat (first | (with_reducible assumption) | (with_reducible exact List.mem_cons_self ..) | (with_reducible refine List.mem_cons_of_mem _ ?_) | (with_reducible refine List.mem_append_right _ ?_)))); (case iZq => first | with_reducible assumption | exact lstO_of _ _); (case yZq => walk_at "kk nat"); (case zZq => walk_at "kk LNF"); (case sZq => with_unfolding_all rfl); (case tZq => (intro _; with_unfolding_all rfl)); k_whole); intro D' h' F' N' l1; (try k_lt l1); (try k_sweep)) | ((with_reducible show wpAny _ _ (subscriptTail _ (PySem.Expr.Slice _ _ none _) (Value.ref _) (Value.ref _)) _ _ _); k_dflt (refine' upto_R ?FZq ?NZq ?mZq ?iZq ?yZq ?zZq ?_ ?sZq ?tZq; (case FZq => k_asm); (case NZq => k_asm); (case mZq => (repeat (first | (with_reducible assumption) | (with_reducible exact List.mem_cons_self ..) | (with_reducible refine List.mem_cons_of_mem _ ?_) | (with_reducible refine List.mem_append_right _ ?_)))); (case iZq => first | with_reducible assumption | exact lstO_of _ _); (case yZq => walk_at "kk nat"); (case zZq => walk_at "kk LNF"); (case sZq => with_unfolding_all rfl); (case tZq => (intro _; with_unfolding_all rfl)); k_whole); intro D' h' F' N' l1; (try k_lt l1); (try k_sweep)) | ((with_reducible show wpAny _ _ (subscriptTail _ (PySem.Expr.Slice _ _ none _) (Value.ref _) (Value.ref _)) _ _ _); k_dflt (refine' from_L ?FZq ?NZq ?mZq ?iZq ?yZq ?zZq ?_ ?sZq ?tZq; (case FZq => k_asm); (case NZq => k_asm); (case mZq => (repeat (first | (with_reducible assumption) | (with_reducible exact List.mem_cons_self ..) | (with_reducible refine List.mem_cons_of_mem _ ?_) | (with_reducible refine List.mem_append_right _ ?_)))); (case iZq => walk_at "kk INF"); (case yZq => walk_at "kk nat"); (case zZq => walk_at "kk LNF"); (case sZq => with_unfolding_all rfl); (case tZq => (intro _; with_unfolding_all rfl)); k_whole); intro D' ws' h' F' N' l1 hI'; (try k_lt l1); (try k_sweep)) | ((with_reducible show wpAny _ _ (call (Value.builtin "len") [Value.ref _]) _ _ _); k_dflt (refine' len_L ?NZq ?mZq ?iZq ?zZq ?_; (case NZq => k_asm); (case mZq => (repeat (first | (with_reducible assumption) | (with_reducible exact List.mem_cons_self ..) | (with_reducible refine List.mem_cons_of_mem _ ?_) | (with_reducible refine List.mem_append_right _ ?_)))); (case iZq => walk_at "kk INF"); (case zZq => walk_at "kk LNF"); k_whole); intro t' tk') | ((with_reducible show wpAny _ _ (compareOp CmpOp.NotEq (Value.ref _) (Value.ref _)) _ _ _); k_dflt (refine' ne_NN ?NZq ?aZq ?bZq ?laZq ?lbZq ?iZq ?jZq ?uZq ?_; (case NZq => k_asm); (case aZq => (repeat (first | (with_reducible assumption) | (with_reducible exact List.mem_cons_self ..) | (with_reducible refine List.mem_cons_of_mem _ ?_) | (with_reducible refine List.mem_append_right _ ?_)))); (case bZq => (repeat (first | (with_reducible assumption) | (with_reducible exact List.mem_cons_self ..) | (with_reducible refine List.mem_cons_of_mem _ ?_) | (with_reducible refine List.mem_append_right _ ?_)))); (case laZq => first | with_reducible assumption | exact lstO_of _ _); (case lbZq => first | with_reducible assumption | exact lstO_of _ _); (case iZq => first | with_reducible exact ls_up (by with_reducible assumption) (fun p hp => by (repeat (first | (with_reducible assumption) | (with_reducible exact List.mem_cons_self ..) | (with_reducible refine List.mem_cons_of_mem _ ?_) | (with_reducible refine List.mem_append_right _ ?_))))); (case jZq => first | with_reducible exact ls_up (by with_reducible assumption) (fun p hp => by (repeat (first | (with_reducible assumption) | (with_reducible exact List.mem_cons_self ..) | (with_reducible refine List.mem_cons_of_mem _ ?_) | (with_reducible refine List.mem_append_right _ ?_))))); (case uZq => ke_room); k_whole)) | ((with_reducible show wpAny _ _ (compareOp CmpOp.Eq (Value.ref _) (Value.ref _)) _ _ _); k_dflt (refine' eq_NN ?NZq ?aZq ?bZq ?laZq ?lbZq ?iZq ?jZq ?uZq ?_; (case NZq => k_asm); (case aZq => (repeat (first | (with_reducible assumption) | (with_reducible exact List.mem_cons_self ..) | (with_reducible refine List.mem_cons_of_mem _ ?_) | (with_reducible refine List.mem_append_right _ ?_)))); (case bZq => (repeat (first | (with_reducible assumption) | (with_reducible exact List.mem_cons_self ..) | (with_reducible refine List.mem_cons_of_mem _ ?_) | (with_reducible refine List.mem_append_right _ ?_)))); (case laZq => first | with_reducible assumption | exact lstO_of _ _); (case lbZq => first | with_reducible assumption | exact lstO_of _ _); (case iZq => first | with_reducible exact ls_up (by with_reducible assumption) (fun p hp => by (repeat (first | (with_reducible assumption) | (with_reducible exact List.mem_cons_self ..) | (with_reducible refine List.mem_cons_of_mem _ ?_) | (with_reducible refine List.mem_append_right _ ?_))))); (case jZq => first | with_reducible exact ls_up (by with_reducible assumption) (fun p hp => by (repeat (first | (with_reducible assumption) | (with_reducible exact List.mem_cons_self ..) | (with_reducible refine List.mem_cons_of_mem _ ?_) | (with_reducible refine List.mem_append_right _ ?_))))); (case uZq => ke_room); k_whole)) | ((with_reducible show wpAny _ _ (compareOp CmpOp.Eq (Value.ref _) (Value.ref _)) _ _ _); k_dflt (refine' eq_I ?NZq ?aZq ?bZq ?laZq ?lbZq ?iZq ?jZq ?uZq ?_; (case NZq => k_asm); (case aZq => (repeat (first | (with_reducible assumption) | (with_reducible exact List.mem_cons_self ..) | (with_reducible refine List.mem_cons_of_mem _ ?_) | (with_reducible refine List.mem_append_right _ ?_)))); (case bZq => (repeat (first | (with_reducible assumption) | (with_reducible exact List.mem_cons_self ..) | (with_reducible refine List.mem_cons_of_mem _ ?_) | (with_reducible refine List.mem_append_right _ ?_)))); (case laZq => first | with_reducible assumption | exact lstO_of _ _); (case lbZq => first | with_reducible assumption | exact lstO_of _ _); (case iZq => first | with_reducible assumption | exact IntsAre.nil | exact IntsAre.cons _ _ IntsAre.nil | exact IntsAre.cons _ _ (IntsAre.cons _ _ IntsAre.nil)); (case jZq => first | with_reducible assumption | exact IntsAre.nil | exact IntsAre.cons _ _ IntsAre.nil | exact IntsAre.cons _ _ (IntsAre.cons _ _ IntsAre.nil)); (case uZq => ke_room); k_whole)) | ((with_reducible show wpAny _ _ (call (Value.ref 134) [Value.int _ _, Value.ref _]) _ _ _); k_dflt (refine' SpecW.use2 (by k_asm) (by k_asm) (by k_asm) (by k_asm) (by k_asm) (by first | exact rfl | assumption) (walk_ok _ _ _ _ _ _ _ ?p1Zq ?p2Zq ?p3Zq ?p4Zq ?p5Zq) (by ktr_room) (by ktr_units) ?_; (case p1Zq => (repeat (first | (with_reducible assumption) | (with_reducible exact List.mem_cons_self ..) | (with_reducible refine List.mem_cons_of_mem _ ?_) | (with_reducible refine List.mem_append_right _ ?_)))); (case p2Zq => first | with_reducible assumption | exact lstO_of _ _); (case p3Zq => first | exact ls_up (show LsAre [] [] _ from by with_reducible assumption) (fun p hp => nomatch hp) | exact ls_up (by with_reducible assumption) (fun p hp => by (repeat (first | (with_reducible assumption) | (with_reducible exact List.mem_cons_self ..) | (with_reducible refine List.mem_cons_of_mem _ ?_) | (with_reducible refine List.mem_append_right _ ?_))); done)); (case p4Zq => walk_at "kk LNF"); (case p5Zq => first | exact Nat.zero_le _ | (walk_at "kk LNF")); k_whole); intro led' v' h' tk' hR' F' N'; (obtain ⟨q', qo', qs', sub', hV', hL', hlo', hls'⟩ := hR'); subst hV' hL'; (try simp only [List.nil_append, List.cons_append] at F' N'); k_sweep) | ((with_reducible show wpAny _ _ (call (Value.ref 129) [Value.ref _]) _ _ _); k_dflt (refine' SpecW.use2 (by k_asm) (by k_asm) (by k_asm) (by k_asm) (by k_asm) (by first | exact rfl | assumption) (pieces_ok _ _ _ _ _ ?p1Zq ?p2Zq ?p3Zq) (by ktr_room) (by ktr_units) ?_; (case p1Zq => (repeat (first | (with_reducible assumption) | (with_reducible exact List.mem_cons_self ..) | (with_reducible refine List.mem_cons_of_mem _ ?_) | (with_reducible refine List.mem_append_right _ ?_)))); (case p2Zq => walk_at "kk INF"); (case p3Zq => walk_at "kk LNF"); k_whole); intro led' v' h' tk' hR' F' N'; (obtain ⟨q', ws', k', sub', hV', hL', hls'⟩ := hR'); subst hV' hL'; (try simp only [List.nil_append, List.cons_append] at F' N'); k_sweep) | ((with_reducible show wpAny _ _ (call (Value.ref 122) [Value.ref _]) _ _ _); k_dflt (refine' Spec.use2 (by k_asm) (by k_asm) (by k_asm) (by k_asm) (by k_asm) (by first | exact rfl | assumption) (slashes_ok _ _ _ _ _ ?p1Zq ?p2Zq ?p3Zq) (by ktr_room) (by ktr_units) ?_; (case p1Zq => (repeat (first | (with_reducible assumption) | (with_reducible exact List.mem_cons_self ..) | (with_reducible refine List.mem_cons_of_mem _ ?_) | (with_reducible refine List.mem_append_right _ ?_)))); (case p2Zq => walk_at "kk INF"); (case p3Zq => walk_at "kk LNF"); k_whole); intro led' v' h' tk' hR' hfr' F' N'; (obtain ⟨hL', t', hV'⟩ := hR'); subst hL' hV'; (try simp only [List.nil_append, List.cons_append] at F' N'); (try clear hfr'); k_sweep)); k_steps))
            refine Stop.un ?_
            refine' for_rangeC (ncomps codes).length [Str.ofString "i"] rfl (by assumption) (by assumption) (by assumption) (by omega) (by omega) ?turn ?done
            case turn =>
              rintro j k t9 u9 h9 tk9 I oI hi' hk' hne F' N'
              dsimp only at *
              replace hk' : k = ((j + 1 : Nat) : Int) := by omega
              subst hk'
              (k_steps; repeat' ((with_reducible refine Stop.un ?_); (first | ((with_reducible show wpAny _ _ (call (Value.builtin "len") [Value.ref _]) _ _ _); k_dflt (refine' len_R ?NZq ?mZq ?iZq ?zZq ?_; (case NZq => k_asm); (case mZq => (repeat (first | (with_reducible assumption) | (with_reducible exact List.mem_cons_self ..) | (with_reducible refine List.mem_cons_of_mem _ ?_) | (with_reducible refine List.mem_append_right _ ?_)))); (case iZq => with_reducible assumption); (case zZq => walk_at "kk LNF"); k_whole); intro t' tk') | ((with_reducible show wpAny _ _ (binaryOp Operator.Add (Value.ref _) (Value.ref _)) _ _ _); k_dflt (refine' add_R ?FZq ?NZq ?aZq ?bZq ?laZq ?lbZq ?zZq ?_; (case FZq => k_asm); (case NZq => k_asm); (case aZq => (repeat (first | (with_reducible assumption) | (with_reducible exact List.mem_cons_self ..) | (with_reducible refine List.mem_cons_of_mem _ ?_) | (with_reducible refine List.mem_append_right _ ?_)))); (case bZq => (repeat (first | (with_reducible assumption) | (with_reducible exact List.mem_cons_self ..) | (with_reducible refine List.mem_cons_of_mem _ ?_) | (with_reducible refine List.mem_append_right _ ?_)))); (case laZq => first | with_reducible assumption | exact lstO_of _ _); (case lbZq => first | with_reducible assumption | exact lstO_of _ _); (case zZq => walk_at "kk LNF"); k_whole); intro D' h' F' N' l1; (try k_lt l1); (try k_sweep)) | ((with_reducible show wpAny _ _ (subscriptTail _ (PySem.Expr.Slice _ _ none _) (Value.ref _) (Value.ref _)) _ _ _); k_dflt (refine' from_R ?FZq ?NZq ?mZq ?iZq ?yZq ?zZq ?_ ?sZq ?tZq; (case FZq => k_asm); (case NZq => k_asm); (case mZq => (repeat (first | (with_reducible assumption) | (with_reducible exact List.mem_cons_self ..) | (with_reducible refine List.mem_cons_of_mem _ ?_) | (with_reducible refine List.mem_append_right _ ?_)))); (case iZq => first | with_reducible assumption | exact lstO_of _ _); (case yZq => walk_at "kk nat"); (case zZq => walk_at "kk LNF"); (case sZq => with_unfolding_all rfl); (case tZq => (intro _; with_unfolding_all rfl)); k_whole); intro D' h' F' N' l1; (try k_lt l1); (try k_sweep)) | ((with_reducible show wpAny _ _ (subscriptTail _ (PySem.Expr.Slice _ _ none _) (Value.ref _) (Value.ref _)) _ _ _); k_dflt (refine' upto_R ?FZq ?NZq ?mZq ?iZq ?yZq ?zZq ?_ ?sZq ?tZq; (case FZq => k_asm); (case NZq => k_asm); (case mZq => (repeat (first | (with_reducible assumption) | (with_reducible exact List.mem_cons_self ..) | (with_reducible refine List.mem_cons_of_mem _ ?_) | (with_reducible refine List.mem_append_right _ ?_)))); (case iZq => first | with_reducible assumption | exact lstO_of _ _); (case yZq => walk_at "kk nat"); (case zZq => walk_at "kk LNF"); (case sZq => with_unfolding_all rfl); (case tZq => (intro _; with_unfolding_all rfl)); k_whole); intro D' h' F' N' l1; (try k_lt l1); (try k_sweep)) | ((with_reducible show wpAny _ _ (subscriptTail _ (PySem.Expr.Slice _ _ none _) (Value.ref _) (Value.ref _)) _ _ _); k_dflt (refine' from_L ?FZq ?NZq ?mZq ?iZq ?yZq ?zZq ?_ ?sZq ?tZq; (case FZq => k_asm); (case NZq => k_asm); (case mZq => (repeat (first | (with_reducible assumption) | (with_reducible exact List.mem_cons_self ..) | (with_reducible refine List.mem_cons_of_mem _ ?_) | (with_reducible refine List.mem_append_right _ ?_)))); (case iZq => walk_at "kk INF"); (case yZq => walk_at "kk nat"); (case zZq => walk_at "kk LNF"); (case sZq => with_unfolding_all rfl); (case tZq => (intro _; with_unfolding_all rfl)); k_whole); intro D' ws' h' F' N' l1 hI'; (try k_lt l1); (try k_sweep)) | ((with_reducible show wpAny _ _ (call (Value.builtin "len") [Value.ref _]) _ _ _); k_dflt (refine' len_L ?NZq ?mZq ?iZq ?zZq ?_; (case NZq => k_asm); (case mZq => (repeat (first | (with_reducible assumption) | (with_reducible exact List.mem_cons_self ..) | (with_reducible refine List.mem_cons_of_mem _ ?_) | (with_reducible refine List.mem_append_right _ ?_)))); (case iZq => walk_at "kk INF"); (case zZq => walk_at "kk LNF"); k_whole); intro t' tk') | ((with_reducible show wpAny _ _ (compareOp CmpOp.NotEq (Value.ref _) (Value.ref _)) _ _ _); k_dflt (refine' ne_NN ?NZq ?aZq ?bZq ?laZq ?lbZq ?iZq ?jZq ?uZq ?_; (case NZq => k_asm); (case aZq => (repeat (first | (with_reducible assumption) | (with_reducible exact List.mem_cons_self ..) | (with_reducible refine List.mem_cons_of_mem _ ?_) | (with_reducible refine List.mem_append_right _ ?_)))); (case bZq => (repeat (first | (with_reducible assumption) | (with_reducible exact List.mem_cons_self ..) | (with_reducible refine List.mem_cons_of_mem _ ?_) | (with_reducible refine List.mem_append_right _ ?_)))); (case laZq => first | with_reducible assumption | exact lstO_of _ _); (case lbZq => first | with_reducible assumption | exact lstO_of _ _); (case iZq => first | with_reducible exact ls_up (by with_reducible assumption) (fun p hp => by (repeat (first | (with_reducible assumption) | (with_reducible exact List.mem_cons_self ..) | (with_reducible refine List.mem_cons_of_mem _ ?_) | (with_reducible refine List.mem_append_right _ ?_))))); (case jZq => first | with_reducible exact ls_up (by with_reducible assumption) (fun p hp => by (repeat (first | (with_reducible assumption) | (with_reducible exact List.mem_cons_self ..) | (with_reducible refine List.mem_cons_of_mem _ ?_) | (with_reducible refine List.mem_append_right _ ?_))))); (case uZq => ke_room); k_whole)) | ((with_reducible show wpAny _ _ (compareOp CmpOp.Eq (Value.ref _) (Value.ref _)) _ _ _); k_dflt (refine' eq_NN ?NZq ?aZq ?bZq ?laZq ?lbZq ?iZq ?jZq ?uZq ?_; (case NZq => k_asm); (case aZq => (repeat (first | (with_reducible assumption) | (with_reducible exact List.mem_cons_self ..) | (with_reducible refine List.mem_cons_of_mem _ ?_) | (with_reducible refine List.mem_append_right _ ?_)))); (case bZq => (repeat (first | (with_reducible assumption) | (with_reducible exact List.mem_cons_self ..) | (with_reducible refine List.mem_cons_of_mem _ ?_) | (with_reducible refine List.mem_append_right _ ?_)))); (case laZq => first | with_reducible assumption | exact lstO_of _ _); (case lbZq => first | with_reducible assumption | exact lstO_of _ _); (case iZq => first | with_reducible exact ls_up (by with_reducible assumption) (fun p hp => by (repeat (first | (with_reducible assumption) | (with_reducible exact List.mem_cons_self ..) | (with_reducible refine List.mem_cons_of_mem _ ?_) | (with_reducible refine List.mem_append_right _ ?_))))); (case jZq => first | with_reducible exact ls_up (by with_reducible assumption) (fun p hp => by (repeat (first | (with_reducible assumption) | (with_reducible exact List.mem_cons_self ..) | (with_reducible refine List.mem_cons_of_mem _ ?_) | (with_reducible refine List.mem_append_right _ ?_))))); (case uZq => ke_room); k_whole)) | ((with_reducible show wpAny _ _ (compareOp CmpOp.Eq (Value.ref _) (Value.ref _)) _ _ _); k_dflt (refine' eq_I ?NZq ?aZq ?bZq ?laZq ?lbZq ?iZq ?jZq ?uZq ?_; (case NZq => k_asm); (case aZq => (repeat (first | (with_reducible assumption) | (with_reducible exact List.mem_cons_self ..) | (with_reducible refine List.mem_cons_of_mem _ ?_) | (with_reducible refine List.mem_append_right _ ?_)))); (case bZq => (repeat (first | (with_reducible assumption) | (with_reducible exact List.mem_cons_self ..) | (with_reducible refine List.mem_cons_of_mem _ ?_) | (with_reducible refine List.mem_append_right _ ?_)))); (case laZq => first | with_reducible assumption | exact lstO_of _ _); (case lbZq => first | with_reducible assumption | exact lstO_of _ _); (case iZq => first | with_reducible assumption | exact IntsAre.nil | exact IntsAre.cons _ _ IntsAre.nil | exact IntsAre.cons _ _ (IntsAre.cons _ _ IntsAre.nil)); (case jZq => first | with_reducible assumption | exact IntsAre.nil | exact IntsAre.cons _ _ IntsAre.nil | exact IntsAre.cons _ _ (IntsAre.cons _ _ IntsAre.nil)); (case uZq => ke_room); k_whole)) | ((with_reducible show wpAny _ _ (call (Value.ref 134) [Value.int _ _, Value.ref _]) _ _ _); k_dflt (refine' SpecW.use2 (by k_asm) (by k_asm) (by k_asm) (by k_asm) (by k_asm) (by first | exact rfl | assumption) (walk_ok _ _ _ _ _ _ _ ?p1Zq ?p2Zq ?p3Zq ?p4Zq ?p5Zq) (by ktr_room) (by ktr_units) ?_; (case p1Zq => (repeat (first | (with_reducible assumption) | (with_reducible exact List.mem_cons_self ..) | (with_reducible refine List.mem_cons_of_mem _ ?_) | (with_reducible refine List.mem_append_right _ ?_)))); (case p2Zq => first | with_reducible assumption | exact lstO_of _ _); (case p3Zq => first | exact ls_up (show LsAre [] [] _ from by with_reducible assumption) (fun p hp => nomatch hp) | exact ls_up (by with_reducible assumption) (fun p hp => by (repeat (first | (with_reducible assumption) | (with_reducible exact List.mem_cons_self ..) | (with_reducible refine List.mem_cons_of_mem _ ?_) | (with_reducible refine List.mem_append_right _ ?_))); done)); (case p4Zq => walk_at "kk LNF"); (case p5Zq => first | exact Nat.zero_le _ | (walk_at "kk LNF")); k_whole); intro led' v' h' tk' hR' F' N'; (obtain ⟨q', qo', qs', sub', hV', hL', hlo', hls'⟩ := hR'); subst hV' hL'; (try simp only [List.nil_append, List.cons_append] at F' N'); k_sweep) | ((with_reducible show wpAny _ _ (call (Value.ref 129) [Value.ref _]) _ _ _); k_dflt (refine' SpecW.use2 (by k_asm) (by k_asm) (by k_asm) (by k_asm) (by k_asm) (by first | exact rfl | assumption) (pieces_ok _ _ _ _ _ ?p1Zq ?p2Zq ?p3Zq) (by ktr_room) (by ktr_units) ?_; (case p1Zq => (repeat (first | (with_reducible assumption) | (with_reducible exact List.mem_cons_self ..) | (with_reducible refine List.mem_cons_of_mem _ ?_) | (with_reducible refine List.mem_append_right _ ?_)))); (case p2Zq => walk_at "kk INF"); (case p3Zq => walk_at "kk LNF"); k_whole); intro led' v' h' tk' hR' F' N'; (obtain ⟨q', ws', k', sub', hV', hL', hls'⟩ := hR'); subst hV' hL'; (try simp only [List.nil_append, List.cons_append] at F' N'); k_sweep) | ((with_reducible show wpAny _ _ (call (Value.ref 122) [Value.ref _]) _ _ _); k_dflt (refine' Spec.use2 (by k_asm) (by k_asm) (by k_asm) (by k_asm) (by k_asm) (by first | exact rfl | assumption) (slashes_ok _ _ _ _ _ ?p1Zq ?p2Zq ?p3Zq) (by ktr_room) (by ktr_units) ?_; (case p1Zq => (repeat (first | (with_reducible assumption) | (with_reducible exact List.mem_cons_self ..) | (with_reducible refine List.mem_cons_of_mem _ ?_) | (with_reducible refine List.mem_append_right _ ?_)))); (case p2Zq => walk_at "kk INF"); (case p3Zq => walk_at "kk LNF"); k_whole); intro led' v' h' tk' hR' hfr' F' N'; (obtain ⟨hL', t', hV'⟩ := hR'); subst hL' hV'; (try simp only [List.nil_append, List.cons_append] at F' N'); (try clear hfr'); k_sweep)); k_steps))
              refine Stop.un ?_
              refine For_invVF (by assumption) rfl rfl ?_
              (k_steps; repeat' ((with_reducible refine Stop.un ?_); (first | ((with_reducible show wpAny _ _ (call (Value.builtin "len") [Value.ref _]) _ _ _); k_dflt (refine' len_R ?NZq ?mZq ?iZq ?zZq ?_; (case NZq => k_asm); (case mZq => (repeat (first | (with_reducible assumption) | (with_reducible exact List.mem_cons_self ..) | (with_reducible refine List.mem_cons_of_mem _ ?_) | (with_reducible refine List.mem_append_right _ ?_)))); (case iZq => with_reducible assumption); (case zZq => walk_at "kk LNF"); k_whole); intro t' tk') | ((with_reducible show wpAny _ _ (binaryOp Operator.Add (Value.ref _) (Value.ref _)) _ _ _); k_dflt (refine' add_R ?FZq ?NZq ?aZq ?bZq ?laZq ?lbZq ?zZq ?_; (case FZq => k_asm); (case NZq => k_asm); (case aZq => (repeat (first | (with_reducible assumption) | (with_reducible exact List.mem_cons_self ..) | (with_reducible refine List.mem_cons_of_mem _ ?_) | (with_reducible refine List.mem_append_right _ ?_)))); (case bZq => (repeat (first | (with_reducible assumption) | (with_reducible exact List.mem_cons_self ..) | (with_reducible refine List.mem_cons_of_mem _ ?_) | (with_reducible refine List.mem_append_right _ ?_)))); (case laZq => first | with_reducible assumption | exact lstO_of _ _); (case lbZq => first | with_reducible assumption | exact lstO_of _ _); (case zZq => walk_at "kk LNF"); k_whole); intro D' h' F' N' l1; (try k_lt l1); (try k_sweep)) | ((with_reducible show wpAny _ _ (subscriptTail _ (PySem.Expr.Slice _ _ none _) (Value.ref _) (Value.ref _)) _ _ _); k_dflt (refine' from_R ?FZq ?NZq ?mZq ?iZq ?yZq ?zZq ?_ ?sZq ?tZq; (case FZq => k_asm); (case NZq => k_asm); (case mZq => (repeat (first | (with_reducible assumption) | (with_reducible exact List.mem_cons_self ..) | (with_reducible refine List.mem_cons_of_mem _ ?_) | (with_reducible refine List.mem_append_right _ ?_)))); (case iZq => first | with_reducible assumption | exact lstO_of _ _); (case yZq => walk_at "kk nat"); (case zZq => walk_at "kk LNF"); (case sZq => with_unfolding_all rfl); (case tZq => (intro _; with_unfolding_all rfl)); k_whole); intro D' h' F' N' l1; (try k_lt l1); (try k_sweep)) | ((with_reducible show wpAny _ _ (subscriptTail _ (PySem.Expr.Slice _ _ none _) (Value.ref _) (Value.ref _)) _ _ _); k_dflt (refine' upto_R ?FZq ?NZq ?mZq ?iZq ?yZq ?zZq ?_ ?sZq ?tZq; (case FZq => k_asm); (case NZq => k_asm); (case mZq => (repeat (first | (with_reducible assumption) | (with_reducible exact List.mem_cons_self ..) | (with_reducible refine List.mem_cons_of_mem _ ?_) | (with_reducible refine List.mem_append_right _ ?_)))); (case iZq => first | with_reducible assumption | exact lstO_of _ _); (case yZq => walk_at "kk nat"); (case zZq => walk_at "kk LNF"); (case sZq => with_unfolding_all rfl); (case tZq => (intro _; with_unfolding_all rfl)); k_whole); intro D' h' F' N' l1; (try k_lt l1); (try k_sweep)) | ((with_reducible show wpAny _ _ (subscriptTail _ (PySem.Expr.Slice _ _ none _) (Value.ref _) (Value.ref _)) _ _ _); k_dflt (refine' from_L ?FZq ?NZq ?mZq ?iZq ?yZq ?zZq ?_ ?sZq ?tZq; (case FZq => k_asm); (case NZq => k_asm); (case mZq => (repeat (first | (with_reducible assumption) | (with_reducible exact List.mem_cons_self ..) | (with_reducible refine List.mem_cons_of_mem _ ?_) | (with_reducible refine List.mem_append_right _ ?_)))); (case iZq => walk_at "kk INF"); (case yZq => walk_at "kk nat"); (case zZq => walk_at "kk LNF"); (case sZq => with_unfolding_all rfl); (case tZq => (intro _; with_unfolding_all rfl)); k_whole); intro D' ws' h' F' N' l1 hI'; (try k_lt l1); (try k_sweep)) | ((with_reducible show wpAny _ _ (call (Value.builtin "len") [Value.ref _]) _ _ _); k_dflt (refine' len_L ?NZq ?mZq ?iZq ?zZq ?_; (case NZq => k_asm); (case mZq => (repeat (first | (with_reducible assumption) | (with_reducible exact List.mem_cons_self ..) | (with_reducible refine List.mem_cons_of_mem _ ?_) | (with_reducible refine List.mem_append_right _ ?_)))); (case iZq => walk_at "kk INF"); (case zZq => walk_at "kk LNF"); k_whole); intro t' tk') | ((with_reducible show wpAny _ _ (compareOp CmpOp.NotEq (Value.ref _) (Value.ref _)) _ _ _); k_dflt (refine' ne_NN ?NZq ?aZq ?bZq ?laZq ?lbZq ?iZq ?jZq ?uZq ?_; (case NZq => k_asm); (case aZq => (repeat (first | (with_reducible assumption) | (with_reducible exact List.mem_cons_self ..) | (with_reducible refine List.mem_cons_of_mem _ ?_) | (with_reducible refine List.mem_append_right _ ?_)))); (case bZq => (repeat (first | (with_reducible assumption) | (with_reducible exact List.mem_cons_self ..) | (with_reducible refine List.mem_cons_of_mem _ ?_) | (with_reducible refine List.mem_append_right _ ?_)))); (case laZq => first | with_reducible assumption | exact lstO_of _ _); (case lbZq => first | with_reducible assumption | exact lstO_of _ _); (case iZq => first | with_reducible exact ls_up (by with_reducible assumption) (fun p hp => by (repeat (first | (with_reducible assumption) | (with_reducible exact List.mem_cons_self ..) | (with_reducible refine List.mem_cons_of_mem _ ?_) | (with_reducible refine List.mem_append_right _ ?_))))); (case jZq => first | with_reducible exact ls_up (by with_reducible assumption) (fun p hp => by (repeat (first | (with_reducible assumption) | (with_reducible exact List.mem_cons_self ..) | (with_reducible refine List.mem_cons_of_mem _ ?_) | (with_reducible refine List.mem_append_right _ ?_))))); (case uZq => ke_room); k_whole)) | ((with_reducible show wpAny _ _ (compareOp CmpOp.Eq (Value.ref _) (Value.ref _)) _ _ _); k_dflt (refine' eq_NN ?NZq ?aZq ?bZq ?laZq ?lbZq ?iZq ?jZq ?uZq ?_; (case NZq => k_asm); (case aZq => (repeat (first | (with_reducible assumption) | (with_reducible exact List.mem_cons_self ..) | (with_reducible refine List.mem_cons_of_mem _ ?_) | (with_reducible refine List.mem_append_right _ ?_)))); (case bZq => (repeat (first | (with_reducible assumption) | (with_reducible exact List.mem_cons_self ..) | (with_reducible refine List.mem_cons_of_mem _ ?_) | (with_reducible refine List.mem_append_right _ ?_)))); (case laZq => first | with_reducible assumption | exact lstO_of _ _); (case lbZq => first | with_reducible assumption | exact lstO_of _ _); (case iZq => first | with_reducible exact ls_up (by with_reducible assumption) (fun p hp => by (repeat (first | (with_reducible assumption) | (with_reducible exact List.mem_cons_self ..) | (with_reducible refine List.mem_cons_of_mem _ ?_) | (with_reducible refine List.mem_append_right _ ?_))))); (case jZq => first | with_reducible exact ls_up (by with_reducible assumption) (fun p hp => by (repeat (first | (with_reducible assumption) | (with_reducible exact List.mem_cons_self ..) | (with_reducible refine List.mem_cons_of_mem _ ?_) | (with_reducible refine List.mem_append_right _ ?_))))); (case uZq => ke_room); k_whole)) | ((with_reducible show wpAny _ _ (compareOp CmpOp.Eq (Value.ref _) (Value.ref _)) _ _ _); k_dflt (refine' eq_I ?NZq ?aZq ?bZq ?laZq ?lbZq ?iZq ?jZq ?uZq ?_; (case NZq => k_asm); (case aZq => (repeat (first | (with_reducible assumption) | (with_reducible exact List.mem_cons_self ..) | (with_reducible refine List.mem_cons_of_mem _ ?_) | (with_reducible refine List.mem_append_right _ ?_)))); (case bZq => (repeat (first | (with_reducible assumption) | (with_reducible exact List.mem_cons_self ..) | (with_reducible refine List.mem_cons_of_mem _ ?_) | (with_reducible refine List.mem_append_right _ ?_)))); (case laZq => first | with_reducible assumption | exact lstO_of _ _); (case lbZq => first | with_reducible assumption | exact lstO_of _ _); (case iZq => first | with_reducible assumption | exact IntsAre.nil | exact IntsAre.cons _ _ IntsAre.nil | exact IntsAre.cons _ _ (IntsAre.cons _ _ IntsAre.nil)); (case jZq => first | with_reducible assumption | exact IntsAre.nil | exact IntsAre.cons _ _ IntsAre.nil | exact IntsAre.cons _ _ (IntsAre.cons _ _ IntsAre.nil)); (case uZq => ke_room); k_whole)) | ((with_reducible show wpAny _ _ (call (Value.ref 134) [Value.int _ _, Value.ref _]) _ _ _); k_dflt (refine' SpecW.use2 (by k_asm) (by k_asm) (by k_asm) (by k_asm) (by k_asm) (by first | exact rfl | assumption) (walk_ok _ _ _ _ _ _ _ ?p1Zq ?p2Zq ?p3Zq ?p4Zq ?p5Zq) (by ktr_room) (by ktr_units) ?_; (case p1Zq => (repeat (first | (with_reducible assumption) | (with_reducible exact List.mem_cons_self ..) | (with_reducible refine List.mem_cons_of_mem _ ?_) | (with_reducible refine List.mem_append_right _ ?_)))); (case p2Zq => first | with_reducible assumption | exact lstO_of _ _); (case p3Zq => first | exact ls_up (show LsAre [] [] _ from by with_reducible assumption) (fun p hp => nomatch hp) | exact ls_up (by with_reducible assumption) (fun p hp => by (repeat (first | (with_reducible assumption) | (with_reducible exact List.mem_cons_self ..) | (with_reducible refine List.mem_cons_of_mem _ ?_) | (with_reducible refine List.mem_append_right _ ?_))); done)); (case p4Zq => walk_at "kk LNF"); (case p5Zq => first | exact Nat.zero_le _ | (walk_at "kk LNF")); k_whole); intro led' v' h' tk' hR' F' N'; (obtain ⟨q', qo', qs', sub', hV', hL', hlo', hls'⟩ := hR'); subst hV' hL'; (try simp only [List.nil_append, List.cons_append] at F' N'); k_sweep) | ((with_reducible show wpAny _ _ (call (Value.ref 129) [Value.ref _]) _ _ _); k_dflt (refine' SpecW.use2 (by k_asm) (by k_asm) (by k_asm) (by k_asm) (by k_asm) (by first | exact rfl | assumption) (pieces_ok _ _ _ _ _ ?p1Zq ?p2Zq ?p3Zq) (by ktr_room) (by ktr_units) ?_; (case p1Zq => (repeat (first | (with_reducible assumption) | (with_reducible exact List.mem_cons_self ..) | (with_reducible refine List.mem_cons_of_mem _ ?_) | (with_reducible refine List.mem_append_right _ ?_)))); (case p2Zq => walk_at "kk INF"); (case p3Zq => walk_at "kk LNF"); k_whole); intro led' v' h' tk' hR' F' N'; (obtain ⟨q', ws', k', sub', hV', hL', hls'⟩ := hR'); subst hV' hL'; (try simp only [List.nil_append, List.cons_append] at F' N'); k_sweep) | ((with_reducible show wpAny _ _ (call (Value.ref 122) [Value.ref _]) _ _ _); k_dflt (refine' Spec.use2 (by k_asm) (by k_asm) (by k_asm) (by k_asm) (by k_asm) (by first | exact rfl | assumption) (slashes_ok _ _ _ _ _ ?p1Zq ?p2Zq ?p3Zq) (by ktr_room) (by ktr_units) ?_; (case p1Zq => (repeat (first | (with_reducible assumption) | (with_reducible exact List.mem_cons_self ..) | (with_reducible refine List.mem_cons_of_mem _ ?_) | (with_reducible refine List.mem_append_right _ ?_)))); (case p2Zq => walk_at "kk INF"); (case p3Zq => walk_at "kk LNF"); k_whole); intro led' v' h' tk' hR' hfr' F' N'; (obtain ⟨hL', t', hV'⟩ := hR'); subst hL' hV'; (try simp only [List.nil_append, List.cons_append] at F' N'); (try clear hfr'); k_sweep)); k_steps))
              refine Stop.un ?_
              refine' for_rangeC (j + 1) [] rfl (by assumption) (by assumption) (by assumption) (by omega) (by omega) ?turn2 ?done2
              case turn2 =>
                rintro i k t9 u9 h9 tk9 I2 oI2 hi2' hk' hne2 F' N'
                dsimp only at *
                rw [Int.zero_add] at hk'
                subst hk'
                have hcut := ls_cut (i := i) (j := j + 1) hsp (fun p hp => hp)
                have hwl := ls_len hsp
                rw [List.length_map] at hwl
                (k_steps; repeat' ((with_reducible refine Stop.un ?_); (first | ((with_reducible show wpAny _ _ (call (Value.builtin "len") [Value.ref _]) _ _ _); k_dflt (refine' len_R ?NZq ?mZq ?iZq ?zZq ?_; (case NZq => k_asm); (case mZq => (repeat (first | (with_reducible assumption) | (with_reducible exact List.mem_cons_self ..) | (with_reducible refine List.mem_cons_of_mem _ ?_) | (with_reducible refine List.mem_append_right _ ?_)))); (case iZq => with_reducible assumption); (case zZq => walk_at "kk LNF"); k_whole); intro t' tk') | ((with_reducible show wpAny _ _ (binaryOp Operator.Add (Value.ref _) (Value.ref _)) _ _ _); k_dflt (refine' add_R ?FZq ?NZq ?aZq ?bZq ?laZq ?lbZq ?zZq ?_; (case FZq => k_asm); (case NZq => k_asm); (case aZq => (repeat (first | (with_reducible assumption) | (with_reducible exact List.mem_cons_self ..) | (with_reducible refine List.mem_cons_of_mem _ ?_) | (with_reducible refine List.mem_append_right _ ?_)))); (case bZq => (repeat (first | (with_reducible assumption) | (with_reducible exact List.mem_cons_self ..) | (with_reducible refine List.mem_cons_of_mem _ ?_) | (with_reducible refine List.mem_append_right _ ?_)))); (case laZq => first | with_reducible assumption | exact lstO_of _ _); (case lbZq => first | with_reducible assumption | exact lstO_of _ _); (case zZq => walk_at "kk LNF"); k_whole); intro D' h' F' N' l1; (try k_lt l1); (try k_sweep)) | ((with_reducible show wpAny _ _ (subscriptTail _ (PySem.Expr.Slice _ _ none _) (Value.ref _) (Value.ref _)) _ _ _); k_dflt (refine' from_R ?FZq ?NZq ?mZq ?iZq ?yZq ?zZq ?_ ?sZq ?tZq; (case FZq => k_asm); (case NZq => k_asm); (case mZq => (repeat (first | (with_reducible assumption) | (with_reducible exact List.mem_cons_self ..) | (with_reducible refine List.mem_cons_of_mem _ ?_) | (with_reducible refine List.mem_append_right _ ?_)))); (case iZq => first | with_reducible assumption | exact lstO_of _ _); (case yZq => walk_at "kk nat"); (case zZq => walk_at "kk LNF"); (case sZq => with_unfolding_all rfl); (case tZq => (intro _; with_unfolding_all rfl)); k_whole); intro D' h' F' N' l1; (try k_lt l1); (try k_sweep)) | ((with_reducible show wpAny _ _ (subscriptTail _ (PySem.Expr.Slice _ _ none _) (Value.ref _) (Value.ref _)) _ _ _); k_dflt (refine' upto_R ?FZq ?NZq ?mZq ?iZq ?yZq ?zZq ?_ ?sZq ?tZq; (case FZq => k_asm); (case NZq => k_asm); (case mZq => (repeat (first | (with_reducible assumption) | (with_reducible exact List.mem_cons_self ..) | (with_reducible refine List.mem_cons_of_mem _ ?_) | (with_reducible refine List.mem_append_right _ ?_)))); (case iZq => first | with_reducible assumption | exact lstO_of _ _); (case yZq => walk_at "kk nat"); (case zZq => walk_at "kk LNF"); (case sZq => with_unfolding_all rfl); (case tZq => (intro _; with_unfolding_all rfl)); k_whole); intro D' h' F' N' l1; (try k_lt l1); (try k_sweep)) | ((with_reducible show wpAny _ _ (subscriptTail _ (PySem.Expr.Slice _ _ none _) (Value.ref _) (Value.ref _)) _ _ _); k_dflt (refine' from_L ?FZq ?NZq ?mZq ?iZq ?yZq ?zZq ?_ ?sZq ?tZq; (case FZq => k_asm); (case NZq => k_asm); (case mZq => (repeat (first | (with_reducible assumption) | (with_reducible exact List.mem_cons_self ..) | (with_reducible refine List.mem_cons_of_mem _ ?_) | (with_reducible refine List.mem_append_right _ ?_)))); (case iZq => walk_at "kk INF"); (case yZq => walk_at "kk nat"); (case zZq => walk_at "kk LNF"); (case sZq => with_unfolding_all rfl); (case tZq => (intro _; with_unfolding_all rfl)); k_whole); intro D' ws' h' F' N' l1 hI'; (try k_lt l1); (try k_sweep)) | ((with_reducible show wpAny _ _ (call (Value.builtin "len") [Value.ref _]) _ _ _); k_dflt (refine' len_L ?NZq ?mZq ?iZq ?zZq ?_; (case NZq => k_asm); (case mZq => (repeat (first | (with_reducible assumption) | (with_reducible exact List.mem_cons_self ..) | (with_reducible refine List.mem_cons_of_mem _ ?_) | (with_reducible refine List.mem_append_right _ ?_)))); (case iZq => walk_at "kk INF"); (case zZq => walk_at "kk LNF"); k_whole); intro t' tk') | ((with_reducible show wpAny _ _ (compareOp CmpOp.NotEq (Value.ref _) (Value.ref _)) _ _ _); k_dflt (refine' ne_NN ?NZq ?aZq ?bZq ?laZq ?lbZq ?iZq ?jZq ?uZq ?_; (case NZq => k_asm); (case aZq => (repeat (first | (with_reducible assumption) | (with_reducible exact List.mem_cons_self ..) | (with_reducible refine List.mem_cons_of_mem _ ?_) | (with_reducible refine List.mem_append_right _ ?_)))); (case bZq => (repeat (first | (with_reducible assumption) | (with_reducible exact List.mem_cons_self ..) | (with_reducible refine List.mem_cons_of_mem _ ?_) | (with_reducible refine List.mem_append_right _ ?_)))); (case laZq => first | with_reducible assumption | exact lstO_of _ _); (case lbZq => first | with_reducible assumption | exact lstO_of _ _); (case iZq => first | with_reducible exact ls_up (by with_reducible assumption) (fun p hp => by (repeat (first | (with_reducible assumption) | (with_reducible exact List.mem_cons_self ..) | (with_reducible refine List.mem_cons_of_mem _ ?_) | (with_reducible refine List.mem_append_right _ ?_))))); (case jZq => first | with_reducible exact ls_up (by with_reducible assumption) (fun p hp => by (repeat (first | (with_reducible assumption) | (with_reducible exact List.mem_cons_self ..) | (with_reducible refine List.mem_cons_of_mem _ ?_) | (with_reducible refine List.mem_append_right _ ?_))))); (case uZq => ke_room); k_whole)) | ((with_reducible show wpAny _ _ (compareOp CmpOp.Eq (Value.ref _) (Value.ref _)) _ _ _); k_dflt (refine' eq_NN ?NZq ?aZq ?bZq ?laZq ?lbZq ?iZq ?jZq ?uZq ?_; (case NZq => k_asm); (case aZq => (repeat (first | (with_reducible assumption) | (with_reducible exact List.mem_cons_self ..) | (with_reducible refine List.mem_cons_of_mem _ ?_) | (with_reducible refine List.mem_append_right _ ?_)))); (case bZq => (repeat (first | (with_reducible assumption) | (with_reducible exact List.mem_cons_self ..) | (with_reducible refine List.mem_cons_of_mem _ ?_) | (with_reducible refine List.mem_append_right _ ?_)))); (case laZq => first | with_reducible assumption | exact lstO_of _ _); (case lbZq => first | with_reducible assumption | exact lstO_of _ _); (case iZq => first | with_reducible exact ls_up (by with_reducible assumption) (fun p hp => by (repeat (first | (with_reducible assumption) | (with_reducible exact List.mem_cons_self ..) | (with_reducible refine List.mem_cons_of_mem _ ?_) | (with_reducible refine List.mem_append_right _ ?_))))); (case jZq => first | with_reducible exact ls_up (by with_reducible assumption) (fun p hp => by (repeat (first | (with_reducible assumption) | (with_reducible exact List.mem_cons_self ..) | (with_reducible refine List.mem_cons_of_mem _ ?_) | (with_reducible refine List.mem_append_right _ ?_))))); (case uZq => ke_room); k_whole)) | ((with_reducible show wpAny _ _ (compareOp CmpOp.Eq (Value.ref _) (Value.ref _)) _ _ _); k_dflt (refine' eq_I ?NZq ?aZq ?bZq ?laZq ?lbZq ?iZq ?jZq ?uZq ?_; (case NZq => k_asm); (case aZq => (repeat (first | (with_reducible assumption) | (with_reducible exact List.mem_cons_self ..) | (with_reducible refine List.mem_cons_of_mem _ ?_) | (with_reducible refine List.mem_append_right _ ?_)))); (case bZq => (repeat (first | (with_reducible assumption) | (with_reducible exact List.mem_cons_self ..) | (with_reducible refine List.mem_cons_of_mem _ ?_) | (with_reducible refine List.mem_append_right _ ?_)))); (case laZq => first | with_reducible assumption | exact lstO_of _ _); (case lbZq => first | with_reducible assumption | exact lstO_of _ _); (case iZq => first | with_reducible assumption | exact IntsAre.nil | exact IntsAre.cons _ _ IntsAre.nil | exact IntsAre.cons _ _ (IntsAre.cons _ _ IntsAre.nil)); (case jZq => first | with_reducible assumption | exact IntsAre.nil | exact IntsAre.cons _ _ IntsAre.nil | exact IntsAre.cons _ _ (IntsAre.cons _ _ IntsAre.nil)); (case uZq => ke_room); k_whole)) | ((with_reducible show wpAny _ _ (call (Value.ref 134) [Value.int _ _, Value.ref _]) _ _ _); k_dflt (refine' SpecW.use2 (by k_asm) (by k_asm) (by k_asm) (by k_asm) (by k_asm) (by first | exact rfl | assumption) (walk_ok _ _ _ _ _ _ _ ?p1Zq ?p2Zq ?p3Zq ?p4Zq ?p5Zq) (by ktr_room) (by ktr_units) ?_; (case p1Zq => (repeat (first | (with_reducible assumption) | (with_reducible exact List.mem_cons_self ..) | (with_reducible refine List.mem_cons_of_mem _ ?_) | (with_reducible refine List.mem_append_right _ ?_)))); (case p2Zq => first | with_reducible assumption | exact lstO_of _ _); (case p3Zq => first | exact ls_up (show LsAre [] [] _ from by with_reducible assumption) (fun p hp => nomatch hp) | exact ls_up (by with_reducible assumption) (fun p hp => by (repeat (first | (with_reducible assumption) | (with_reducible exact List.mem_cons_self ..) | (with_reducible refine List.mem_cons_of_mem _ ?_) | (with_reducible refine List.mem_append_right _ ?_))); done)); (case p4Zq => walk_at "kk LNF"); (case p5Zq => first | exact Nat.zero_le _ | (walk_at "kk LNF")); k_whole); intro led' v' h' tk' hR' F' N'; (obtain ⟨q', qo', qs', sub', hV', hL', hlo', hls'⟩ := hR'); subst hV' hL'; (try simp only [List.nil_append, List.cons_append] at F' N'); k_sweep) | ((with_reducible show wpAny _ _ (call (Value.ref 129) [Value.ref _]) _ _ _); k_dflt (refine' SpecW.use2 (by k_asm) (by k_asm) (by k_asm) (by k_asm) (by k_asm) (by first | exact rfl | assumption) (pieces_ok _ _ _ _ _ ?p1Zq ?p2Zq ?p3Zq) (by ktr_room) (by ktr_units) ?_; (case p1Zq => (repeat (first | (with_reducible assumption) | (with_reducible exact List.mem_cons_self ..) | (with_reducible refine List.mem_cons_of_mem _ ?_) | (with_reducible refine List.mem_append_right _ ?_)))); (case p2Zq => walk_at "kk INF"); (case p3Zq => walk_at "kk LNF"); k_whole); intro led' v' h' tk' hR' F' N'; (obtain ⟨q', ws', k', sub', hV', hL', hls'⟩ := hR'); subst hV' hL'; (try simp only [List.nil_append, List.cons_append] at F' N'); k_sweep) | ((with_reducible show wpAny _ _ (call (Value.ref 122) [Value.ref _]) _ _ _); k_dflt (refine' Spec.use2 (by k_asm) (by k_asm) (by k_asm) (by k_asm) (by k_asm) (by first | exact rfl | assumption) (slashes_ok _ _ _ _ _ ?p1Zq ?p2Zq ?p3Zq) (by ktr_room) (by ktr_units) ?_; (case p1Zq => (repeat (first | (with_reducible assumption) | (with_reducible exact List.mem_cons_self ..) | (with_reducible refine List.mem_cons_of_mem _ ?_) | (with_reducible refine List.mem_append_right _ ?_)))); (case p2Zq => walk_at "kk INF"); (case p3Zq => walk_at "kk LNF"); k_whole); intro led' v' h' tk' hR' hfr' F' N'; (obtain ⟨hL', t', hV'⟩ := hR'); subst hL' hV'; (try simp only [List.nil_append, List.cons_append] at F' N'); (try clear hfr'); k_sweep)); k_steps))
                · exact absurd (by assumption) (q5_stretch hc (i := i) (j := j + 1) (by omega) (by omega))
                · rw [StopG.eq]
                  exact turn_endC (by assumption) (by assumption) (fun p hp => by (repeat (first | (with_reducible assumption) | (with_reducible exact List.mem_cons_self ..) | (with_reducible refine List.mem_cons_of_mem _ ?_) | (with_reducible refine List.mem_append_right _ ?_)))) (by (repeat (first | (with_reducible assumption) | (with_reducible exact List.mem_cons_self ..) | (with_reducible refine List.mem_cons_of_mem _ ?_) | (with_reducible refine List.mem_append_right _ ?_)))) hne2 (by intro z h1 h2 h3; (simp only [List.forall_mem_cons, List.not_mem_nil, false_implies, implies_true, and_true, ne_eq] at h2); first | (simp only [kstB, h1, h2, List.contains_nil, if_false, Bool.false_eq_true, reduceIte]; done) | ((have h4 := h3); (simp only [List.contains_cons, List.contains_nil, Bool.or_false, Bool.or_eq_false_iff, beq_eq_false_iff_ne, ne_eq] at h4); (simp only [kstB, h1, h2, h3, h4, if_false, Bool.false_eq_true, reduceIte]; done)))
              case done2 =>
                rintro u9 h9 tk9 F' N'
                dsimp only at *
                (k_steps; repeat' ((with_reducible refine Stop.un ?_); (first | ((with_reducible show wpAny _ _ (call (Value.builtin "len") [Value.ref _]) _ _ _); k_dflt (refine' len_R ?NZq ?mZq ?iZq ?zZq ?_; (case NZq => k_asm); (case mZq => (repeat (first | (with_reducible assumption) | (with_reducible exact List.mem_cons_self ..) | (with_reducible refine List.mem_cons_of_mem _ ?_) | (with_reducible refine List.mem_append_right _ ?_)))); (case iZq => with_reducible assumption); (case zZq => walk_at "kk LNF"); k_whole); intro t' tk') | ((with_reducible show wpAny _ _ (binaryOp Operator.Add (Value.ref _) (Value.ref _)) _ _ _); k_dflt (refine' add_R ?FZq ?NZq ?aZq ?bZq ?laZq ?lbZq ?zZq ?_; (case FZq => k_asm); (case NZq => k_asm); (case aZq => (repeat (first | (with_reducible assumption) | (with_reducible exact List.mem_cons_self ..) | (with_reducible refine List.mem_cons_of_mem _ ?_) | (with_reducible refine List.mem_append_right _ ?_)))); (case bZq => (repeat (first | (with_reducible assumption) | (with_reducible exact List.mem_cons_self ..) | (with_reducible refine List.mem_cons_of_mem _ ?_) | (with_reducible refine List.mem_append_right _ ?_)))); (case laZq => first | with_reducible assumption | exact lstO_of _ _); (case lbZq => first | with_reducible assumption | exact lstO_of _ _); (case zZq => walk_at "kk LNF"); k_whole); intro D' h' F' N' l1; (try k_lt l1); (try k_sweep)) | ((with_reducible show wpAny _ _ (subscriptTail _ (PySem.Expr.Slice _ _ none _) (Value.ref _) (Value.ref _)) _ _ _); k_dflt (refine' from_R ?FZq ?NZq ?mZq ?iZq ?yZq ?zZq ?_ ?sZq ?tZq; (case FZq => k_asm); (case NZq => k_asm); (case mZq => (repeat (first | (with_reducible assumption) | (with_reducible exact List.mem_cons_self ..) | (with_reducible refine List.mem_cons_of_mem _ ?_) | (with_reducible refine List.mem_append_right _ ?_)))); (case iZq => first | with_reducible assumption | exact lstO_of _ _); (case yZq => walk_at "kk nat"); (case zZq => walk_at "kk LNF"); (case sZq => with_unfolding_all rfl); (case tZq => (intro _; with_unfolding_all rfl)); k_whole); intro D' h' F' N' l1; (try k_lt l1); (try k_sweep)) | ((with_reducible show wpAny _ _ (subscriptTail _ (PySem.Expr.Slice _ _ none _) (Value.ref _) (Value.ref _)) _ _ _); k_dflt (refine' upto_R ?FZq ?NZq ?mZq ?iZq ?yZq ?zZq ?_ ?sZq ?tZq; (case FZq => k_asm); (case NZq => k_asm); (case mZq => (repeat (first | (with_reducible assumption) | (with_reducible exact List.mem_cons_self ..) | (with_reducible refine List.mem_cons_of_mem _ ?_) | (with_reducible refine List.mem_append_right _ ?_)))); (case iZq => first | with_reducible assumption | exact lstO_of _ _); (case yZq => walk_at "kk nat"); (case zZq => walk_at "kk LNF"); (case sZq => with_unfolding_all rfl); (case tZq => (intro _; with_unfolding_all rfl)); k_whole); intro D' h' F' N' l1; (try k_lt l1); (try k_sweep)) | ((with_reducible show wpAny _ _ (subscriptTail _ (PySem.Expr.Slice _ _ none _) (Value.ref _) (Value.ref _)) _ _ _); k_dflt (refine' from_L ?FZq ?NZq ?mZq ?iZq ?yZq ?zZq ?_ ?sZq ?tZq; (case FZq => k_asm); (case NZq => k_asm); (case mZq => (repeat (first | (with_reducible assumption) | (with_reducible exact List.mem_cons_self ..) | (with_reducible refine List.mem_cons_of_mem _ ?_) | (with_reducible refine List.mem_append_right _ ?_)))); (case iZq => walk_at "kk INF"); (case yZq => walk_at "kk nat"); (case zZq => walk_at "kk LNF"); (case sZq => with_unfolding_all rfl); (case tZq => (intro _; with_unfolding_all rfl)); k_whole); intro D' ws' h' F' N' l1 hI'; (try k_lt l1); (try k_sweep)) | ((with_reducible show wpAny _ _ (call (Value.builtin "len") [Value.ref _]) _ _ _); k_dflt (refine' len_L ?NZq ?mZq ?iZq ?zZq ?_; (case NZq => k_asm); (case mZq => (repeat (first | (with_reducible assumption) | (with_reducible exact List.mem_cons_self ..) | (with_reducible refine List.mem_cons_of_mem _ ?_) | (with_reducible refine List.mem_append_right _ ?_)))); (case iZq => walk_at "kk INF"); (case zZq => walk_at "kk LNF"); k_whole); intro t' tk') | ((with_reducible show wpAny _ _ (compareOp CmpOp.NotEq (Value.ref _) (Value.ref _)) _ _ _); k_dflt (refine' ne_NN ?NZq ?aZq ?bZq ?laZq ?lbZq ?iZq ?jZq ?uZq ?_; (case NZq => k_asm); (case aZq => (repeat (first | (with_reducible assumption) | (with_reducible exact List.mem_cons_self ..) | (with_reducible refine List.mem_cons_of_mem _ ?_) | (with_reducible refine List.mem_append_right _ ?_)))); (case bZq => (repeat (first | (with_reducible assumption) | (with_reducible exact List.mem_cons_self ..) | (with_reducible refine List.mem_cons_of_mem _ ?_) | (with_reducible refine List.mem_append_right _ ?_)))); (case laZq => first | with_reducible assumption | exact lstO_of _ _); (case lbZq => first | with_reducible assumption | exact lstO_of _ _); (case iZq => first | with_reducible exact ls_up (by with_reducible assumption) (fun p hp => by (repeat (first | (with_reducible assumption) | (with_reducible exact List.mem_cons_self ..) | (with_reducible refine List.mem_cons_of_mem _ ?_) | (with_reducible refine List.mem_append_right _ ?_))))); (case jZq => first | with_reducible exact ls_up (by with_reducible assumption) (fun p hp => by (repeat (first | (with_reducible assumption) | (with_reducible exact List.mem_cons_self ..) | (with_reducible refine List.mem_cons_of_mem _ ?_) | (with_reducible refine List.mem_append_right _ ?_))))); (case uZq => ke_room); k_whole)) | ((with_reducible show wpAny _ _ (compareOp CmpOp.Eq (Value.ref _) (Value.ref _)) _ _ _); k_dflt (refine' eq_NN ?NZq ?aZq ?bZq ?laZq ?lbZq ?iZq ?jZq ?uZq ?_; (case NZq => k_asm); (case aZq => (repeat (first | (with_reducible assumption) | (with_reducible exact List.mem_cons_self ..) | (with_reducible refine List.mem_cons_of_mem _ ?_) | (with_reducible refine List.mem_append_right _ ?_)))); (case bZq => (repeat (first | (with_reducible assumption) | (with_reducible exact List.mem_cons_self ..) | (with_reducible refine List.mem_cons_of_mem _ ?_) | (with_reducible refine List.mem_append_right _ ?_)))); (case laZq => first | with_reducible assumption | exact lstO_of _ _); (case lbZq => first | with_reducible assumption | exact lstO_of _ _); (case iZq => first | with_reducible exact ls_up (by with_reducible assumption) (fun p hp => by (repeat (first | (with_reducible assumption) | (with_reducible exact List.mem_cons_self ..) | (with_reducible refine List.mem_cons_of_mem _ ?_) | (with_reducible refine List.mem_append_right _ ?_))))); (case jZq => first | with_reducible exact ls_up (by with_reducible assumption) (fun p hp => by (repeat (first | (with_reducible assumption) | (with_reducible exact List.mem_cons_self ..) | (with_reducible refine List.mem_cons_of_mem _ ?_) | (with_reducible refine List.mem_append_right _ ?_))))); (case uZq => ke_room); k_whole)) | ((with_reducible show wpAny _ _ (compareOp CmpOp.Eq (Value.ref _) (Value.ref _)) _ _ _); k_dflt (refine' eq_I ?NZq ?aZq ?bZq ?laZq ?lbZq ?iZq ?jZq ?uZq ?_; (case NZq => k_asm); (case aZq => (repeat (first | (with_reducible assumption) | (with_reducible exact List.mem_cons_self ..) | (with_reducible refine List.mem_cons_of_mem _ ?_) | (with_reducible refine List.mem_append_right _ ?_)))); (case bZq => (repeat (first | (with_reducible assumption) | (with_reducible exact List.mem_cons_self ..) | (with_reducible refine List.mem_cons_of_mem _ ?_) | (with_reducible refine List.mem_append_right _ ?_)))); (case laZq => first | with_reducible assumption | exact lstO_of _ _); (case lbZq => first | with_reducible assumption | exact lstO_of _ _); (case iZq => first | with_reducible assumption | exact IntsAre.nil | exact IntsAre.cons _ _ IntsAre.nil | exact IntsAre.cons _ _ (IntsAre.cons _ _ IntsAre.nil)); (case jZq => first | with_reducible assumption | exact IntsAre.nil | exact IntsAre.cons _ _ IntsAre.nil | exact IntsAre.cons _ _ (IntsAre.cons _ _ IntsAre.nil)); (case uZq => ke_room); k_whole)) | ((with_reducible show wpAny _ _ (call (Value.ref 134) [Value.int _ _, Value.ref _]) _ _ _); k_dflt (refine' SpecW.use2 (by k_asm) (by k_asm) (by k_asm) (by k_asm) (by k_asm) (by first | exact rfl | assumption) (walk_ok _ _ _ _ _ _ _ ?p1Zq ?p2Zq ?p3Zq ?p4Zq ?p5Zq) (by ktr_room) (by ktr_units) ?_; (case p1Zq => (repeat (first | (with_reducible assumption) | (with_reducible exact List.mem_cons_self ..) | (with_reducible refine List.mem_cons_of_mem _ ?_) | (with_reducible refine List.mem_append_right _ ?_)))); (case p2Zq => first | with_reducible assumption | exact lstO_of _ _); (case p3Zq => first | exact ls_up (show LsAre [] [] _ from by with_reducible assumption) (fun p hp => nomatch hp) | exact ls_up (by with_reducible assumption) (fun p hp => by (repeat (first | (with_reducible assumption) | (with_reducible exact List.mem_cons_self ..) | (with_reducible refine List.mem_cons_of_mem _ ?_) | (with_reducible refine List.mem_append_right _ ?_))); done)); (case p4Zq => walk_at "kk LNF"); (case p5Zq => first | exact Nat.zero_le _ | (walk_at "kk LNF")); k_whole); intro led' v' h' tk' hR' F' N'; (obtain ⟨q', qo', qs', sub', hV', hL', hlo', hls'⟩ := hR'); subst hV' hL'; (try simp only [List.nil_append, List.cons_append] at F' N'); k_sweep) | ((with_reducible show wpAny _ _ (call (Value.ref 129) [Value.ref _]) _ _ _); k_dflt (refine' SpecW.use2 (by k_asm) (by k_asm) (by k_asm) (by k_asm) (by k_asm) (by first | exact rfl | assumption) (pieces_ok _ _ _ _ _ ?p1Zq ?p2Zq ?p3Zq) (by ktr_room) (by ktr_units) ?_; (case p1Zq => (repeat (first | (with_reducible assumption) | (with_reducible exact List.mem_cons_self ..) | (with_reducible refine List.mem_cons_of_mem _ ?_) | (with_reducible refine List.mem_append_right _ ?_)))); (case p2Zq => walk_at "kk INF"); (case p3Zq => walk_at "kk LNF"); k_whole); intro led' v' h' tk' hR' F' N'; (obtain ⟨q', ws', k', sub', hV', hL', hls'⟩ := hR'); subst hV' hL'; (try simp only [List.nil_append, List.cons_append] at F' N'); k_sweep) | ((with_reducible show wpAny _ _ (call (Value.ref 122) [Value.ref _]) _ _ _); k_dflt (refine' Spec.use2 (by k_asm) (by k_asm) (by k_asm) (by k_asm) (by k_asm) (by first | exact rfl | assumption) (slashes_ok _ _ _ _ _ ?p1Zq ?p2Zq ?p3Zq) (by ktr_room) (by ktr_units) ?_; (case p1Zq => (repeat (first | (with_reducible assumption) | (with_reducible exact List.mem_cons_self ..) | (with_reducible refine List.mem_cons_of_mem _ ?_) | (with_reducible refine List.mem_append_right _ ?_)))); (case p2Zq => walk_at "kk INF"); (case p3Zq => walk_at "kk LNF"); k_whole); intro led' v' h' tk' hR' hfr' F' N'; (obtain ⟨hL', t', hV'⟩ := hR'); subst hL' hV'; (try simp only [List.nil_append, List.cons_append] at F' N'); (try clear hfr'); k_sweep)); k_steps))
                rw [StopG.eq]
                exact turn_endC (by assumption) (by assumption) (fun p hp => by (repeat (first | (with_reducible assumption) | (with_reducible exact List.mem_cons_self ..) | (with_reducible refine List.mem_cons_of_mem _ ?_) | (with_reducible refine List.mem_append_right _ ?_)))) (by (repeat (first | (with_reducible assumption) | (with_reducible exact List.mem_cons_self ..) | (with_reducible refine List.mem_cons_of_mem _ ?_) | (with_reducible refine List.mem_append_right _ ?_)))) hne (by intro z h1 h2 h3; (have h4 := h3); (simp only [List.contains_cons, List.contains_nil, Bool.or_false, beq_eq_false_iff_ne, ne_eq] at h4); (simp only [kstB, h1, h3, h4, List.contains_nil, if_false, Bool.false_eq_true, reduceIte]))
            case done =>
              rintro u9 h9 tk9 F' N'
              dsimp only at *
              (k_steps; repeat' ((with_reducible refine Stop.un ?_); (first | ((with_reducible show wpAny _ _ (call (Value.builtin "len") [Value.ref _]) _ _ _); k_dflt (refine' len_R ?NZq ?mZq ?iZq ?zZq ?_; (case NZq => k_asm); (case mZq => (repeat (first | (with_reducible assumption) | (with_reducible exact List.mem_cons_self ..) | (with_reducible refine List.mem_cons_of_mem _ ?_) | (with_reducible refine List.mem_append_right _ ?_)))); (case iZq => with_reducible assumption); (case zZq => walk_at "kk LNF"); k_whole); intro t' tk') | ((with_reducible show wpAny _ _ (binaryOp Operator.Add (Value.ref _) (Value.ref _)) _ _ _); k_dflt (refine' add_R ?FZq ?NZq ?aZq ?bZq ?laZq ?lbZq ?zZq ?_; (case FZq => k_asm); (case NZq => k_asm); (case aZq => (repeat (first | (with_reducible assumption) | (with_reducible exact List.mem_cons_self ..) | (with_reducible refine List.mem_cons_of_mem _ ?_) | (with_reducible refine List.mem_append_right _ ?_)))); (case bZq => (repeat (first | (with_reducible assumption) | (with_reducible exact List.mem_cons_self ..) | (with_reducible refine List.mem_cons_of_mem _ ?_) | (with_reducible refine List.mem_append_right _ ?_)))); (case laZq => first | with_reducible assumption | exact lstO_of _ _); (case lbZq => first | with_reducible assumption | exact lstO_of _ _); (case zZq => walk_at "kk LNF"); k_whole); intro D' h' F' N' l1; (try k_lt l1); (try k_sweep)) | ((with_reducible show wpAny _ _ (subscriptTail _ (PySem.Expr.Slice _ _ none _) (Value.ref _) (Value.ref _)) _ _ _); k_dflt (refine' from_R ?FZq ?NZq ?mZq ?iZq ?yZq ?zZq ?_ ?sZq ?tZq; (case FZq => k_asm); (case NZq => k_asm); (case mZq => (repeat (first | (with_reducible assumption) | (with_reducible exact List.mem_cons_self ..) | (with_reducible refine List.mem_cons_of_mem _ ?_) | (with_reducible refine List.mem_append_right _ ?_)))); (case iZq => first | with_reducible assumption | exact lstO_of _ _); (case yZq => walk_at "kk nat"); (case zZq => walk_at "kk LNF"); (case sZq => with_unfolding_all rfl); (case tZq => (intro _; with_unfolding_all rfl)); k_whole); intro D' h' F' N' l1; (try k_lt l1); (try k_sweep)) | ((with_reducible show wpAny _ _ (subscriptTail _ (PySem.Expr.Slice _ _ none _) (Value.ref _) (Value.ref _)) _ _ _); k_dflt (refine' upto_R ?FZq ?NZq ?mZq ?iZq ?yZq ?zZq ?_ ?sZq ?tZq; (case FZq => k_asm); (case NZq => k_asm); (case mZq => (repeat (first | (with_reducible assumption) | (with_reducible exact List.mem_cons_self ..) | (with_reducible refine List.mem_cons_of_mem _ ?_) | (with_reducible refine List.mem_append_right _ ?_)))); (case iZq => first | with_reducible assumption | exact lstO_of _ _); (case yZq => walk_at "kk nat"); (case zZq => walk_at "kk LNF"); (case sZq => with_unfolding_all rfl); (case tZq => (intro _; with_unfolding_all rfl)); k_whole); intro D' h' F' N' l1; (try k_lt l1); (try k_sweep)) | ((with_reducible show wpAny _ _ (subscriptTail _ (PySem.Expr.Slice _ _ none _) (Value.ref _) (Value.ref _)) _ _ _); k_dflt (refine' from_L ?FZq ?NZq ?mZq ?iZq ?yZq ?zZq ?_ ?sZq ?tZq; (case FZq => k_asm); (case NZq => k_asm); (case mZq => (repeat (first | (with_reducible assumption) | (with_reducible exact List.mem_cons_self ..) | (with_reducible refine List.mem_cons_of_mem _ ?_) | (with_reducible refine List.mem_append_right _ ?_)))); (case iZq => walk_at "kk INF"); (case yZq => walk_at "kk nat"); (case zZq => walk_at "kk LNF"); (case sZq => with_unfolding_all rfl); (case tZq => (intro _; with_unfolding_all rfl)); k_whole); intro D' ws' h' F' N' l1 hI'; (try k_lt l1); (try k_sweep)) | ((with_reducible show wpAny _ _ (call (Value.builtin "len") [Value.ref _]) _ _ _); k_dflt (refine' len_L ?NZq ?mZq ?iZq ?zZq ?_; (case NZq => k_asm); (case mZq => (repeat (first | (with_reducible assumption) | (with_reducible exact List.mem_cons_self ..) | (with_reducible refine List.mem_cons_of_mem _ ?_) | (with_reducible refine List.mem_append_right _ ?_)))); (case iZq => walk_at "kk INF"); (case zZq => walk_at "kk LNF"); k_whole); intro t' tk') | ((with_reducible show wpAny _ _ (compareOp CmpOp.NotEq (Value.ref _) (Value.ref _)) _ _ _); k_dflt (refine' ne_NN ?NZq ?aZq ?bZq ?laZq ?lbZq ?iZq ?jZq ?uZq ?_; (case NZq => k_asm); (case aZq => (repeat (first | (with_reducible assumption) | (with_reducible exact List.mem_cons_self ..) | (with_reducible refine List.mem_cons_of_mem _ ?_) | (with_reducible refine List.mem_append_right _ ?_)))); (case bZq => (repeat (first | (with_reducible assumption) | (with_reducible exact List.mem_cons_self ..) | (with_reducible refine List.mem_cons_of_mem _ ?_) | (with_reducible refine List.mem_append_right _ ?_)))); (case laZq => first | with_reducible assumption | exact lstO_of _ _); (case lbZq => first | with_reducible assumption | exact lstO_of _ _); (case iZq => first | with_reducible exact ls_up (by with_reducible assumption) (fun p hp => by (repeat (first | (with_reducible assumption) | (with_reducible exact List.mem_cons_self ..) | (with_reducible refine List.mem_cons_of_mem _ ?_) | (with_reducible refine List.mem_append_right _ ?_))))); (case jZq => first | with_reducible exact ls_up (by with_reducible assumption) (fun p hp => by (repeat (first | (with_reducible assumption) | (with_reducible exact List.mem_cons_self ..) | (with_reducible refine List.mem_cons_of_mem _ ?_) | (with_reducible refine List.mem_append_right _ ?_))))); (case uZq => ke_room); k_whole)) | ((with_reducible show wpAny _ _ (compareOp CmpOp.Eq (Value.ref _) (Value.ref _)) _ _ _); k_dflt (refine' eq_NN ?NZq ?aZq ?bZq ?laZq ?lbZq ?iZq ?jZq ?uZq ?_; (case NZq => k_asm); (case aZq => (repeat (first | (with_reducible assumption) | (with_reducible exact List.mem_cons_self ..) | (with_reducible refine List.mem_cons_of_mem _ ?_) | (with_reducible refine List.mem_append_right _ ?_)))); (case bZq => (repeat (first | (with_reducible assumption) | (with_reducible exact List.mem_cons_self ..) | (with_reducible refine List.mem_cons_of_mem _ ?_) | (with_reducible refine List.mem_append_right _ ?_)))); (case laZq => first | with_reducible assumption | exact lstO_of _ _); (case lbZq => first | with_reducible assumption | exact lstO_of _ _); (case iZq => first | with_reducible exact ls_up (by with_reducible assumption) (fun p hp => by (repeat (first | (with_reducible assumption) | (with_reducible exact List.mem_cons_self ..) | (with_reducible refine List.mem_cons_of_mem _ ?_) | (with_reducible refine List.mem_append_right _ ?_))))); (case jZq => first | with_reducible exact ls_up (by with_reducible assumption) (fun p hp => by (repeat (first | (with_reducible assumption) | (with_reducible exact List.mem_cons_self ..) | (with_reducible refine List.mem_cons_of_mem _ ?_) | (with_reducible refine List.mem_append_right _ ?_))))); (case uZq => ke_room); k_whole)) | ((with_reducible show wpAny _ _ (compareOp CmpOp.Eq (Value.ref _) (Value.ref _)) _ _ _); k_dflt (refine' eq_I ?NZq ?aZq ?bZq ?laZq ?lbZq ?iZq ?jZq ?uZq ?_; (case NZq => k_asm); (case aZq => (repeat (first | (with_reducible assumption) | (with_reducible exact List.mem_cons_self ..) | (with_reducible refine List.mem_cons_of_mem _ ?_) | (with_reducible refine List.mem_append_right _ ?_)))); (case bZq => (repeat (first | (with_reducible assumption) | (with_reducible exact List.mem_cons_self ..) | (with_reducible refine List.mem_cons_of_mem _ ?_) | (with_reducible refine List.mem_append_right _ ?_)))); (case laZq => first | with_reducible assumption | exact lstO_of _ _); (case lbZq => first | with_reducible assumption | exact lstO_of _ _); (case iZq => first | with_reducible assumption | exact IntsAre.nil | exact IntsAre.cons _ _ IntsAre.nil | exact IntsAre.cons _ _ (IntsAre.cons _ _ IntsAre.nil)); (case jZq => first | with_reducible assumption | exact IntsAre.nil | exact IntsAre.cons _ _ IntsAre.nil | exact IntsAre.cons _ _ (IntsAre.cons _ _ IntsAre.nil)); (case uZq => ke_room); k_whole)) | ((with_reducible show wpAny _ _ (call (Value.ref 134) [Value.int _ _, Value.ref _]) _ _ _); k_dflt (refine' SpecW.use2 (by k_asm) (by k_asm) (by k_asm) (by k_asm) (by k_asm) (by first | exact rfl | assumption) (walk_ok _ _ _ _ _ _ _ ?p1Zq ?p2Zq ?p3Zq ?p4Zq ?p5Zq) (by ktr_room) (by ktr_units) ?_; (case p1Zq => (repeat (first | (with_reducible assumption) | (with_reducible exact List.mem_cons_self ..) | (with_reducible refine List.mem_cons_of_mem _ ?_) | (with_reducible refine List.mem_append_right _ ?_)))); (case p2Zq => first | with_reducible assumption | exact lstO_of _ _); (case p3Zq => first | exact ls_up (show LsAre [] [] _ from by with_reducible assumption) (fun p hp => nomatch hp) | exact ls_up (by with_reducible assumption) (fun p hp => by (repeat (first | (with_reducible assumption) | (with_reducible exact List.mem_cons_self ..) | (with_reducible refine List.mem_cons_of_mem _ ?_) | (with_reducible refine List.mem_append_right _ ?_))); done)); (case p4Zq => walk_at "kk LNF"); (case p5Zq => first | exact Nat.zero_le _ | (walk_at "kk LNF")); k_whole); intro led' v' h' tk' hR' F' N'; (obtain ⟨q', qo', qs', sub', hV', hL', hlo', hls'⟩ := hR'); subst hV' hL'; (try simp only [List.nil_append, List.cons_append] at F' N'); k_sweep) | ((with_reducible show wpAny _ _ (call (Value.ref 129) [Value.ref _]) _ _ _); k_dflt (refine' SpecW.use2 (by k_asm) (by k_asm) (by k_asm) (by k_asm) (by k_asm) (by first | exact rfl | assumption) (pieces_ok _ _ _ _ _ ?p1Zq ?p2Zq ?p3Zq) (by ktr_room) (by ktr_units) ?_; (case p1Zq => (repeat (first | (with_reducible assumption) | (with_reducible exact List.mem_cons_self ..) | (with_reducible refine List.mem_cons_of_mem _ ?_) | (with_reducible refine List.mem_append_right _ ?_)))); (case p2Zq => walk_at "kk INF"); (case p3Zq => walk_at "kk LNF"); k_whole); intro led' v' h' tk' hR' F' N'; (obtain ⟨q', ws', k', sub', hV', hL', hls'⟩ := hR'); subst hV' hL'; (try simp only [List.nil_append, List.cons_append] at F' N'); k_sweep) | ((with_reducible show wpAny _ _ (call (Value.ref 122) [Value.ref _]) _ _ _); k_dflt (refine' Spec.use2 (by k_asm) (by k_asm) (by k_asm) (by k_asm) (by k_asm) (by first | exact rfl | assumption) (slashes_ok _ _ _ _ _ ?p1Zq ?p2Zq ?p3Zq) (by ktr_room) (by ktr_units) ?_; (case p1Zq => (repeat (first | (with_reducible assumption) | (with_reducible exact List.mem_cons_self ..) | (with_reducible refine List.mem_cons_of_mem _ ?_) | (with_reducible refine List.mem_append_right _ ?_)))); (case p2Zq => walk_at "kk INF"); (case p3Zq => walk_at "kk LNF"); k_whole); intro led' v' h' tk' hR' hfr' F' N'; (obtain ⟨hL', t', hV'⟩ := hR'); subst hL' hV'; (try simp only [List.nil_append, List.cons_append] at F' N'); (try clear hfr'); k_sweep)); k_steps))
              exact hret [] _ _ _ ⟨rfl, rfl⟩ (by k_asm) (cb_drop (by assumption) (show ∀ p ∈ news, _ from fun p hp => by (repeat (first | (with_reducible assumption) | (with_reducible exact List.mem_cons_self ..) | (with_reducible refine List.mem_cons_of_mem _ ?_) | (with_reducible refine List.mem_append_right _ ?_)))))
end
local macro_rules | `(tactic| walk_at "call ref") => `(tactic| (k_here; (with_reducible show wpAny _ _ (call (Value.ref 115) _) _ _ _); refine Stop.of ?_))
local macro_rules | `(tactic| walk_at "call ref") => `(tactic| (k_here; (with_reducible show wpAny _ _ (call (Value.ref 108) _) _ _ _); refine Stop.of ?_))
local macro_rules | `(tactic| walk_at "call ref") => `(tactic| (k_here; (with_reducible show wpAny _ _ (call (Value.ref 141) _) _ _ _); refine Stop.of ?_))
local macro_rules | `(tactic| walk_at "call type:list") => `(tactic| (k_here; (with_reducible show wpAny _ _ (call (Value.type "list") [Value.bytes (mkB _) _]) _ _ _); refine Stop.of ?_))
set_option maxRecDepth 100000 in
set_option maxHeartbeats 100000000 in
theorem law_holds : PySem.Challenge.rw_ko0129_05.Holds := Mine.hd (by
  k_go0
  (all_goals try k_fold)
  (k_steps; repeat' ((with_reducible refine Stop.un ?_); (first | ((with_reducible show wpAny _ _ (call (Value.type "list") [Value.bytes (mkB _) _]) _ _ _); k_dflt (refine' list_B ?FZq ?NZq ?hZq ?sZq ?zZq ?_; (case FZq => k_asm); (case NZq => k_asm); (case hZq => with_unfolding_all rfl); (case sZq => first | with_reducible assumption | exact normL_small (by8_small _)); (case zZq => exact Nat.le_trans (normL_len _) (by first | omega | ((simp only [List.length_map]); omega))); k_whole); intro D' ws' c' h' tk' F' N' l1 hI'; (try k_lt l1); (try k_sweep)) | ((with_reducible show wpAny _ _ (call (Value.ref 141) [Value.ref _, Value.ref _]) _ _ _); k_dflt (refine' SpecW.use2 (by k_asm) (by k_asm) (by k_asm) (by k_asm) (by k_asm) (by first | exact rfl | assumption) (right_ok _ _ _ _ _ _ _ _ ?p1Zq ?p2Zq ?p3Zq ?p4Zq ?p5Zq ?p6Zq ?p7Zq) (by ktr_room) (by ktr_units) ?_; (case p1Zq => (repeat (first | (with_reducible assumption) | (with_reducible exact List.mem_cons_self ..) | (with_reducible refine List.mem_cons_of_mem _ ?_) | (with_reducible refine List.mem_append_right _ ?_)))); (case p2Zq => (repeat (first | (with_reducible assumption) | (with_reducible exact List.mem_cons_self ..) | (with_reducible refine List.mem_cons_of_mem _ ?_) | (with_reducible refine List.mem_append_right _ ?_)))); (case p3Zq => walk_at "kk INF"); (case p4Zq => walk_at "kk INF"); (case p5Zq => first | omega | ((simp only [List.length_map]); omega)); (case p6Zq => exact Nat.le_trans (normL_len _) (by first | omega | ((simp only [List.length_map]); omega))); (case p7Zq => first | with_reducible assumption | exact by8_pos _); k_whole); intro led' v' h' tk' hR' F' N'; (obtain ⟨hL', hV'⟩ := hR'); subst hL' hV'; (try simp only [List.nil_append, List.cons_append] at F' N'); k_sweep) | ((with_reducible show wpAny _ _ (call (Value.ref 108) [Value.bytes (mkB _) _]) _ _ _); k_dflt (refine' Spec.use2 (by k_asm) (by k_asm) (by k_asm) (by k_asm) (by k_asm) (by first | exact rfl | assumption) (normpath_B _ _ _ ?p1Zq ?p2Zq) (by ktr_room) (by ktr_units) ?_; (case p1Zq => first | omega | ((simp only [List.length_map]); omega)); (case p2Zq => first | with_reducible assumption | exact by8_small _); k_whole); intro led' v' h' tk' hR' hfr' F' N'; (obtain ⟨hL', x', t', hV', hX'⟩ := hR'); subst hL' hV' hX'; (try simp only [List.nil_append, List.cons_append] at F' N'); (try clear hfr'); k_sweep) | ((with_reducible show wpAny _ _ (call (Value.ref 108) [Value.str (mkS _) _]) _ _ _); k_dflt (refine' Spec.use2 (by k_asm) (by k_asm) (by k_asm) (by k_asm) (by k_asm) (by first | exact rfl | assumption) (normpath_S _ _ _ ?p1Zq) (by ktr_room) (by ktr_units) ?_; (case p1Zq => first | omega | ((simp only [List.length_map]); omega)); k_whole); intro led' v' h' tk' hR' hfr' F' N'; (obtain ⟨hL', x', t', hV', hX'⟩ := hR'); subst hL' hV' hX'; (try simp only [List.nil_append, List.cons_append] at F' N'); (try clear hfr'); k_sweep) | ((with_reducible show wpAny _ _ (call (Value.ref 115) [Value.ref _]) _ _ _); k_dflt (refine' SpecP.use2 (by k_asm) (by k_asm) (by k_asm) (by k_asm) (by k_asm) (by first | exact rfl | assumption) (path_ok _ _ _ _ ?p1Zq) (by ktr_room) (by ktr_units) ?hpZq ?_; (case hpZq => first | assumption | exact list_up (by assumption) (Fr.keep (by assumption)) | is_list); (case p1Zq => with_reducible assumption); k_whole); intro led' v' h' tk' hR' hfr' F' N'; (obtain ⟨q', vc', nc', codes', hV', hL', hi1', hz', hc1', hd1'⟩ := hR'); subst hV' hL'; (have hfr2 := hfr' _ (List.Mem.head _)); (try k_lt hfr2); (try simp only [List.nil_append, List.cons_append] at F' N'); (try clear hfr'); k_sweep) | ((with_reducible show wpAny _ _ (call (Value.builtin "ord") [Value.str (mkS [_]) _]) _ _ _); k_dflt (refine' ord_S ?_; k_whole); intro t' tk') | ((with_reducible show wpAny _ _ (call (Value.builtin "chr") [Value.int _ _]) _ _ _); k_dflt (refine' chr_of_range ?h0Zq ?h1Zq ?_; (case h0Zq => omega); (case h1Zq => omega); k_whole))); k_steps))
  unfold Stop
  refine' comp_eval (K := ItemKind.int) (fun _ => true) (fun n => PyData.str ⟨#[n.toNat]⟩) (by assumption) ?hh ?hclos ?hcell ?hkind ?hnames ?hx ?hs ?h
  case hh => with_unfolding_all rfl
  case hclos => with_unfolding_all rfl
  case hcell => decide
  case hkind => with_unfolding_all rfl
  case hnames => decide
  case hx => with_unfolding_all rfl
  case hs => intro _; with_unfolding_all rfl
  (k_steps; repeat' ((with_reducible refine Stop.un ?_); (first | ((with_reducible show wpAny _ _ (call (Value.type "list") [Value.bytes (mkB _) _]) _ _ _); k_dflt (refine' list_B ?FZq ?NZq ?hZq ?sZq ?zZq ?_; (case FZq => k_asm); (case NZq => k_asm); (case hZq => with_unfolding_all rfl); (case sZq => first | with_reducible assumption | exact normL_small (by8_small _)); (case zZq => exact Nat.le_trans (normL_len _) (by first | omega | ((simp only [List.length_map]); omega))); k_whole); intro D' ws' c' h' tk' F' N' l1 hI'; (try k_lt l1); (try k_sweep)) | ((with_reducible show wpAny _ _ (call (Value.ref 141) [Value.ref _, Value.ref _]) _ _ _); k_dflt (refine' SpecW.use2 (by k_asm) (by k_asm) (by k_asm) (by k_asm) (by k_asm) (by first | exact rfl | assumption) (right_ok _ _ _ _ _ _ _ _ ?p1Zq ?p2Zq ?p3Zq ?p4Zq ?p5Zq ?p6Zq ?p7Zq) (by ktr_room) (by ktr_units) ?_; (case p1Zq => (repeat (first | (with_reducible assumption) | (with_reducible exact List.mem_cons_self ..) | (with_reducible refine List.mem_cons_of_mem _ ?_) | (with_reducible refine List.mem_append_right _ ?_)))); (case p2Zq => (repeat (first | (with_reducible assumption) | (with_reducible exact List.mem_cons_self ..) | (with_reducible refine List.mem_cons_of_mem _ ?_) | (with_reducible refine List.mem_append_right _ ?_)))); (case p3Zq => walk_at "kk INF"); (case p4Zq => walk_at "kk INF"); (case p5Zq => first | omega | ((simp only [List.length_map]); omega)); (case p6Zq => exact Nat.le_trans (normL_len _) (by first | omega | ((simp only [List.length_map]); omega))); (case p7Zq => first | with_reducible assumption | exact by8_pos _); k_whole); intro led' v' h' tk' hR' F' N'; (obtain ⟨hL', hV'⟩ := hR'); subst hL' hV'; (try simp only [List.nil_append, List.cons_append] at F' N'); k_sweep) | ((with_reducible show wpAny _ _ (call (Value.ref 108) [Value.bytes (mkB _) _]) _ _ _); k_dflt (refine' Spec.use2 (by k_asm) (by k_asm) (by k_asm) (by k_asm) (by k_asm) (by first | exact rfl | assumption) (normpath_B _ _ _ ?p1Zq ?p2Zq) (by ktr_room) (by ktr_units) ?_; (case p1Zq => first | omega | ((simp only [List.length_map]); omega)); (case p2Zq => first | with_reducible assumption | exact by8_small _); k_whole); intro led' v' h' tk' hR' hfr' F' N'; (obtain ⟨hL', x', t', hV', hX'⟩ := hR'); subst hL' hV' hX'; (try simp only [List.nil_append, List.cons_append] at F' N'); (try clear hfr'); k_sweep) | ((with_reducible show wpAny _ _ (call (Value.ref 108) [Value.str (mkS _) _]) _ _ _); k_dflt (refine' Spec.use2 (by k_asm) (by k_asm) (by k_asm) (by k_asm) (by k_asm) (by first | exact rfl | assumption) (normpath_S _ _ _ ?p1Zq) (by ktr_room) (by ktr_units) ?_; (case p1Zq => first | omega | ((simp only [List.length_map]); omega)); k_whole); intro led' v' h' tk' hR' hfr' F' N'; (obtain ⟨hL', x', t', hV', hX'⟩ := hR'); subst hL' hV' hX'; (try simp only [List.nil_append, List.cons_append] at F' N'); (try clear hfr'); k_sweep) | ((with_reducible show wpAny _ _ (call (Value.ref 115) [Value.ref _]) _ _ _); k_dflt (refine' SpecP.use2 (by k_asm) (by k_asm) (by k_asm) (by k_asm) (by k_asm) (by first | exact rfl | assumption) (path_ok _ _ _ _ ?p1Zq) (by ktr_room) (by ktr_units) ?hpZq ?_; (case hpZq => first | assumption | exact list_up (by assumption) (Fr.keep (by assumption)) | is_list); (case p1Zq => with_reducible assumption); k_whole); intro led' v' h' tk' hR' hfr' F' N'; (obtain ⟨q', vc', nc', codes', hV', hL', hi1', hz', hc1', hd1'⟩ := hR'); subst hV' hL'; (have hfr2 := hfr' _ (List.Mem.head _)); (try k_lt hfr2); (try simp only [List.nil_append, List.cons_append] at F' N'); (try clear hfr'); k_sweep) | ((with_reducible show wpAny _ _ (call (Value.builtin "ord") [Value.str (mkS [_]) _]) _ _ _); k_dflt (refine' ord_S ?_; k_whole); intro t' tk') | ((with_reducible show wpAny _ _ (call (Value.builtin "chr") [Value.int _ _]) _ _ _); k_dflt (refine' chr_of_range ?h0Zq ?h1Zq ?_; (case h0Zq => omega); (case h1Zq => omega); k_whole))); k_steps))
  unfold Stop
  refine' ⟨_, _, _, _, _, rfl, ?hmm, ?haa, ?hll, ?hFF, ?hNN, ?_, ?_, ?_⟩
  case hNN => assumption
  case hFF => assumption
  case hmm => (repeat (first | (with_reducible assumption) | (with_reducible exact List.mem_cons_self ..) | (with_reducible refine List.mem_cons_of_mem _ ?_)))
  case haa => exact (IntsAre.areOf (by with_reducible assumption))
  case hll => exact (by rw [IN_length]; omega)
  · intro C a v s₂ m₂ E' ha hv F8 hk8 hm
    rfl
  · rintro C a v s₂ m₂ E' ha ⟨t8, rfl⟩ _ F8 hk8 hm
    obtain ⟨c, hc1, rfl⟩ := IN_mem ha
    have hc2 : c ≤ 1114111 := by
      rename ∀ c ∈ _, c ≤ 1114111 => hcps
      exact hcps c hc1
    have hn8 := F8.ns
    (k_steps; repeat' ((with_reducible refine Stop.un ?_); (first | ((with_reducible show wpAny _ _ (call (Value.type "list") [Value.bytes (mkB _) _]) _ _ _); k_dflt (refine' list_B ?FZq ?NZq ?hZq ?sZq ?zZq ?_; (case FZq => k_asm); (case NZq => k_asm); (case hZq => with_unfolding_all rfl); (case sZq => first | with_reducible assumption | exact normL_small (by8_small _)); (case zZq => exact Nat.le_trans (normL_len _) (by first | omega | ((simp only [List.length_map]); omega))); k_whole); intro D' ws' c' h' tk' F' N' l1 hI'; (try k_lt l1); (try k_sweep)) | ((with_reducible show wpAny _ _ (call (Value.ref 141) [Value.ref _, Value.ref _]) _ _ _); k_dflt (refine' SpecW.use2 (by k_asm) (by k_asm) (by k_asm) (by k_asm) (by k_asm) (by first | exact rfl | assumption) (right_ok _ _ _ _ _ _ _ _ ?p1Zq ?p2Zq ?p3Zq ?p4Zq ?p5Zq ?p6Zq ?p7Zq) (by ktr_room) (by ktr_units) ?_; (case p1Zq => (repeat (first | (with_reducible assumption) | (with_reducible exact List.mem_cons_self ..) | (with_reducible refine List.mem_cons_of_mem _ ?_) | (with_reducible refine List.mem_append_right _ ?_)))); (case p2Zq => (repeat (first | (with_reducible assumption) | (with_reducible exact List.mem_cons_self ..) | (with_reducible refine List.mem_cons_of_mem _ ?_) | (with_reducible refine List.mem_append_right _ ?_)))); (case p3Zq => walk_at "kk INF"); (case p4Zq => walk_at "kk INF"); (case p5Zq => first | omega | ((simp only [List.length_map]); omega)); (case p6Zq => exact Nat.le_trans (normL_len _) (by first | omega | ((simp only [List.length_map]); omega))); (case p7Zq => first | with_reducible assumption | exact by8_pos _); k_whole); intro led' v' h' tk' hR' F' N'; (obtain ⟨hL', hV'⟩ := hR'); subst hL' hV'; (try simp only [List.nil_append, List.cons_append] at F' N'); k_sweep) | ((with_reducible show wpAny _ _ (call (Value.ref 108) [Value.bytes (mkB _) _]) _ _ _); k_dflt (refine' Spec.use2 (by k_asm) (by k_asm) (by k_asm) (by k_asm) (by k_asm) (by first | exact rfl | assumption) (normpath_B _ _ _ ?p1Zq ?p2Zq) (by ktr_room) (by ktr_units) ?_; (case p1Zq => first | omega | ((simp only [List.length_map]); omega)); (case p2Zq => first | with_reducible assumption | exact by8_small _); k_whole); intro led' v' h' tk' hR' hfr' F' N'; (obtain ⟨hL', x', t', hV', hX'⟩ := hR'); subst hL' hV' hX'; (try simp only [List.nil_append, List.cons_append] at F' N'); (try clear hfr'); k_sweep) | ((with_reducible show wpAny _ _ (call (Value.ref 108) [Value.str (mkS _) _]) _ _ _); k_dflt (refine' Spec.use2 (by k_asm) (by k_asm) (by k_asm) (by k_asm) (by k_asm) (by first | exact rfl | assumption) (normpath_S _ _ _ ?p1Zq) (by ktr_room) (by ktr_units) ?_; (case p1Zq => first | omega | ((simp only [List.length_map]); omega)); k_whole); intro led' v' h' tk' hR' hfr' F' N'; (obtain ⟨hL', x', t', hV', hX'⟩ := hR'); subst hL' hV' hX'; (try simp only [List.nil_append, List.cons_append] at F' N'); (try clear hfr'); k_sweep) | ((with_reducible show wpAny _ _ (call (Value.ref 115) [Value.ref _]) _ _ _); k_dflt (refine' SpecP.use2 (by k_asm) (by k_asm) (by k_asm) (by k_asm) (by k_asm) (by first | exact rfl | assumption) (path_ok _ _ _ _ ?p1Zq) (by ktr_room) (by ktr_units) ?hpZq ?_; (case hpZq => first | assumption | exact list_up (by assumption) (Fr.keep (by assumption)) | is_list); (case p1Zq => with_reducible assumption); k_whole); intro led' v' h' tk' hR' hfr' F' N'; (obtain ⟨q', vc', nc', codes', hV', hL', hi1', hz', hc1', hd1'⟩ := hR'); subst hV' hL'; (have hfr2 := hfr' _ (List.Mem.head _)); (try k_lt hfr2); (try simp only [List.nil_append, List.cons_append] at F' N'); (try clear hfr'); k_sweep) | ((with_reducible show wpAny _ _ (call (Value.builtin "ord") [Value.str (mkS [_]) _]) _ _ _); k_dflt (refine' ord_S ?_; k_whole); intro t' tk') | ((with_reducible show wpAny _ _ (call (Value.builtin "chr") [Value.int _ _]) _ _ _); k_dflt (refine' chr_of_range ?h0Zq ?h1Zq ?_; (case h0Zq => omega); (case h1Zq => omega); k_whole))); k_steps))
    all_goals first | exact Keeps.toks _ | exact Keeps.rfl' | exact Carried.str _ _
  · intro D ys h' tk n' N hne F hca
    (k_steps; repeat' ((with_reducible refine Stop.un ?_); (first | ((with_reducible show wpAny _ _ (call (Value.type "list") [Value.bytes (mkB _) _]) _ _ _); k_dflt (refine' list_B ?FZq ?NZq ?hZq ?sZq ?zZq ?_; (case FZq => k_asm); (case NZq => k_asm); (case hZq => with_unfolding_all rfl); (case sZq => first | with_reducible assumption | exact normL_small (by8_small _)); (case zZq => exact Nat.le_trans (normL_len _) (by first | omega | ((simp only [List.length_map]); omega))); k_whole); intro D' ws' c' h' tk' F' N' l1 hI'; (try k_lt l1); (try k_sweep)) | ((with_reducible show wpAny _ _ (call (Value.ref 141) [Value.ref _, Value.ref _]) _ _ _); k_dflt (refine' SpecW.use2 (by k_asm) (by k_asm) (by k_asm) (by k_asm) (by k_asm) (by first | exact rfl | assumption) (right_ok _ _ _ _ _ _ _ _ ?p1Zq ?p2Zq ?p3Zq ?p4Zq ?p5Zq ?p6Zq ?p7Zq) (by ktr_room) (by ktr_units) ?_; (case p1Zq => (repeat (first | (with_reducible assumption) | (with_reducible exact List.mem_cons_self ..) | (with_reducible refine List.mem_cons_of_mem _ ?_) | (with_reducible refine List.mem_append_right _ ?_)))); (case p2Zq => (repeat (first | (with_reducible assumption) | (with_reducible exact List.mem_cons_self ..) | (with_reducible refine List.mem_cons_of_mem _ ?_) | (with_reducible refine List.mem_append_right _ ?_)))); (case p3Zq => walk_at "kk INF"); (case p4Zq => walk_at "kk INF"); (case p5Zq => first | omega | ((simp only [List.length_map]); omega)); (case p6Zq => exact Nat.le_trans (normL_len _) (by first | omega | ((simp only [List.length_map]); omega))); (case p7Zq => first | with_reducible assumption | exact by8_pos _); k_whole); intro led' v' h' tk' hR' F' N'; (obtain ⟨hL', hV'⟩ := hR'); subst hL' hV'; (try simp only [List.nil_append, List.cons_append] at F' N'); k_sweep) | ((with_reducible show wpAny _ _ (call (Value.ref 108) [Value.bytes (mkB _) _]) _ _ _); k_dflt (refine' Spec.use2 (by k_asm) (by k_asm) (by k_asm) (by k_asm) (by k_asm) (by first | exact rfl | assumption) (normpath_B _ _ _ ?p1Zq ?p2Zq) (by ktr_room) (by ktr_units) ?_; (case p1Zq => first | omega | ((simp only [List.length_map]); omega)); (case p2Zq => first | with_reducible assumption | exact by8_small _); k_whole); intro led' v' h' tk' hR' hfr' F' N'; (obtain ⟨hL', x', t', hV', hX'⟩ := hR'); subst hL' hV' hX'; (try simp only [List.nil_append, List.cons_append] at F' N'); (try clear hfr'); k_sweep) | ((with_reducible show wpAny _ _ (call (Value.ref 108) [Value.str (mkS _) _]) _ _ _); k_dflt (refine' Spec.use2 (by k_asm) (by k_asm) (by k_asm) (by k_asm) (by k_asm) (by first | exact rfl | assumption) (normpath_S _ _ _ ?p1Zq) (by ktr_room) (by ktr_units) ?_; (case p1Zq => first | omega | ((simp only [List.length_map]); omega)); k_whole); intro led' v' h' tk' hR' hfr' F' N'; (obtain ⟨hL', x', t', hV', hX'⟩ := hR'); subst hL' hV' hX'; (try simp only [List.nil_append, List.cons_append] at F' N'); (try clear hfr'); k_sweep) | ((with_reducible show wpAny _ _ (call (Value.ref 115) [Value.ref _]) _ _ _); k_dflt (refine' SpecP.use2 (by k_asm) (by k_asm) (by k_asm) (by k_asm) (by k_asm) (by first | exact rfl | assumption) (path_ok _ _ _ _ ?p1Zq) (by ktr_room) (by ktr_units) ?hpZq ?_; (case hpZq => first | assumption | exact list_up (by assumption) (Fr.keep (by assumption)) | is_list); (case p1Zq => with_reducible assumption); k_whole); intro led' v' h' tk' hR' hfr' F' N'; (obtain ⟨q', vc', nc', codes', hV', hL', hi1', hz', hc1', hd1'⟩ := hR'); subst hV' hL'; (have hfr2 := hfr' _ (List.Mem.head _)); (try k_lt hfr2); (try simp only [List.nil_append, List.cons_append] at F' N'); (try clear hfr'); k_sweep) | ((with_reducible show wpAny _ _ (call (Value.builtin "ord") [Value.str (mkS [_]) _]) _ _ _); k_dflt (refine' ord_S ?_; k_whole); intro t' tk') | ((with_reducible show wpAny _ _ (call (Value.builtin "chr") [Value.int _ _]) _ _ _); k_dflt (refine' chr_of_range ?h0Zq ?h1Zq ?_; (case h0Zq => omega); (case h1Zq => omega); k_whole))); k_steps))
    refine Stop.un ?_
    refine join_chrs (by assumption) lit_nil (List.Mem.head _) (by assumption) (by omega) ?_
    intro t' k'
    clear hca
    (k_steps; repeat' ((with_reducible refine Stop.un ?_); (first | ((with_reducible show wpAny _ _ (call (Value.type "list") [Value.bytes (mkB _) _]) _ _ _); k_dflt (refine' list_B ?FZq ?NZq ?hZq ?sZq ?zZq ?_; (case FZq => k_asm); (case NZq => k_asm); (case hZq => with_unfolding_all rfl); (case sZq => first | with_reducible assumption | exact normL_small (by8_small _)); (case zZq => exact Nat.le_trans (normL_len _) (by first | omega | ((simp only [List.length_map]); omega))); k_whole); intro D' ws' c' h' tk' F' N' l1 hI'; (try k_lt l1); (try k_sweep)) | ((with_reducible show wpAny _ _ (call (Value.ref 141) [Value.ref _, Value.ref _]) _ _ _); k_dflt (refine' SpecW.use2 (by k_asm) (by k_asm) (by k_asm) (by k_asm) (by k_asm) (by first | exact rfl | assumption) (right_ok _ _ _ _ _ _ _ _ ?p1Zq ?p2Zq ?p3Zq ?p4Zq ?p5Zq ?p6Zq ?p7Zq) (by ktr_room) (by ktr_units) ?_; (case p1Zq => (repeat (first | (with_reducible assumption) | (with_reducible exact List.mem_cons_self ..) | (with_reducible refine List.mem_cons_of_mem _ ?_) | (with_reducible refine List.mem_append_right _ ?_)))); (case p2Zq => (repeat (first | (with_reducible assumption) | (with_reducible exact List.mem_cons_self ..) | (with_reducible refine List.mem_cons_of_mem _ ?_) | (with_reducible refine List.mem_append_right _ ?_)))); (case p3Zq => walk_at "kk INF"); (case p4Zq => walk_at "kk INF"); (case p5Zq => first | omega | ((simp only [List.length_map]); omega)); (case p6Zq => exact Nat.le_trans (normL_len _) (by first | omega | ((simp only [List.length_map]); omega))); (case p7Zq => first | with_reducible assumption | exact by8_pos _); k_whole); intro led' v' h' tk' hR' F' N'; (obtain ⟨hL', hV'⟩ := hR'); subst hL' hV'; (try simp only [List.nil_append, List.cons_append] at F' N'); k_sweep) | ((with_reducible show wpAny _ _ (call (Value.ref 108) [Value.bytes (mkB _) _]) _ _ _); k_dflt (refine' Spec.use2 (by k_asm) (by k_asm) (by k_asm) (by k_asm) (by k_asm) (by first | exact rfl | assumption) (normpath_B _ _ _ ?p1Zq ?p2Zq) (by ktr_room) (by ktr_units) ?_; (case p1Zq => first | omega | ((simp only [List.length_map]); omega)); (case p2Zq => first | with_reducible assumption | exact by8_small _); k_whole); intro led' v' h' tk' hR' hfr' F' N'; (obtain ⟨hL', x', t', hV', hX'⟩ := hR'); subst hL' hV' hX'; (try simp only [List.nil_append, List.cons_append] at F' N'); (try clear hfr'); k_sweep) | ((with_reducible show wpAny _ _ (call (Value.ref 108) [Value.str (mkS _) _]) _ _ _); k_dflt (refine' Spec.use2 (by k_asm) (by k_asm) (by k_asm) (by k_asm) (by k_asm) (by first | exact rfl | assumption) (normpath_S _ _ _ ?p1Zq) (by ktr_room) (by ktr_units) ?_; (case p1Zq => first | omega | ((simp only [List.length_map]); omega)); k_whole); intro led' v' h' tk' hR' hfr' F' N'; (obtain ⟨hL', x', t', hV', hX'⟩ := hR'); subst hL' hV' hX'; (try simp only [List.nil_append, List.cons_append] at F' N'); (try clear hfr'); k_sweep) | ((with_reducible show wpAny _ _ (call (Value.ref 115) [Value.ref _]) _ _ _); k_dflt (refine' SpecP.use2 (by k_asm) (by k_asm) (by k_asm) (by k_asm) (by k_asm) (by first | exact rfl | assumption) (path_ok _ _ _ _ ?p1Zq) (by ktr_room) (by ktr_units) ?hpZq ?_; (case hpZq => first | assumption | exact list_up (by assumption) (Fr.keep (by assumption)) | is_list); (case p1Zq => with_reducible assumption); k_whole); intro led' v' h' tk' hR' hfr' F' N'; (obtain ⟨q', vc', nc', codes', hV', hL', hi1', hz', hc1', hd1'⟩ := hR'); subst hV' hL'; (have hfr2 := hfr' _ (List.Mem.head _)); (try k_lt hfr2); (try simp only [List.nil_append, List.cons_append] at F' N'); (try clear hfr'); k_sweep) | ((with_reducible show wpAny _ _ (call (Value.builtin "ord") [Value.str (mkS [_]) _]) _ _ _); k_dflt (refine' ord_S ?_; k_whole); intro t' tk') | ((with_reducible show wpAny _ _ (call (Value.builtin "chr") [Value.int _ _]) _ _ _); k_dflt (refine' chr_of_range ?h0Zq ?h1Zq ?_; (case h0Zq => omega); (case h1Zq => omega); k_whole))); k_steps))
    refine Stop.un ?_
    refine' comp_signs (fun _ => true) (fun c => PyData.int (c : Int)) (by assumption) ?hh ?hclos ?hcell ?hkind ?hnames ?hx ?hs ?h
    case hh => with_unfolding_all rfl
    case hclos => with_unfolding_all rfl
    case hcell => decide
    case hkind => with_unfolding_all rfl
    case hnames => decide
    case hx => with_unfolding_all rfl
    case hs => intro _; with_unfolding_all rfl
    (k_steps; repeat' ((with_reducible refine Stop.un ?_); (first | ((with_reducible show wpAny _ _ (call (Value.type "list") [Value.bytes (mkB _) _]) _ _ _); k_dflt (refine' list_B ?FZq ?NZq ?hZq ?sZq ?zZq ?_; (case FZq => k_asm); (case NZq => k_asm); (case hZq => with_unfolding_all rfl); (case sZq => first | with_reducible assumption | exact normL_small (by8_small _)); (case zZq => exact Nat.le_trans (normL_len _) (by first | omega | ((simp only [List.length_map]); omega))); k_whole); intro D' ws' c' h' tk' F' N' l1 hI'; (try k_lt l1); (try k_sweep)) | ((with_reducible show wpAny _ _ (call (Value.ref 141) [Value.ref _, Value.ref _]) _ _ _); k_dflt (refine' SpecW.use2 (by k_asm) (by k_asm) (by k_asm) (by k_asm) (by k_asm) (by first | exact rfl | assumption) (right_ok _ _ _ _ _ _ _ _ ?p1Zq ?p2Zq ?p3Zq ?p4Zq ?p5Zq ?p6Zq ?p7Zq) (by ktr_room) (by ktr_units) ?_; (case p1Zq => (repeat (first | (with_reducible assumption) | (with_reducible exact List.mem_cons_self ..) | (with_reducible refine List.mem_cons_of_mem _ ?_) | (with_reducible refine List.mem_append_right _ ?_)))); (case p2Zq => (repeat (first | (with_reducible assumption) | (with_reducible exact List.mem_cons_self ..) | (with_reducible refine List.mem_cons_of_mem _ ?_) | (with_reducible refine List.mem_append_right _ ?_)))); (case p3Zq => walk_at "kk INF"); (case p4Zq => walk_at "kk INF"); (case p5Zq => first | omega | ((simp only [List.length_map]); omega)); (case p6Zq => exact Nat.le_trans (normL_len _) (by first | omega | ((simp only [List.length_map]); omega))); (case p7Zq => first | with_reducible assumption | exact by8_pos _); k_whole); intro led' v' h' tk' hR' F' N'; (obtain ⟨hL', hV'⟩ := hR'); subst hL' hV'; (try simp only [List.nil_append, List.cons_append] at F' N'); k_sweep) | ((with_reducible show wpAny _ _ (call (Value.ref 108) [Value.bytes (mkB _) _]) _ _ _); k_dflt (refine' Spec.use2 (by k_asm) (by k_asm) (by k_asm) (by k_asm) (by k_asm) (by first | exact rfl | assumption) (normpath_B _ _ _ ?p1Zq ?p2Zq) (by ktr_room) (by ktr_units) ?_; (case p1Zq => first | omega | ((simp only [List.length_map]); omega)); (case p2Zq => first | with_reducible assumption | exact by8_small _); k_whole); intro led' v' h' tk' hR' hfr' F' N'; (obtain ⟨hL', x', t', hV', hX'⟩ := hR'); subst hL' hV' hX'; (try simp only [List.nil_append, List.cons_append] at F' N'); (try clear hfr'); k_sweep) | ((with_reducible show wpAny _ _ (call (Value.ref 108) [Value.str (mkS _) _]) _ _ _); k_dflt (refine' Spec.use2 (by k_asm) (by k_asm) (by k_asm) (by k_asm) (by k_asm) (by first | exact rfl | assumption) (normpath_S _ _ _ ?p1Zq) (by ktr_room) (by ktr_units) ?_; (case p1Zq => first | omega | ((simp only [List.length_map]); omega)); k_whole); intro led' v' h' tk' hR' hfr' F' N'; (obtain ⟨hL', x', t', hV', hX'⟩ := hR'); subst hL' hV' hX'; (try simp only [List.nil_append, List.cons_append] at F' N'); (try clear hfr'); k_sweep) | ((with_reducible show wpAny _ _ (call (Value.ref 115) [Value.ref _]) _ _ _); k_dflt (refine' SpecP.use2 (by k_asm) (by k_asm) (by k_asm) (by k_asm) (by k_asm) (by first | exact rfl | assumption) (path_ok _ _ _ _ ?p1Zq) (by ktr_room) (by ktr_units) ?hpZq ?_; (case hpZq => first | assumption | exact list_up (by assumption) (Fr.keep (by assumption)) | is_list); (case p1Zq => with_reducible assumption); k_whole); intro led' v' h' tk' hR' hfr' F' N'; (obtain ⟨q', vc', nc', codes', hV', hL', hi1', hz', hc1', hd1'⟩ := hR'); subst hV' hL'; (have hfr2 := hfr' _ (List.Mem.head _)); (try k_lt hfr2); (try simp only [List.nil_append, List.cons_append] at F' N'); (try clear hfr'); k_sweep) | ((with_reducible show wpAny _ _ (call (Value.builtin "ord") [Value.str (mkS [_]) _]) _ _ _); k_dflt (refine' ord_S ?_; k_whole); intro t' tk') | ((with_reducible show wpAny _ _ (call (Value.builtin "chr") [Value.int _ _]) _ _ _); k_dflt (refine' chr_of_range ?h0Zq ?h1Zq ?_; (case h0Zq => omega); (case h1Zq => omega); k_whole))); k_steps))
    refine Stop.un ?_
    refine' ⟨_, _, _, rfl, ?hll, ?hFF, ?hNN, ?_, ?_, ?_⟩
    case hNN => assumption
    case hFF => assumption
    case hll => exact (Nat.le_trans (normL_len _) (by omega))
    · intro C c t8 s₂ m₂ E' hc8 F8 hk8 hm
      rfl
    · intro C c t8 s₂ m₂ E' hc8 _ F8 hk8 hm
      have hn8 := F8.ns
      (k_steps; repeat' ((with_reducible refine Stop.un ?_); (first | ((with_reducible show wpAny _ _ (call (Value.type "list") [Value.bytes (mkB _) _]) _ _ _); k_dflt (refine' list_B ?FZq ?NZq ?hZq ?sZq ?zZq ?_; (case FZq => k_asm); (case NZq => k_asm); (case hZq => with_unfolding_all rfl); (case sZq => first | with_reducible assumption | exact normL_small (by8_small _)); (case zZq => exact Nat.le_trans (normL_len _) (by first | omega | ((simp only [List.length_map]); omega))); k_whole); intro D' ws' c' h' tk' F' N' l1 hI'; (try k_lt l1); (try k_sweep)) | ((with_reducible show wpAny _ _ (call (Value.ref 141) [Value.ref _, Value.ref _]) _ _ _); k_dflt (refine' SpecW.use2 (by k_asm) (by k_asm) (by k_asm) (by k_asm) (by k_asm) (by first | exact rfl | assumption) (right_ok _ _ _ _ _ _ _ _ ?p1Zq ?p2Zq ?p3Zq ?p4Zq ?p5Zq ?p6Zq ?p7Zq) (by ktr_room) (by ktr_units) ?_; (case p1Zq => (repeat (first | (with_reducible assumption) | (with_reducible exact List.mem_cons_self ..) | (with_reducible refine List.mem_cons_of_mem _ ?_) | (with_reducible refine List.mem_append_right _ ?_)))); (case p2Zq => (repeat (first | (with_reducible assumption) | (with_reducible exact List.mem_cons_self ..) | (with_reducible refine List.mem_cons_of_mem _ ?_) | (with_reducible refine List.mem_append_right _ ?_)))); (case p3Zq => walk_at "kk INF"); (case p4Zq => walk_at "kk INF"); (case p5Zq => first | omega | ((simp only [List.length_map]); omega)); (case p6Zq => exact Nat.le_trans (normL_len _) (by first | omega | ((simp only [List.length_map]); omega))); (case p7Zq => first | with_reducible assumption | exact by8_pos _); k_whole); intro led' v' h' tk' hR' F' N'; (obtain ⟨hL', hV'⟩ := hR'); subst hL' hV'; (try simp only [List.nil_append, List.cons_append] at F' N'); k_sweep) | ((with_reducible show wpAny _ _ (call (Value.ref 108) [Value.bytes (mkB _) _]) _ _ _); k_dflt (refine' Spec.use2 (by k_asm) (by k_asm) (by k_asm) (by k_asm) (by k_asm) (by first | exact rfl | assumption) (normpath_B _ _ _ ?p1Zq ?p2Zq) (by ktr_room) (by ktr_units) ?_; (case p1Zq => first | omega | ((simp only [List.length_map]); omega)); (case p2Zq => first | with_reducible assumption | exact by8_small _); k_whole); intro led' v' h' tk' hR' hfr' F' N'; (obtain ⟨hL', x', t', hV', hX'⟩ := hR'); subst hL' hV' hX'; (try simp only [List.nil_append, List.cons_append] at F' N'); (try clear hfr'); k_sweep) | ((with_reducible show wpAny _ _ (call (Value.ref 108) [Value.str (mkS _) _]) _ _ _); k_dflt (refine' Spec.use2 (by k_asm) (by k_asm) (by k_asm) (by k_asm) (by k_asm) (by first | exact rfl | assumption) (normpath_S _ _ _ ?p1Zq) (by ktr_room) (by ktr_units) ?_; (case p1Zq => first | omega | ((simp only [List.length_map]); omega)); k_whole); intro led' v' h' tk' hR' hfr' F' N'; (obtain ⟨hL', x', t', hV', hX'⟩ := hR'); subst hL' hV' hX'; (try simp only [List.nil_append, List.cons_append] at F' N'); (try clear hfr'); k_sweep) | ((with_reducible show wpAny _ _ (call (Value.ref 115) [Value.ref _]) _ _ _); k_dflt (refine' SpecP.use2 (by k_asm) (by k_asm) (by k_asm) (by k_asm) (by k_asm) (by first | exact rfl | assumption) (path_ok _ _ _ _ ?p1Zq) (by ktr_room) (by ktr_units) ?hpZq ?_; (case hpZq => first | assumption | exact list_up (by assumption) (Fr.keep (by assumption)) | is_list); (case p1Zq => with_reducible assumption); k_whole); intro led' v' h' tk' hR' hfr' F' N'; (obtain ⟨q', vc', nc', codes', hV', hL', hi1', hz', hc1', hd1'⟩ := hR'); subst hV' hL'; (have hfr2 := hfr' _ (List.Mem.head _)); (try k_lt hfr2); (try simp only [List.nil_append, List.cons_append] at F' N'); (try clear hfr'); k_sweep) | ((with_reducible show wpAny _ _ (call (Value.builtin "ord") [Value.str (mkS [_]) _]) _ _ _); k_dflt (refine' ord_S ?_; k_whole); intro t' tk') | ((with_reducible show wpAny _ _ (call (Value.builtin "chr") [Value.int _ _]) _ _ _); k_dflt (refine' chr_of_range ?h0Zq ?h1Zq ?_; (case h0Zq => omega); (case h1Zq => omega); k_whole))); k_steps))
      all_goals first | exact Keeps.toks _ | exact Keeps.rfl' | exact Carried.int _ _
    · intro D ys h' tk n' N hne F hca
      have hI9 := carried_ints (f := fun c : Nat => (c : Int)) hca
      rw [codes_IN] at hI9
      clear hca
      (k_steps; repeat' ((with_reducible refine Stop.un ?_); (first | ((with_reducible show wpAny _ _ (call (Value.type "list") [Value.bytes (mkB _) _]) _ _ _); k_dflt (refine' list_B ?FZq ?NZq ?hZq ?sZq ?zZq ?_; (case FZq => k_asm); (case NZq => k_asm); (case hZq => with_unfolding_all rfl); (case sZq => first | with_reducible assumption | exact normL_small (by8_small _)); (case zZq => exact Nat.le_trans (normL_len _) (by first | omega | ((simp only [List.length_map]); omega))); k_whole); intro D' ws' c' h' tk' F' N' l1 hI'; (try k_lt l1); (try k_sweep)) | ((with_reducible show wpAny _ _ (call (Value.ref 141) [Value.ref _, Value.ref _]) _ _ _); k_dflt (refine' SpecW.use2 (by k_asm) (by k_asm) (by k_asm) (by k_asm) (by k_asm) (by first | exact rfl | assumption) (right_ok _ _ _ _ _ _ _ _ ?p1Zq ?p2Zq ?p3Zq ?p4Zq ?p5Zq ?p6Zq ?p7Zq) (by ktr_room) (by ktr_units) ?_; (case p1Zq => (repeat (first | (with_reducible assumption) | (with_reducible exact List.mem_cons_self ..) | (with_reducible refine List.mem_cons_of_mem _ ?_) | (with_reducible refine List.mem_append_right _ ?_)))); (case p2Zq => (repeat (first | (with_reducible assumption) | (with_reducible exact List.mem_cons_self ..) | (with_reducible refine List.mem_cons_of_mem _ ?_) | (with_reducible refine List.mem_append_right _ ?_)))); (case p3Zq => walk_at "kk INF"); (case p4Zq => walk_at "kk INF"); (case p5Zq => first | omega | ((simp only [List.length_map]); omega)); (case p6Zq => exact Nat.le_trans (normL_len _) (by first | omega | ((simp only [List.length_map]); omega))); (case p7Zq => first | with_reducible assumption | exact by8_pos _); k_whole); intro led' v' h' tk' hR' F' N'; (obtain ⟨hL', hV'⟩ := hR'); subst hL' hV'; (try simp only [List.nil_append, List.cons_append] at F' N'); k_sweep) | ((with_reducible show wpAny _ _ (call (Value.ref 108) [Value.bytes (mkB _) _]) _ _ _); k_dflt (refine' Spec.use2 (by k_asm) (by k_asm) (by k_asm) (by k_asm) (by k_asm) (by first | exact rfl | assumption) (normpath_B _ _ _ ?p1Zq ?p2Zq) (by ktr_room) (by ktr_units) ?_; (case p1Zq => first | omega | ((simp only [List.length_map]); omega)); (case p2Zq => first | with_reducible assumption | exact by8_small _); k_whole); intro led' v' h' tk' hR' hfr' F' N'; (obtain ⟨hL', x', t', hV', hX'⟩ := hR'); subst hL' hV' hX'; (try simp only [List.nil_append, List.cons_append] at F' N'); (try clear hfr'); k_sweep) | ((with_reducible show wpAny _ _ (call (Value.ref 108) [Value.str (mkS _) _]) _ _ _); k_dflt (refine' Spec.use2 (by k_asm) (by k_asm) (by k_asm) (by k_asm) (by k_asm) (by first | exact rfl | assumption) (normpath_S _ _ _ ?p1Zq) (by ktr_room) (by ktr_units) ?_; (case p1Zq => first | omega | ((simp only [List.length_map]); omega)); k_whole); intro led' v' h' tk' hR' hfr' F' N'; (obtain ⟨hL', x', t', hV', hX'⟩ := hR'); subst hL' hV' hX'; (try simp only [List.nil_append, List.cons_append] at F' N'); (try clear hfr'); k_sweep) | ((with_reducible show wpAny _ _ (call (Value.ref 115) [Value.ref _]) _ _ _); k_dflt (refine' SpecP.use2 (by k_asm) (by k_asm) (by k_asm) (by k_asm) (by k_asm) (by first | exact rfl | assumption) (path_ok _ _ _ _ ?p1Zq) (by ktr_room) (by ktr_units) ?hpZq ?_; (case hpZq => first | assumption | exact list_up (by assumption) (Fr.keep (by assumption)) | is_list); (case p1Zq => with_reducible assumption); k_whole); intro led' v' h' tk' hR' hfr' F' N'; (obtain ⟨q', vc', nc', codes', hV', hL', hi1', hz', hc1', hd1'⟩ := hR'); subst hV' hL'; (have hfr2 := hfr' _ (List.Mem.head _)); (try k_lt hfr2); (try simp only [List.nil_append, List.cons_append] at F' N'); (try clear hfr'); k_sweep) | ((with_reducible show wpAny _ _ (call (Value.builtin "ord") [Value.str (mkS [_]) _]) _ _ _); k_dflt (refine' ord_S ?_; k_whole); intro t' tk') | ((with_reducible show wpAny _ _ (call (Value.builtin "chr") [Value.int _ _]) _ _ _); k_dflt (refine' chr_of_range ?h0Zq ?h1Zq ?_; (case h0Zq => omega); (case h1Zq => omega); k_whole))); k_steps))
      unfold Stop
      refine' comp_asg (K := ItemKind.int) (fun _ => true) (fun (n : Int) => PyData.int ((n - 1).fmod 255 + 1)) (by assumption) ?hsw ?hL ?hh ?hclos ?hcell ?hkind ?hnames ?hx ?hy ?hp ?hs ?h
      case hsw => with_unfolding_all rfl
      case hL => with_unfolding_all rfl
      case hy => with_unfolding_all rfl
      case hp => with_unfolding_all rfl
      case hh => with_unfolding_all rfl
      case hclos => with_unfolding_all rfl
      case hcell => decide
      case hkind => with_unfolding_all rfl
      case hnames => decide
      case hx => with_unfolding_all rfl
      case hs => intro _; with_unfolding_all rfl
      (k_steps; repeat' ((with_reducible refine Stop.un ?_); (first | ((with_reducible show wpAny _ _ (call (Value.type "list") [Value.bytes (mkB _) _]) _ _ _); k_dflt (refine' list_B ?FZq ?NZq ?hZq ?sZq ?zZq ?_; (case FZq => k_asm); (case NZq => k_asm); (case hZq => with_unfolding_all rfl); (case sZq => first | with_reducible assumption | exact normL_small (by8_small _)); (case zZq => exact Nat.le_trans (normL_len _) (by first | omega | ((simp only [List.length_map]); omega))); k_whole); intro D' ws' c' h' tk' F' N' l1 hI'; (try k_lt l1); (try k_sweep)) | ((with_reducible show wpAny _ _ (call (Value.ref 141) [Value.ref _, Value.ref _]) _ _ _); k_dflt (refine' SpecW.use2 (by k_asm) (by k_asm) (by k_asm) (by k_asm) (by k_asm) (by first | exact rfl | assumption) (right_ok _ _ _ _ _ _ _ _ ?p1Zq ?p2Zq ?p3Zq ?p4Zq ?p5Zq ?p6Zq ?p7Zq) (by ktr_room) (by ktr_units) ?_; (case p1Zq => (repeat (first | (with_reducible assumption) | (with_reducible exact List.mem_cons_self ..) | (with_reducible refine List.mem_cons_of_mem _ ?_) | (with_reducible refine List.mem_append_right _ ?_)))); (case p2Zq => (repeat (first | (with_reducible assumption) | (with_reducible exact List.mem_cons_self ..) | (with_reducible refine List.mem_cons_of_mem _ ?_) | (with_reducible refine List.mem_append_right _ ?_)))); (case p3Zq => walk_at "kk INF"); (case p4Zq => walk_at "kk INF"); (case p5Zq => first | omega | ((simp only [List.length_map]); omega)); (case p6Zq => exact Nat.le_trans (normL_len _) (by first | omega | ((simp only [List.length_map]); omega))); (case p7Zq => first | with_reducible assumption | exact by8_pos _); k_whole); intro led' v' h' tk' hR' F' N'; (obtain ⟨hL', hV'⟩ := hR'); subst hL' hV'; (try simp only [List.nil_append, List.cons_append] at F' N'); k_sweep) | ((with_reducible show wpAny _ _ (call (Value.ref 108) [Value.bytes (mkB _) _]) _ _ _); k_dflt (refine' Spec.use2 (by k_asm) (by k_asm) (by k_asm) (by k_asm) (by k_asm) (by first | exact rfl | assumption) (normpath_B _ _ _ ?p1Zq ?p2Zq) (by ktr_room) (by ktr_units) ?_; (case p1Zq => first | omega | ((simp only [List.length_map]); omega)); (case p2Zq => first | with_reducible assumption | exact by8_small _); k_whole); intro led' v' h' tk' hR' hfr' F' N'; (obtain ⟨hL', x', t', hV', hX'⟩ := hR'); subst hL' hV' hX'; (try simp only [List.nil_append, List.cons_append] at F' N'); (try clear hfr'); k_sweep) | ((with_reducible show wpAny _ _ (call (Value.ref 108) [Value.str (mkS _) _]) _ _ _); k_dflt (refine' Spec.use2 (by k_asm) (by k_asm) (by k_asm) (by k_asm) (by k_asm) (by first | exact rfl | assumption) (normpath_S _ _ _ ?p1Zq) (by ktr_room) (by ktr_units) ?_; (case p1Zq => first | omega | ((simp only [List.length_map]); omega)); k_whole); intro led' v' h' tk' hR' hfr' F' N'; (obtain ⟨hL', x', t', hV', hX'⟩ := hR'); subst hL' hV' hX'; (try simp only [List.nil_append, List.cons_append] at F' N'); (try clear hfr'); k_sweep) | ((with_reducible show wpAny _ _ (call (Value.ref 115) [Value.ref _]) _ _ _); k_dflt (refine' SpecP.use2 (by k_asm) (by k_asm) (by k_asm) (by k_asm) (by k_asm) (by first | exact rfl | assumption) (path_ok _ _ _ _ ?p1Zq) (by ktr_room) (by ktr_units) ?hpZq ?_; (case hpZq => first | assumption | exact list_up (by assumption) (Fr.keep (by assumption)) | is_list); (case p1Zq => with_reducible assumption); k_whole); intro led' v' h' tk' hR' hfr' F' N'; (obtain ⟨q', vc', nc', codes', hV', hL', hi1', hz', hc1', hd1'⟩ := hR'); subst hV' hL'; (have hfr2 := hfr' _ (List.Mem.head _)); (try k_lt hfr2); (try simp only [List.nil_append, List.cons_append] at F' N'); (try clear hfr'); k_sweep) | ((with_reducible show wpAny _ _ (call (Value.builtin "ord") [Value.str (mkS [_]) _]) _ _ _); k_dflt (refine' ord_S ?_; k_whole); intro t' tk') | ((with_reducible show wpAny _ _ (call (Value.builtin "chr") [Value.int _ _]) _ _ _); k_dflt (refine' chr_of_range ?h0Zq ?h1Zq ?_; (case h0Zq => omega); (case h1Zq => omega); k_whole))); k_steps))
      unfold Stop
      refine' ⟨_, _, _, _, _, rfl, ?hmm, ?haa, ?hll, ?hFF, ?hNN, ?_, ?_, ?_⟩
      case hNN => assumption
      case hFF => assumption
      case hmm => (repeat (first | (with_reducible assumption) | (with_reducible exact List.mem_cons_self ..) | (with_reducible refine List.mem_cons_of_mem _ ?_)))
      case haa => exact (IntsAre.areOf (by with_reducible assumption))
      case hll => exact (by rw [IN_length]; omega)
      · intro C a v s₂ m₂ E' ha hv F8 hk8 hm
        rfl
      · rintro C a v s₂ m₂ E' ha ⟨t8, rfl⟩ _ F8 hk8 hm
        have hn8 := F8.ns
        (k_steps; repeat' ((with_reducible refine Stop.un ?_); (first | ((with_reducible show wpAny _ _ (call (Value.type "list") [Value.bytes (mkB _) _]) _ _ _); k_dflt (refine' list_B ?FZq ?NZq ?hZq ?sZq ?zZq ?_; (case FZq => k_asm); (case NZq => k_asm); (case hZq => with_unfolding_all rfl); (case sZq => first | with_reducible assumption | exact normL_small (by8_small _)); (case zZq => exact Nat.le_trans (normL_len _) (by first | omega | ((simp only [List.length_map]); omega))); k_whole); intro D' ws' c' h' tk' F' N' l1 hI'; (try k_lt l1); (try k_sweep)) | ((with_reducible show wpAny _ _ (call (Value.ref 141) [Value.ref _, Value.ref _]) _ _ _); k_dflt (refine' SpecW.use2 (by k_asm) (by k_asm) (by k_asm) (by k_asm) (by k_asm) (by first | exact rfl | assumption) (right_ok _ _ _ _ _ _ _ _ ?p1Zq ?p2Zq ?p3Zq ?p4Zq ?p5Zq ?p6Zq ?p7Zq) (by ktr_room) (by ktr_units) ?_; (case p1Zq => (repeat (first | (with_reducible assumption) | (with_reducible exact List.mem_cons_self ..) | (with_reducible refine List.mem_cons_of_mem _ ?_) | (with_reducible refine List.mem_append_right _ ?_)))); (case p2Zq => (repeat (first | (with_reducible assumption) | (with_reducible exact List.mem_cons_self ..) | (with_reducible refine List.mem_cons_of_mem _ ?_) | (with_reducible refine List.mem_append_right _ ?_)))); (case p3Zq => walk_at "kk INF"); (case p4Zq => walk_at "kk INF"); (case p5Zq => first | omega | ((simp only [List.length_map]); omega)); (case p6Zq => exact Nat.le_trans (normL_len _) (by first | omega | ((simp only [List.length_map]); omega))); (case p7Zq => first | with_reducible assumption | exact by8_pos _); k_whole); intro led' v' h' tk' hR' F' N'; (obtain ⟨hL', hV'⟩ := hR'); subst hL' hV'; (try simp only [List.nil_append, List.cons_append] at F' N'); k_sweep) | ((with_reducible show wpAny _ _ (call (Value.ref 108) [Value.bytes (mkB _) _]) _ _ _); k_dflt (refine' Spec.use2 (by k_asm) (by k_asm) (by k_asm) (by k_asm) (by k_asm) (by first | exact rfl | assumption) (normpath_B _ _ _ ?p1Zq ?p2Zq) (by ktr_room) (by ktr_units) ?_; (case p1Zq => first | omega | ((simp only [List.length_map]); omega)); (case p2Zq => first | with_reducible assumption | exact by8_small _); k_whole); intro led' v' h' tk' hR' hfr' F' N'; (obtain ⟨hL', x', t', hV', hX'⟩ := hR'); subst hL' hV' hX'; (try simp only [List.nil_append, List.cons_append] at F' N'); (try clear hfr'); k_sweep) | ((with_reducible show wpAny _ _ (call (Value.ref 108) [Value.str (mkS _) _]) _ _ _); k_dflt (refine' Spec.use2 (by k_asm) (by k_asm) (by k_asm) (by k_asm) (by k_asm) (by first | exact rfl | assumption) (normpath_S _ _ _ ?p1Zq) (by ktr_room) (by ktr_units) ?_; (case p1Zq => first | omega | ((simp only [List.length_map]); omega)); k_whole); intro led' v' h' tk' hR' hfr' F' N'; (obtain ⟨hL', x', t', hV', hX'⟩ := hR'); subst hL' hV' hX'; (try simp only [List.nil_append, List.cons_append] at F' N'); (try clear hfr'); k_sweep) | ((with_reducible show wpAny _ _ (call (Value.ref 115) [Value.ref _]) _ _ _); k_dflt (refine' SpecP.use2 (by k_asm) (by k_asm) (by k_asm) (by k_asm) (by k_asm) (by first | exact rfl | assumption) (path_ok _ _ _ _ ?p1Zq) (by ktr_room) (by ktr_units) ?hpZq ?_; (case hpZq => first | assumption | exact list_up (by assumption) (Fr.keep (by assumption)) | is_list); (case p1Zq => with_reducible assumption); k_whole); intro led' v' h' tk' hR' hfr' F' N'; (obtain ⟨q', vc', nc', codes', hV', hL', hi1', hz', hc1', hd1'⟩ := hR'); subst hV' hL'; (have hfr2 := hfr' _ (List.Mem.head _)); (try k_lt hfr2); (try simp only [List.nil_append, List.cons_append] at F' N'); (try clear hfr'); k_sweep) | ((with_reducible show wpAny _ _ (call (Value.builtin "ord") [Value.str (mkS [_]) _]) _ _ _); k_dflt (refine' ord_S ?_; k_whole); intro t' tk') | ((with_reducible show wpAny _ _ (call (Value.builtin "chr") [Value.int _ _]) _ _ _); k_dflt (refine' chr_of_range ?h0Zq ?h1Zq ?_; (case h0Zq => omega); (case h1Zq => omega); k_whole))); k_steps))
        all_goals first | exact Keeps.toks _ | exact Keeps.rfl' | exact Carried.int _ _
      · intro D ys h' tk n' N hne2 F hca
        have hI9 := carried_ints (f := fun (n : Int) => (n - 1).fmod 255 + 1) hca
        rw [by8_IN] at hI9
        clear hca
        (k_steps; repeat' ((with_reducible refine Stop.un ?_); (first | ((with_reducible show wpAny _ _ (call (Value.type "list") [Value.bytes (mkB _) _]) _ _ _); k_dflt (refine' list_B ?FZq ?NZq ?hZq ?sZq ?zZq ?_; (case FZq => k_asm); (case NZq => k_asm); (case hZq => with_unfolding_all rfl); (case sZq => first | with_reducible assumption | exact normL_small (by8_small _)); (case zZq => exact Nat.le_trans (normL_len _) (by first | omega | ((simp only [List.length_map]); omega))); k_whole); intro D' ws' c' h' tk' F' N' l1 hI'; (try k_lt l1); (try k_sweep)) | ((with_reducible show wpAny _ _ (call (Value.ref 141) [Value.ref _, Value.ref _]) _ _ _); k_dflt (refine' SpecW.use2 (by k_asm) (by k_asm) (by k_asm) (by k_asm) (by k_asm) (by first | exact rfl | assumption) (right_ok _ _ _ _ _ _ _ _ ?p1Zq ?p2Zq ?p3Zq ?p4Zq ?p5Zq ?p6Zq ?p7Zq) (by ktr_room) (by ktr_units) ?_; (case p1Zq => (repeat (first | (with_reducible assumption) | (with_reducible exact List.mem_cons_self ..) | (with_reducible refine List.mem_cons_of_mem _ ?_) | (with_reducible refine List.mem_append_right _ ?_)))); (case p2Zq => (repeat (first | (with_reducible assumption) | (with_reducible exact List.mem_cons_self ..) | (with_reducible refine List.mem_cons_of_mem _ ?_) | (with_reducible refine List.mem_append_right _ ?_)))); (case p3Zq => walk_at "kk INF"); (case p4Zq => walk_at "kk INF"); (case p5Zq => first | omega | ((simp only [List.length_map]); omega)); (case p6Zq => exact Nat.le_trans (normL_len _) (by first | omega | ((simp only [List.length_map]); omega))); (case p7Zq => first | with_reducible assumption | exact by8_pos _); k_whole); intro led' v' h' tk' hR' F' N'; (obtain ⟨hL', hV'⟩ := hR'); subst hL' hV'; (try simp only [List.nil_append, List.cons_append] at F' N'); k_sweep) | ((with_reducible show wpAny _ _ (call (Value.ref 108) [Value.bytes (mkB _) _]) _ _ _); k_dflt (refine' Spec.use2 (by k_asm) (by k_asm) (by k_asm) (by k_asm) (by k_asm) (by first | exact rfl | assumption) (normpath_B _ _ _ ?p1Zq ?p2Zq) (by ktr_room) (by ktr_units) ?_; (case p1Zq => first | omega | ((simp only [List.length_map]); omega)); (case p2Zq => first | with_reducible assumption | exact by8_small _); k_whole); intro led' v' h' tk' hR' hfr' F' N'; (obtain ⟨hL', x', t', hV', hX'⟩ := hR'); subst hL' hV' hX'; (try simp only [List.nil_append, List.cons_append] at F' N'); (try clear hfr'); k_sweep) | ((with_reducible show wpAny _ _ (call (Value.ref 108) [Value.str (mkS _) _]) _ _ _); k_dflt (refine' Spec.use2 (by k_asm) (by k_asm) (by k_asm) (by k_asm) (by k_asm) (by first | exact rfl | assumption) (normpath_S _ _ _ ?p1Zq) (by ktr_room) (by ktr_units) ?_; (case p1Zq => first | omega | ((simp only [List.length_map]); omega)); k_whole); intro led' v' h' tk' hR' hfr' F' N'; (obtain ⟨hL', x', t', hV', hX'⟩ := hR'); subst hL' hV' hX'; (try simp only [List.nil_append, List.cons_append] at F' N'); (try clear hfr'); k_sweep) | ((with_reducible show wpAny _ _ (call (Value.ref 115) [Value.ref _]) _ _ _); k_dflt (refine' SpecP.use2 (by k_asm) (by k_asm) (by k_asm) (by k_asm) (by k_asm) (by first | exact rfl | assumption) (path_ok _ _ _ _ ?p1Zq) (by ktr_room) (by ktr_units) ?hpZq ?_; (case hpZq => first | assumption | exact list_up (by assumption) (Fr.keep (by assumption)) | is_list); (case p1Zq => with_reducible assumption); k_whole); intro led' v' h' tk' hR' hfr' F' N'; (obtain ⟨q', vc', nc', codes', hV', hL', hi1', hz', hc1', hd1'⟩ := hR'); subst hV' hL'; (have hfr2 := hfr' _ (List.Mem.head _)); (try k_lt hfr2); (try simp only [List.nil_append, List.cons_append] at F' N'); (try clear hfr'); k_sweep) | ((with_reducible show wpAny _ _ (call (Value.builtin "ord") [Value.str (mkS [_]) _]) _ _ _); k_dflt (refine' ord_S ?_; k_whole); intro t' tk') | ((with_reducible show wpAny _ _ (call (Value.builtin "chr") [Value.int _ _]) _ _ _); k_dflt (refine' chr_of_range ?h0Zq ?h1Zq ?_; (case h0Zq => omega); (case h1Zq => omega); k_whole))); k_steps))
        refine bytes_IN (by assumption) (by assumption) rfl (List.Mem.head _) hI9 (by8_small _) (by first | omega | ((simp only [List.length_map]); omega)) ?_
        intro h' t' k' F' N'
        (k_steps; repeat' ((with_reducible refine Stop.un ?_); (first | ((with_reducible show wpAny _ _ (call (Value.type "list") [Value.bytes (mkB _) _]) _ _ _); k_dflt (refine' list_B ?FZq ?NZq ?hZq ?sZq ?zZq ?_; (case FZq => k_asm); (case NZq => k_asm); (case hZq => with_unfolding_all rfl); (case sZq => first | with_reducible assumption | exact normL_small (by8_small _)); (case zZq => exact Nat.le_trans (normL_len _) (by first | omega | ((simp only [List.length_map]); omega))); k_whole); intro D' ws' c' h' tk' F' N' l1 hI'; (try k_lt l1); (try k_sweep)) | ((with_reducible show wpAny _ _ (call (Value.ref 141) [Value.ref _, Value.ref _]) _ _ _); k_dflt (refine' SpecW.use2 (by k_asm) (by k_asm) (by k_asm) (by k_asm) (by k_asm) (by first | exact rfl | assumption) (right_ok _ _ _ _ _ _ _ _ ?p1Zq ?p2Zq ?p3Zq ?p4Zq ?p5Zq ?p6Zq ?p7Zq) (by ktr_room) (by ktr_units) ?_; (case p1Zq => (repeat (first | (with_reducible assumption) | (with_reducible exact List.mem_cons_self ..) | (with_reducible refine List.mem_cons_of_mem _ ?_) | (with_reducible refine List.mem_append_right _ ?_)))); (case p2Zq => (repeat (first | (with_reducible assumption) | (with_reducible exact List.mem_cons_self ..) | (with_reducible refine List.mem_cons_of_mem _ ?_) | (with_reducible refine List.mem_append_right _ ?_)))); (case p3Zq => walk_at "kk INF"); (case p4Zq => walk_at "kk INF"); (case p5Zq => first | omega | ((simp only [List.length_map]); omega)); (case p6Zq => exact Nat.le_trans (normL_len _) (by first | omega | ((simp only [List.length_map]); omega))); (case p7Zq => first | with_reducible assumption | exact by8_pos _); k_whole); intro led' v' h' tk' hR' F' N'; (obtain ⟨hL', hV'⟩ := hR'); subst hL' hV'; (try simp only [List.nil_append, List.cons_append] at F' N'); k_sweep) | ((with_reducible show wpAny _ _ (call (Value.ref 108) [Value.bytes (mkB _) _]) _ _ _); k_dflt (refine' Spec.use2 (by k_asm) (by k_asm) (by k_asm) (by k_asm) (by k_asm) (by first | exact rfl | assumption) (normpath_B _ _ _ ?p1Zq ?p2Zq) (by ktr_room) (by ktr_units) ?_; (case p1Zq => first | omega | ((simp only [List.length_map]); omega)); (case p2Zq => first | with_reducible assumption | exact by8_small _); k_whole); intro led' v' h' tk' hR' hfr' F' N'; (obtain ⟨hL', x', t', hV', hX'⟩ := hR'); subst hL' hV' hX'; (try simp only [List.nil_append, List.cons_append] at F' N'); (try clear hfr'); k_sweep) | ((with_reducible show wpAny _ _ (call (Value.ref 108) [Value.str (mkS _) _]) _ _ _); k_dflt (refine' Spec.use2 (by k_asm) (by k_asm) (by k_asm) (by k_asm) (by k_asm) (by first | exact rfl | assumption) (normpath_S _ _ _ ?p1Zq) (by ktr_room) (by ktr_units) ?_; (case p1Zq => first | omega | ((simp only [List.length_map]); omega)); k_whole); intro led' v' h' tk' hR' hfr' F' N'; (obtain ⟨hL', x', t', hV', hX'⟩ := hR'); subst hL' hV' hX'; (try simp only [List.nil_append, List.cons_append] at F' N'); (try clear hfr'); k_sweep) | ((with_reducible show wpAny _ _ (call (Value.ref 115) [Value.ref _]) _ _ _); k_dflt (refine' SpecP.use2 (by k_asm) (by k_asm) (by k_asm) (by k_asm) (by k_asm) (by first | exact rfl | assumption) (path_ok _ _ _ _ ?p1Zq) (by ktr_room) (by ktr_units) ?hpZq ?_; (case hpZq => first | assumption | exact list_up (by assumption) (Fr.keep (by assumption)) | is_list); (case p1Zq => with_reducible assumption); k_whole); intro led' v' h' tk' hR' hfr' F' N'; (obtain ⟨q', vc', nc', codes', hV', hL', hi1', hz', hc1', hd1'⟩ := hR'); subst hV' hL'; (have hfr2 := hfr' _ (List.Mem.head _)); (try k_lt hfr2); (try simp only [List.nil_append, List.cons_append] at F' N'); (try clear hfr'); k_sweep) | ((with_reducible show wpAny _ _ (call (Value.builtin "ord") [Value.str (mkS [_]) _]) _ _ _); k_dflt (refine' ord_S ?_; k_whole); intro t' tk') | ((with_reducible show wpAny _ _ (call (Value.builtin "chr") [Value.int _ _]) _ _ _); k_dflt (refine' chr_of_range ?h0Zq ?h1Zq ?_; (case h0Zq => omega); (case h1Zq => omega); k_whole))); k_steps))
        all_goals try rw [StopG.eq]
        all_goals exact goodW_bool (by first | with_reducible assumption | assumption) (by with_reducible assumption) (raisesW_false (by wrow_none_raised)) (by wrow_post)
)
end Mine
theorem PySem.Challenge.cw_ko0129_05_holds : PySem.Challenge.rw_ko0129_05.Holds := by
  exact Mine.law_holds
#print axioms PySem.Challenge.cw_ko0129_05_holds
