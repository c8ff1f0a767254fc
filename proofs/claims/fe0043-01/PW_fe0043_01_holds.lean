import PyProof.Rows.All
import Wide.All
import OpenK.AllK
import Wide.FinOn
import Lean
import PySem.Challenge.RW_fe0043_01
set_option Elab.async false
set_option rowWalk.seconds 0
set_option linter.unusedVariables false
set_option linter.unusedSectionVars false
section
-- part H0
open PySem PySem.W PyProof.Rows
set_option Elab.async false
set_option maxRecDepth 100000
set_option maxHeartbeats 8000000
namespace Mine
open_top hd for PySem.Challenge.rw_fe0043_01
end Mine
end
section
-- part B0
set_option maxRecDepth 100000
open PySem PySem.W PyProof.Rows PySem.Spec PySem.Calls
namespace Mine
noncomputable section

abbrev Pr : Program := PySem.Challenge.rw_fe0043_01.row.prog
abbrev Vw : Program := Mine.hd.view_39
abbrev Ls : List Str := looseW Mine.hd.view_39 [Str.ofString "b58encode_int", Str.ofString "b58encode", Str.ofString "b58decode_int", Str.ofString "b58decode", Str.ofString "b58encode_check", Str.ofString "b58decode_check"]
abbrev Kf (w : World) : Frag := Mine.hd.heap_39 w.params

abbrev Ret (h₀ : Heap) (L : Addr) (m : Str → Option Value) (news : List (Addr × Obj)) (s : Shared) (Q : Value → Shared → Prop) (R : Tok → Value) : Prop :=
  ∀ (t : Tok) (h' : Heap) (tk' : Nat), Fr h₀ L h' m → News h₀ L h' news → Q (R t) { s with heap := h', toks := tk' }

/-- what a call of a def of the text's does, from any frame that stands above the text's own objects -/
abbrev Tells1 (w : World) (dpN unN : Nat) (f : Addr) (vs : List Value) (kw : List (Str × Value)) (R : Tok → Value) : Prop :=
  ∀ (mean : ExcName → Option Value) (mg mb : Str → Option Value) (news : List (Addr × Obj)) (dp un : Nat) (gd : Option (List Code)) (cn : Str) (cs : Scope) (a : Addr) (ccd : Value) (cl : List (Str × Addr)) (outer : List Env) (A₀ : Around) (base h₀ : Heap) (L : Addr) (m : Str → Option Value) (s : Shared) (Q E : Value → Shared → Prop),
    Below A₀ base outer h₀ → Fr h₀ L s.heap m → (Kf w).In h₀ → News h₀ L s.heap news → Top Vw Ls mean mg mb h₀ → cs.kind = .function →
    dp + dpN < recursionLimit → un + unN < cLine → Ret h₀ L m news s Q R →
      wpAny (model Pr w) (ktrTop dp un gd cn cs L a ccd cl outer) (call (.ref f) vs kw) Q E s
end
end Mine
end
section
-- part B1
set_option maxRecDepth 100000
open PySem PySem.W PyProof.Rows PySem.Spec PySem.Calls
namespace Mine
noncomputable section

abbrev RetV (h₀ : Heap) (L : Addr) (m : Str → Option Value) (news : List (Addr × Obj)) (s : Shared) (Q : Value → Shared → Prop) (Ok : Value → Prop) : Prop :=
  ∀ (v : Value) (h' : Heap) (tk' : Nat), Ok v → Fr h₀ L h' m → News h₀ L h' news → Q v { s with heap := h', toks := tk' }

/-- what a call of a def of the text's does, from any frame that stands above the text's own objects -/
abbrev Tells2 (w : World) (dpN unN : Nat) (f : Addr) (vs : List Value) (kw : List (Str × Value)) (Ok : Value → Prop) : Prop :=
  ∀ (mean : ExcName → Option Value) (mg mb : Str → Option Value) (news : List (Addr × Obj)) (dp un : Nat) (gd : Option (List Code)) (cn : Str) (cs : Scope) (a : Addr) (ccd : Value) (cl : List (Str × Addr)) (outer : List Env) (A₀ : Around) (base h₀ : Heap) (L : Addr) (m : Str → Option Value) (s : Shared) (Q E : Value → Shared → Prop),
    Below A₀ base outer h₀ → Fr h₀ L s.heap m → (Kf w).In h₀ → News h₀ L s.heap news → Top Vw Ls mean mg mb h₀ → cs.kind = .function →
    dp + dpN < recursionLimit → un + unN < cLine → RetV h₀ L m news s Q Ok →
      wpAny (model Pr w) (ktrTop dp un gd cn cs L a ccd cl outer) (call (.ref f) vs kw) Q E s

def BytesIs (rs : List Int) (v : Value) : Prop := ∃ r t, v = .bytes r t ∧ KBw.bInts r = rs
def bvN (ks : List Int) : Nat := (KFB.value ks).toNat
def hashL (ks : List Int) : List Int := [(((bvN ks : Nat) : Int) * 131067).fmod 4294705157 / 256 / 256 / 256 % 256, (((bvN ks : Nat) : Int) * 131067).fmod 4294705157 / 256 / 256 % 256, (((bvN ks : Nat) : Int) * 131067).fmod 4294705157 / 256 % 256, (((bvN ks : Nat) : Int) * 131067).fmod 4294705157 % 256]
theorem value_of (b : Array UInt8) : ((bvN (KBw.bInts b) : Nat) : Int) = KFB.value (KBw.bInts b) := by
  have hv : ((b.toList.foldl (fun (acc : Nat) (b : UInt8) => acc * 256 + b.toNat) 0 : Nat) : Int) = KFB.value (KBw.bInts b) := KFB.fold_cast b.toList 0
  unfold bvN
  rw [← hv]
  rfl
theorem bvN_lt (b : Array UInt8) : bvN (KBw.bInts b) < 256 ^ b.size := by
  have hv : ((b.toList.foldl (fun (acc : Nat) (b : UInt8) => acc * 256 + b.toNat) 0 : Nat) : Int) = KFB.value (KBw.bInts b) := KFB.fold_cast b.toList 0
  unfold bvN
  rw [← hv]
  have h1 := KFB.fold_lt b.toList 0
  rw [Nat.zero_add, Nat.one_mul, Array.length_toList] at h1
  exact h1

-- a wide int.from_bytes
theorem grown_any {M : Model} {A : Around} {E : Value → Shared → Prop} {s : Shared} {n : Nat} {Q : Value → Shared → Prop} (hn : n < 2 ^ 8192) (h : Q (.int (n : Int) s.toks) { s with toks := s.toks + 1 }) : wpAny M A (mkIntGrown (n : Int)) Q E s := by
  unfold mkIntGrown
  have hb : bitsLine = 134217728 := by first | rfl | decide
  have hl : ¬ ((n : Int).natAbs.log2 ≥ bitsLine) := by
    rw [Int.natAbs_natCast, hb]
    rcases Nat.eq_zero_or_pos n with hz | hz
    · subst hz; decide
    · have := (Nat.log2_lt (by omega : n ≠ 0)).mpr hn
      omega
  rw [if_neg hl]
  exact wpAny_mkInt h
theorem from_big {prog : Program} {w : World} {A : Around} {E : Value → Shared → Prop} {s : Shared} {b : Array UInt8} {t : Tok} {st : List (Option Value)} {P : Fin → Shared → Prop} {as : Args} (hl : b.size ≤ 1000)
    (hbind : ∀ u, as = ⟨[.type "int", .bytes b t, .str (PySem.Str.ofString "big") u], []⟩ ∨ as = ⟨[.type "int", .bytes b t], [(PySem.Str.ofString "byteorder", .str (PySem.Str.ofString "big") u)]⟩ → True)
    (u : Tok) (has : as = ⟨[.type "int", .bytes b t, .str (PySem.Str.ofString "big") u], []⟩ ∨ as = ⟨[.type "int", .bytes b t], [(PySem.Str.ofString "byteorder", .str (PySem.Str.ofString "big") u)]⟩)
    (h : P (.done (.ret (.int (KFB.value (KBw.bInts b)) s.toks))) { s with toks := s.toks + 1 }) :
    wpAny (model prog w) A (Builtin.«int.from_bytes» as) P E s := by
  have hv : ((b.toList.foldl (fun (acc : Nat) (b : UInt8) => acc * 256 + b.toNat) 0 : Nat) : Int) = KFB.value (KBw.bInts b) := KFB.fold_cast b.toList 0
  have hn : b.toList.foldl (fun (acc : Nat) (b : UInt8) => acc * 256 + b.toNat) 0 < 2 ^ 8192 := by
    have h1 := KFB.fold_lt b.toList 0
    rw [Nat.zero_add, Nat.one_mul, Array.length_toList] at h1
    have h2 : 256 ^ b.size ≤ 256 ^ 1000 := Nat.pow_le_pow_right (by decide) hl
    have h3 : 256 ^ 1000 ≤ 2 ^ 8192 := by decide +kernel
    omega
  rcases has with rfl | rfl
  all_goals
    unfold Builtin.«int.from_bytes»
    refine wpAny_bind (wpAny_of_eq (a := true) KFB.type_int ?_)
    refine KFB.if_not rfl ?_
    refine wpAny_bind (wpAny_of_eq (a := true) F.conv_sub_int ?_)
    refine KFB.if_not rfl ?_
    refine wpAny_bind (wpAny_of_eq (a := [some (.bytes b t), some (.str (PySem.Str.ofString "big") u), none]) (by kernel_rfl) ?_)
    refine wpAny_bind (wpAny_of_eq (a := PySem.Str.ofString "big") (by kernel_rfl) ?_)
    refine wpAny_bind (wpAny_of_eq (a := false) rfl ?_)
    refine wpAny_bind (wpAny_of_eq (a := false) (by kernel_rfl) ?_)
    refine wpAny_bind (wpAny_of_eq (a := b) rfl ?_)
    show wpAny _ _ (mkIntGrown (b.toList.foldl (fun (acc : Int) (b : UInt8) => acc * 256 + (b.toNat : Int)) ((0 : Nat) : Int)) >>= fun v => _) _ _ _
    rw [KFB.foldI_eq]
    refine wpAny_bind (grown_any hn ?_)
    rw [hv]
    refine KFB.if_so (by decide +kernel) ?_
    exact wpAny_bind (wpAny_pure (wpAny_pure h))
theorem fb_call {prog : Program} {w : World} {A : Around} {E : Value → Shared → Prop} {s : Shared} {h₀ : Heap} {L : Addr} {news : List (Addr × Obj)} {x : Addr} {b : Array UInt8} {t u : Tok} {ks : List Int} {Q : Value → Shared → Prop} (N : News h₀ L s.heap news) (hm : (x, KFB.bound) ∈ news) (hb : KBw.bInts b = ks) (hl : ks.length ≤ 1000)
    (h : ∀ t' k, Q (.int ((bvN ks : Nat) : Int) t') { s with toks := k }) : wpAny (model prog w) A (call (.ref x) [.bytes b t, .str (PySem.Str.ofString "big") u]) Q E s := by
  subst hb
  rw [value_of] at h
  exact KFB.call_of (KFB.at_of N hm) (fun z => from_big (st := []) (by rw [← KBw.ints_length]; exact hl) (fun _ _ => trivial) u (.inl rfl) z) (h _ _)
theorem check_kw {b : Array UInt8} {t u : Tok} {o : PySem.Str} : checkBoundCall "int.from_bytes" ⟨[.type "int", .bytes b t], [(PySem.Str.ofString "byteorder", .str o u)]⟩ = pure () := by first | kernel_rfl | rfl
theorem fb_kw {prog : Program} {w : World} {A : Around} {E : Value → Shared → Prop} {s : Shared} {h₀ : Heap} {L : Addr} {news : List (Addr × Obj)} {x : Addr} {b : Array UInt8} {t u : Tok} {ks : List Int} {Q : Value → Shared → Prop} (N : News h₀ L s.heap news) (hm : (x, KFB.bound) ∈ news) (hb : KBw.bInts b = ks) (hl : ks.length ≤ 1000)
    (h : ∀ t' k, Q (.int ((bvN ks : Nat) : Int) t') { s with toks := k }) : wpAny (model prog w) A (call (.ref x) [.bytes b t] [(PySem.Str.ofString "byteorder", .str (PySem.Str.ofString "big") u)]) Q E s := by
  subst hb
  rw [value_of] at h
  have ho := KFB.at_of N hm
  refine wpAny_call (codeAny_of_tree ?_)
  show wpAny _ A.in1 (callAny (.ref x) ⟨[.bytes b t], [(PySem.Str.ofString "byteorder", .str (PySem.Str.ofString "big") u)]⟩) _ _ s
  simp only [callAny]
  refine wpAny_bind (wpAny_load ho ?_)
  simp only [KFB.bound, show (Value.type "builtin_function_or_method" == Value.type "method" || Value.type "builtin_function_or_method" == Value.type "builtin_function_or_method" || Value.type "builtin_function_or_method" == Value.type "method-wrapper") = true by decide, if_true]
  refine KFB.if_so (by decide) ?_
  refine wpAny_bind (wpAny_of_eq (a := ()) check_kw ?_)
  refine wpAny_bind (wpAny_pure (wpAny_pure ?_))
  exact ⟨KFB.quiet_fb, codeAny_builtin KFB.entry_fb (from_big (st := []) (by rw [← KBw.ints_length]; exact hl) (fun _ _ => trivial) u (.inr rfl) (h _ _))⟩
theorem callWith_boundKW {M : Model} {A : Around} {E : Value → Shared → Prop} {s : Shared} {h₀ : Heap} {L : Addr} {news : List (Addr × Obj)} {pos : Pos} {u : Addr} {first : List Value} {env : Env} {e : Expr} {rest : List Expr} {kws : List Keyword} {Q : Value → Shared → Prop} (_N : News h₀ L s.heap news) (_hm : (u, KFB.bound) ∈ news)
    (hall : (backToKw pos (keywordEach kws env)).all (·.1.isSome) = true)
    (h : wpAny M A (spliced (backTo pos (starEach (e :: rest) env))) (fun vs s₁ => wpAny M A (evalAll ((backToKw pos (keywordEach kws env)).map (·.2)))
      (fun ks s₂ => KFB.StandsAt u s₂.heap ∧ wpAny M A (call (.ref u) (first ++ vs) (((backToKw pos (keywordEach kws env)).filterMap (·.1)).zip ks)) Q E s₂) E s₁) E s)
    (hplain : ((backTo pos (starEach (e :: rest) env)).any (·.1) || (backToKw pos (keywordEach kws env)).any (·.1.isNone)) = false := by rfl) (he : starEach (e :: rest) env = (false, eval e env) :: starEach rest env := by rfl) :
    wpAny M A (callWith pos (.ref u) first (backTo pos (starEach (e :: rest) env)) (backToKw pos (keywordEach kws env))) Q E s := by
  unfold callWith
  refine wpAny_bind (wpAny_holding (wpAny_mono (evalArgs_kw2 (f := .ref u) (Q := fun x s₂ => KFB.StandsAt u s₂.heap ∧ wpAny M A (call (.ref u) (first ++ x.pos) x.kw) Q E s₂) hall h he) (fun x s₁ h₁ => wpAny_bind (wpAny_standAt ?_)) fun _ _ x => x))
  obtain ⟨ho, hcall⟩ := h₁
  simp only [hplain]
  refine wpAny_bind (m := keeperOf (.ref u)) ?_
  unfold keeperOf
  refine wpAny_bind (wpAny_load ho ?_)
  simp only [KFB.bound, show (Value.type "builtin_function_or_method" != Value.type "method") = true by decide, show (Value.type "builtin_function_or_method" == Value.type "builtin_function_or_method" || Value.type "builtin_function_or_method" == Value.type "method-wrapper") = true by decide, if_true]
  refine wpAny_pure ?_
  exact wpAny_bind (wpAny_mono hcall (fun r s₂ hr => wpAny_bind (wpAny_holding (wpAny_point (wpAny_pure hr)))) fun _ _ x => x)
end
end Mine
end
section
-- part B2
set_option maxRecDepth 100000
open PySem PySem.W PyProof.Rows PySem.Spec PySem.Calls
namespace Mine
noncomputable section

theorem slot_lstrip : Slot "bytes" "lstrip" "bytes.lstrip" :=
  .of (owner := "bytes") (n := "lstrip") (by rw [typeLookup_type, builtinLookup_eq_fast]; kernel_rfl) (by decide +kernel) (by decide +kernel) (by decide +kernel)
    (by first | exact .inl (by decide +kernel) | exact .inr (by decide +kernel)) (by rw [isSubtype_type]; kernel_rfl)
theorem slot_rstrip : Slot "bytes" "rstrip" "bytes.rstrip" :=
  .of (owner := "bytes") (n := "rstrip") (by rw [typeLookup_type, builtinLookup_eq_fast]; kernel_rfl) (by decide +kernel) (by decide +kernel) (by decide +kernel)
    (by first | exact .inl (by decide +kernel) | exact .inr (by decide +kernel)) (by rw [isSubtype_type]; kernel_rfl)
theorem type_lstrip : typeOf (.builtin "bytes.lstrip") = pure (.type "method_descriptor") := by show builtinType _ = _; rw [builtinType_eq_fast]; kernel_rfl
theorem type_rstrip : typeOf (.builtin "bytes.rstrip") = pure (.type "method_descriptor") := by show builtinType _ = _; rw [builtinType_eq_fast]; kernel_rfl
theorem entry_lstrip : entryFor table "bytes.lstrip" = some Builtin.«bytes.lstrip» := entryFor_of_tree (by kernel_rfl)
theorem entry_rstrip : entryFor table "bytes.rstrip" = some Builtin.«bytes.rstrip» := entryFor_of_tree (by kernel_rfl)
theorem args_lstrip (a b : Value) : argsOk "bytes.lstrip" ⟨[a, b], []⟩ := by unfold argsOk; kernel_rfl
theorem args_rstrip (a : Value) : argsOk "bytes.rstrip" ⟨[a], []⟩ := by unfold argsOk; kernel_rfl

section
variable {prog : Program} {w : World} {M : Model} {A : Around} {E : Value → Shared → Prop} {s : Shared} {h₀ : Heap} {L : Addr} {m : Str → Option Value} {news : List (Addr × Obj)} {b c : Array UInt8} {t u : Tok} {ks ls : List Int}

theorem meth_lstrip {pl : Sem Bool} {Q : Value × List Value → Shared → Prop} (h : Q (.builtin "bytes.lstrip", [.bytes b t]) s) : wpAny M A (getMethod (.bytes b t) (PySem.Str.ofString "lstrip") pl) Q E s := by
  with_reducible exact KBd.method_of (.bytes b t) (typeIs_bytes _ _ _) slot_lstrip type_lstrip KBd.noRef h
theorem meth_rstrip {pl : Sem Bool} {Q : Value × List Value → Shared → Prop} (h : Q (.builtin "bytes.rstrip", [.bytes b t]) s) : wpAny M A (getMethod (.bytes b t) (PySem.Str.ofString "rstrip") pl) Q E s := by
  with_reducible exact KBd.method_of (.bytes b t) (typeIs_bytes _ _ _) slot_rstrip type_rstrip KBd.noRef h

theorem toNat_inj {a b : UInt8} (h : ((a.toNat : Nat) : Int) = ((b.toNat : Nat) : Int)) : a = b := UInt8.toNat_inj.1 (by omega)
theorem ints_inj {b c : Array UInt8} (h : KBw.bInts b = KBw.bInts c) : b = c := by
  have : b.toList = c.toList := (List.map_inj_right (fun x y e => toNat_inj e)).1 h
  exact Array.toList_inj.1 this
theorem dropWhile_ints (p : UInt8 → Bool) (q : Int → Bool) (l : List UInt8) (h : ∀ x ∈ l, p x = q ((x.toNat : Nat) : Int)) :
    (l.dropWhile p).map (fun c : UInt8 => ((c.toNat : Nat) : Int)) = (l.map (fun c : UInt8 => ((c.toNat : Nat) : Int))).dropWhile q := by
  induction l with
  | nil => rfl
  | cons x r ih =>
    have h1 := h x (List.mem_cons_self ..)
    have h2 := ih fun y hy => h y (List.mem_cons_of_mem _ hy)
    rw [List.map_cons, List.dropWhile_cons, List.dropWhile_cons, h1]
    split
    · exact h2
    · rfl
/-- the bytes without one sign at the left -/
theorem lstrip_K {z : Int} {Q : Value → Shared → Prop} (hb : KBw.bInts b = ks) (hc : KBw.bInts c = [z]) (hl : ks.length ≤ 100000)
    (h : ∀ r t' k, KBw.bInts r = ks.dropWhile (fun x => x == z) → Q (.bytes r t') { s with toks := k }) : wpAny (model prog w) A (call (.builtin "bytes.lstrip") [.bytes b t, .bytes c u]) Q E s := by
  refine wpAny_call_entry slot_lstrip (typeIs_bytes s b t) entry_lstrip ?_ (args_lstrip _ _)
  show wpAny _ _ (Builtin.Bytes.bytesLike _ (.bytes c u) >>= fun r => _) _ _ s
  have hz : ∀ x : UInt8, c.contains x = (((x.toNat : Nat) : Int) == z) := by
    intro x
    have h1 : c.toList.map (fun c : UInt8 => ((c.toNat : Nat) : Int)) = [z] := hc
    cases hcl : c.toList with
    | nil => rw [hcl] at h1; cases h1
    | cons y r =>
      rw [hcl] at h1
      have h2 : r = [] := by cases r with
        | nil => rfl
        | cons _ _ => simp at h1
      subst h2
      have h3 : ((y.toNat : Nat) : Int) = z := by simpa using h1
      have h4 : c = #[y] := Array.toList_inj.1 (by rw [hcl])
      subst h4
      rw [← h3]
      by_cases hxy : x = y
      · subst hxy; simp
      · have : ¬ ((x.toNat : Nat) : Int) = ((y.toNat : Nat) : Int) := fun e => hxy (toNat_inj e)
        simp [hxy, this]
  refine wpAny_bind (wpAny_of_eq (a := c) KBd.like_eq ?_)
  refine wpAny_bind (wpAny_pure ?_)
  refine wpAny_bind (wpAny_of_eq (a := b) rfl ?_)
  have hk : KBw.bInts (b.toList.dropWhile c.contains).toArray = ks.dropWhile (fun x => x == z) := by
    rw [← hb]
    exact dropWhile_ints _ _ _ fun x _ => hz x
  have hsz : b.size ≤ 100000 := by rw [← KBw.ints_length, hb]; exact hl
  refine wpAny_ite ?_
  show (if ((b.toList.dropWhile c.contains).length == b.size) = true then _ else _)
  split
  · rename_i hs
    have hs : (b.toList.dropWhile c.contains).length = b.size := eq_of_beq hs
    have he : b.toList.dropWhile c.contains = b.toList := (List.dropWhile_suffix _).eq_of_length (by rw [hs, Array.length_toList])
    refine wpAny_bind (wpAny_rule ?_)
    refine wpAny_bind (wpAny_of_eq (a := .bytes b t) (by first | rfl | kernel_rfl) ?_)
    refine wpAny_pure ⟨_, rfl, h b t s.toks ?_⟩
    rw [← hk, he]
  · refine wpAny_bind (wpAny_mkBytes (wpAny_pure ⟨_, rfl, h _ _ _ hk⟩) ?_)
    show (b.toList.dropWhile c.contains).toArray.size ≤ sizeLine
    have h3 := (List.dropWhile_suffix (l := b.toList) c.contains).length_le
    have h4 : b.toList.length = b.size := Array.length_toList
    have h5 : (b.toList.dropWhile c.contains).toArray.size = (b.toList.dropWhile c.contains).length := List.size_toArray
    rw [h5, sizeLine_eq]
    omega
/-- no blank at the right: the bytes as they are -/
theorem rstrip_K {Q : Value → Shared → Prop} (hb : KBw.bInts b = ks) (hn : ∀ k ∈ ks, 33 ≤ k)
    (h : ∀ t' k, Q (.bytes b t') { s with toks := k }) : wpAny (model prog w) A (call (.builtin "bytes.rstrip") [.bytes b t]) Q E s := by
  refine wpAny_call_entry slot_rstrip (typeIs_bytes s b t) entry_rstrip ?_ (args_rstrip _)
  have hs : ∀ x ∈ b.toList.reverse, Builtin.Bytes.isSpace x = false := by
    intro x hx
    have h1 : ((x.toNat : Nat) : Int) ∈ ks := by rw [← hb]; exact List.mem_map.2 ⟨x, List.mem_reverse.1 hx, rfl⟩
    have h2 := hn _ h1
    unfold Builtin.Bytes.isSpace
    have h3 : 33 ≤ x.toNat := by omega
    have h4 : (33 : UInt8) ≤ x := by rw [UInt8.le_iff_toNat_le]; exact h3
    have h5 : ¬ x = 32 := fun e => by subst e; exact absurd h3 (by decide)
    have h6 : ¬ x ≤ 13 := fun e => by rw [UInt8.le_iff_toNat_le] at e; have : (13 : UInt8).toNat = 13 := rfl; omega
    simp [h5, h6]
  have he : b.toList.reverse.dropWhile Builtin.Bytes.isSpace = b.toList.reverse := by
    cases hl : b.toList.reverse with
    | nil => rfl
    | cons x r => rw [List.dropWhile_cons, hs x (by rw [hl]; exact List.mem_cons_self ..)]; rfl
  show wpAny _ _ (pure (Value.bytes b t, ([] : List Value)) >>= fun r => _) _ _ s
  refine wpAny_bind (wpAny_pure ?_)
  refine wpAny_bind (wpAny_pure ?_)
  refine wpAny_bind (wpAny_of_eq (a := b) rfl ?_)
  refine wpAny_ite ?_
  show (if ((b.toList.reverse.dropWhile Builtin.Bytes.isSpace).reverse.length == b.size) = true then _ else _)
  rw [if_pos (by rw [he, List.reverse_reverse, Array.length_toList]; exact beq_self_eq_true _)]
  refine wpAny_bind (wpAny_rule ?_)
  refine wpAny_bind (wpAny_of_eq (a := .bytes b t) (by first | rfl | kernel_rfl) ?_)
  exact wpAny_pure ⟨_, rfl, h t s.toks⟩

theorem noIndex : typeLookup (.type "bytes") "__index__" = pure none := by rw [typeLookup_type, builtinLookup_eq_fast]; kernel_rfl
theorem extract_one {i : Nat} {d : UInt8} (h : (b.extract i (i + 1) == #[d]) = true) : d ∈ b.toList := by
  have h1 : b.extract i (i + 1) = #[d] := by simpa using h
  have h2 : d ∈ b.extract i (i + 1) := by rw [h1]; simp
  rw [Array.mem_iff_getElem] at h2
  obtain ⟨j, hj, e⟩ := h2
  rw [Array.getElem_extract] at e
  rw [← e]
  simp
theorem notIn_K {z : Int} {Q : Value → Shared → Prop} (F : Fr h₀ L s.heap m) (N : News h₀ L s.heap news) (hh : A.handled = none) (hb : KBw.bInts b = ks) (hc : KBw.bInts c = [z]) (hn : ∀ k ∈ ks, k ≠ z)
    (h : ∀ h' k, Fr h₀ L h' m → News h₀ L h' news → Q (.bool true) { s with heap := h', toks := k }) : wpAny (model prog w) A (compareOp .NotIn (.bytes c u) (.bytes b t)) Q E s := by
  refine NotIn_slot (typeIs_bytes s b t) FB.slot_bytes_contains (wpAny_call_entry FB.slot_bytes_contains (typeIs_bytes s b t) FB.entry_bytes_contains ?_ (FB.args_bytes_contains_2 _ _))
  show wpAny _ _ (Builtin.Bytes.containsIn "bytes.__contains__" (.bytes b t) (.bytes c u) >>= fun r => _) _ _ s
  refine wpAny_bind ?_
  unfold Builtin.Bytes.containsIn
  refine wpAny_bind (wpAny_attempt ?_)
  have hE : ∀ (P : Int → Shared → Prop) (R : Value → Shared → Prop), (∀ e h' tk, Heap.NewExc s.heap h' e "TypeError" → R (.ref e) { s with heap := h', toks := tk }) → wpAny (model prog w) A.in1 (asIndex (.bytes c u)) P R s := by
    intro P R hR
    unfold asIndex
    refine wpAny_bind (wpAny_of_eq (a := none) (by first | rfl | kernel_rfl) ?_)
    have e1 : callSpecial? (.bytes c u) "__index__" = pure none := by
      unfold callSpecial?
      rw [KBy.special_eq noIndex]
      rfl
    refine wpAny_bind (wpAny_of_eq (a := none) e1 ?_)
    have e2 : typeNameOfCut 200 (.bytes c u) = pure "bytes" := by first | rfl | kernel_rfl
    refine wpAny_bind (wpAny_of_eq (a := "bytes") e2 ?_)
    refine wpAny_raiseErrorMade plainExc_TypeError hh (fun h' tk e x => hR e h' tk x) ?_
    rw [PySem.ofString_length, sizeLine_eq]
    decide +kernel
  refine hE _ _ fun e h' tk hx => ?_
  refine wpAny_bind (wpAny_of_eq (a := some b) KBy.buffer_eq ?_)
  refine wpAny_bind (wpAny_of_eq (a := some c) KBy.buffer_eq ?_)
  refine wpAny_bind (wpAny_rule ?_)
  have hcl : ∃ y : UInt8, c = #[y] ∧ ((y.toNat : Nat) : Int) = z := by
    have h1 : c.toList.map (fun c : UInt8 => ((c.toNat : Nat) : Int)) = [z] := hc
    cases hcl : c.toList with
    | nil => rw [hcl] at h1; cases h1
    | cons y r =>
      rw [hcl] at h1
      have h2 : r = [] := by cases r with
        | nil => rfl
        | cons _ _ => simp at h1
      subst h2
      exact ⟨y, Array.toList_inj.1 (by rw [hcl]), by simpa using h1⟩
  obtain ⟨y, rfl, hy⟩ := hcl
  have hnone : (Builtin.Bytes.find? b #[y] 0 b.size).isSome = false := by
    cases hf : Builtin.Bytes.find? b #[y] 0 b.size with
    | none => rfl
    | some i =>
      exfalso
      unfold Builtin.Bytes.find? at hf
      have h1 := List.find?_some hf
      have h2 := extract_one h1
      exact hn _ (by rw [← hb]; exact List.mem_map.2 ⟨y, h2, rfl⟩) hy
  refine wpAny_pure ?_
  rw [hnone]
  refine wpAny_pure ⟨_, rfl, ?_⟩
  refine wpAny_pure ?_
  exact h h' tk (F.keptAll hx.keeps) (N.grown hx.keeps)
end
end
end Mine
end
section
-- part B3
set_option maxRecDepth 100000
open PySem PySem.W PyProof.Rows PySem.Spec PySem.Calls
namespace Mine
noncomputable section

-- the bytes' iterator as a source of enumerate
section
variable {prog : Program} {w : World} {A : Around} {E : Value → Shared → Prop} {s : Shared}
theorem nextOf_item {it : Addr} {b : Array UInt8} {t : Tok} {i : Nat} {c : UInt8} {Q : Value → Shared → Prop} (hit : KBw.IsBytesIter s.heap it b t i) (hx : b[i]? = some c)
    (hQ : ∀ h', KBw.IsBytesIter h' it b t (i + 1) → Heap.SameBut it s.heap h' → Q (.int (c.toNat : Int) s.toks) { s with heap := h', toks := s.toks + 1 }) :
    wpAny (model prog w) A (Builtin.SmallTypes.nextOf (.ref it)) Q E s := by
  obtain ⟨o, ho, hc, hd⟩ := id hit
  unfold Builtin.SmallTypes.nextOf
  refine wpAny_bind (wpAny_callSpecial?_slot (name := PySem.Str.ofString "__next__") (KBw.iter_typeIs hit) KBw.slot_next
    (wpAny_call_entry KBw.slot_next (KBw.iter_typeIs hit) KBw.entry_next ?_ (KBw.args_next _)))
  show wpAny _ _ (field (.ref it) 0 >>= _) _ _ s
  refine wpAny_bind (wpAny_field ho hd (x := .bytes b t) rfl ?_)
  show wpAny _ _ (if (Value.bytes b t == Value.none) = true then _ else _) _ _ s
  rw [if_neg (show ¬ ((Value.bytes b t == Value.none) = true) from Bool.false_ne_true)]
  show wpAny _ _ (field (.ref it) 1 >>= _) _ _ s
  refine wpAny_bind (wpAny_field ho hd (x := .int i 0) rfl ?_)
  refine wpAny_bind (wpAny_of_eq (a := b) rfl ?_)
  simp only [Int.toNat_natCast, hx]
  refine wpAny_bind (wpAny_setField ho hd (by simp) (wpAny_bind (wpAny_mkInt (wpAny_pure ⟨_, rfl, wpAny_pure (hQ _ ?_ (Heap.SameBut.update ..))⟩))))
  exact ⟨_, Heap.get?_update_self _ ho (Obj.isFreed_of_fields (Obj.data_mapFields hd _)), (Obj.cls_mapFields ..).trans hc, by
    rw [Obj.data_mapFields hd]; simp [rawInt]⟩
theorem nextOf_end {it : Addr} {b : Array UInt8} {t : Tok} {i : Nat} {Q : Value → Shared → Prop} (hh : A.handled = none) (hit : KBw.IsBytesIter s.heap it b t i) (hx : b[i]? = none)
    (hE : ∀ h' e, Heap.ExtBut it s.heap h' → (∃ o, h'.get? e = some o ∧ o.cls = .type "StopIteration") → E (.ref e) { s with heap := h' }) :
    wpAny (model prog w) A (Builtin.SmallTypes.nextOf (.ref it)) Q E s := by
  obtain ⟨o, ho, hc, hd⟩ := id hit
  unfold Builtin.SmallTypes.nextOf
  refine wpAny_bind (wpAny_callSpecial?_slot (name := PySem.Str.ofString "__next__") (KBw.iter_typeIs hit) KBw.slot_next
    (wpAny_call_entry KBw.slot_next (KBw.iter_typeIs hit) KBw.entry_next ?_ (KBw.args_next _)))
  show wpAny _ _ (field (.ref it) 0 >>= _) _ _ s
  refine wpAny_bind (wpAny_field ho hd (x := .bytes b t) rfl ?_)
  show wpAny _ _ (if (Value.bytes b t == Value.none) = true then _ else _) _ _ s
  rw [if_neg (show ¬ ((Value.bytes b t == Value.none) = true) from Bool.false_ne_true)]
  show wpAny _ _ (field (.ref it) 1 >>= _) _ _ s
  refine wpAny_bind (wpAny_field ho hd (x := .int i 0) rfl ?_)
  refine wpAny_bind (wpAny_of_eq (a := b) rfl ?_)
  simp only [Int.toNat_natCast, hx]
  refine wpAny_bind (wpAny_rule (wpAny_bind (wpAny_setField ho hd (by simp) ?_)))
  show wpAny _ _ (newExc (.type "StopIteration") [] >>= _) _ _ _
  refine wpAny_bind ?_
  simp only [newExc, newTuple]
  refine wpAny_bind (wpAny_newObj_type ?_ (by size_fits))
  refine wpAny_bind (m := firstArgMember _ _) (wpAny_of_eq (a := Value.none) (by first | rfl | (simp only [firstArgMember]; rfl)) ?_)
  refine wpAny_newObj_type ?_ (by size_fits)
  simp only [raiseNew]
  refine wpAny_bind (wpAny_handled ?_)
  first | rw [show A.in1.handled = none from hh] | rw [hh]
  refine wpAny_bind (wpAny_pure (wpAny_throw ?_))
  exact hE _ _ (((Heap.SameBut.update ..).extBut.push _).push _) ⟨_, Heap.get?_push_size _ rfl, rfl⟩
end
theorem drawsB {prog : Program} {w : World} {A : Around} (hh : A.handled = none) (it : Addr) (b : Array UInt8) (t : Tok) :
    Draws prog w A it [it] b.size (fun i v => ∃ (c : UInt8) (u : Tok), b[i]? = some c ∧ v = .int (c.toNat : Int) u) (fun i h => KBw.IsBytesIter h it b t i) where
  live := fun _ _ st => let ⟨o, ho, _⟩ := st; ⟨o, ho⟩
  frame := fun _ _ _ st hk => let ⟨o, ho, r⟩ := st; ⟨o, hk it (by simp) o ho, r⟩
  item := fun i s Q E hi st hQ => by
    refine nextOf_item st (c := b[i]) (by simp [hi]) fun h' hit' hs' => ?_
    exact hQ _ h' (s.toks + 1) ⟨_, _, by simp [hi], rfl⟩ hit' hs'
  done := fun s Q E st hE => nextOf_end hh st (by simp) hE

set_option maxHeartbeats 2000000 in
theorem meets_enumB (x : Array UInt8) (t : Tok) :
    Meets (Builtin.«enumerate.__new__» ⟨[.type "enumerate", .bytes x t], []⟩) (fun _ R s =>
      R (.ok (.ret (.ref (s.heap.push { cls := .type "bytes_iterator", data := .fields #[.bytes x t, .int 0 0] }).objs.size)))
        { s with heap := (s.heap.push { cls := .type "bytes_iterator", data := .fields #[.bytes x t, .int 0 0] }).push { cls := .type "enumerate", data := .fields #[.none, .bool false, .ref s.heap.objs.size, rawInt 0, .none, .none] } }) :=
  .of_wp fun prog w A R s h => by
    obtain ⟨hp, g, d, tk, os⟩ := s
    have hsub := sub_enumerate
    wp_walk
    refine wpAny_stack_any fun st => wpAny_pure ?_
    split
    · rename_i c _ _ _ _ _
      cases (c == Value.type "enumerate")
      · wp_walk using KBw.pyIter_bytes
        exact ⟨_, rfl, h⟩
      · wp_walk using KBw.pyIter_bytes
        exact ⟨_, rfl, h⟩
    · wp_walk using KBw.pyIter_bytes
      exact ⟨_, rfl, h⟩
section
variable {prog : Program} {w : World} {A : Around} {E : Value → Shared → Prop} {s : Shared}
theorem call_enumB {x : Array UInt8} {t : Tok} {Q : Value → Shared → Prop}
    (h : ∀ h', IsEnum h' (s.heap.objs.size + 1) s.heap.objs.size 0 .none → KBw.IsBytesIter h' s.heap.objs.size x t 0 → h'.objs.size = s.heap.objs.size + 2 →
      (∀ b o, s.heap.get? b = some o → h'.get? b = some o) → Q (.ref (s.heap.objs.size + 1)) { s with heap := h' }) :
    wpAny (model prog w) A (call (.type "enumerate") [.bytes x t]) Q E s := by
  refine callType_new PySem.F.called_enumerate (by decide) (PySem.F.typeCall_enumerate_1 _) (PySem.F.newCall_enumerate_1 _) (fun obj => PySem.F.args_object_init_2 obj _) PySem.F.entry_enumerate_new
    (meets_enumB x t) ?_
  have hz : (s.heap.push { cls := .type "bytes_iterator", data := .fields #[.bytes x t, .int 0 0] }).objs.size = s.heap.objs.size + 1 := Heap.size_push ..
  show _ ∧ _
  rw [hz]
  have he : IsEnum ((s.heap.push { cls := .type "bytes_iterator", data := .fields #[.bytes x t, .int 0 0] }).push
      { cls := .type "enumerate", data := .fields #[.none, .bool false, .ref s.heap.objs.size, rawInt 0, .none, .none] }) (s.heap.objs.size + 1) s.heap.objs.size 0 .none := by
    have := Heap.get?_push_size (s.heap.push { cls := .type "bytes_iterator", data := .fields #[.bytes x t, .int 0 0] })
      (o := { cls := .type "enumerate", data := .fields #[.none, .bool false, .ref s.heap.objs.size, rawInt 0, .none, .none] }) rfl
    rw [hz] at this; exact this
  exact ⟨⟨_, he, rfl⟩, h _ he ⟨_, Heap.get?_push_of_some _ (Heap.get?_push_size _ rfl), rfl, rfl⟩ (by rw [Heap.size_push, hz]) fun b o y => Heap.get?_push_of_some _ (Heap.get?_push_of_some _ y)⟩

-- a comprehension's loop whose target is a pair
theorem dloop {kx vx target iter : Expr} {scope : Scope} {pos : Pos} {it : Value} {D : Addr} {env : Env} {R : Result → Shared → Prop} (I : Nat → Shared → Prop)
    (turn : ∀ n s, I n s → wpAny (model prog w) A (pyNext it) (fun r s₁ => match r with
      | none => R (.ok .next) s₁
      | some v => wpAny (model prog w) A (letOwnedTupleGo target it v) (fun _ s₀ => wpAny (model prog w) A (assign target env v) (fun _ s₂ =>
          wpAny (model prog w) A (eval kx env) (fun kv s₄ => wpAny (model prog w) A (eval vx env) (fun vv s₅ =>
              wpAny (model prog w) A (dictSet D kv vv) (fun _ s₆ => ∃ m, m < n ∧ I m s₆) (notedBy (model prog w) A env fun e s' => R (.error e) s') s₅) (notedBy (model prog w) A env fun e s' => R (.error e) s') s₄) (notedBy (model prog w) A env fun e s' => R (.error e) s') s₂)
          (notedBy (model prog w) A env fun e s' => R (.error e) s') s₀) (notedBy (model prog w) A env fun e s' => R (.error e) s') s₁) (notedBy (model prog w) A env fun e s' => R (.error e) s') s)
    (n : Nat) (h : I n s) : codeAny (model prog w) A (.compLoop (.DictComp kx vx [⟨target, iter, [], 0⟩] scope pos) 0 it (.ref D) env) R s := by
  refine codeAny_loop rfl I (fun n s hI => ?_) n h
  show wpAny _ A ((compTurn (.DictComp kx vx [⟨target, iter, [], 0⟩] scope pos) 0 it (.ref D) env).onRaise (fun x => do noteFrame x env; theTreesLotGoes x)) _ _ s
  refine wpAny_noted ?_
  rw [compTurn_dict]
  refine wpAny_bind (wpAny_standAt (wpAny_bind (wpAny_mono (turn n s hI) (fun r s₁ h₁ => ?_) fun _ _ h' => h')))
  cases r with
  | none => exact wpAny_pure h₁
  | some v =>
    refine wpAny_bind (wpAny_mono h₁ (fun _ s₀ h₀' => ?_) fun _ _ h' => h')
    refine wpAny_bind (wpAny_mono h₀' (fun _ s₂ h₂ => ?_) fun _ _ h' => h')
    refine wpAny_bind (wpAny_tests_nil ?_)
    exact wpAny_bind (wpAny_bind (wpAny_mono h₂ (fun kv s₄ h₄ => wpAny_bind (wpAny_holding (wpAny_mono h₄ (fun vv s₅ h₅ => wpAny_bind (wpAny_standAt (wpAny_holding (wpAny_mono h₅ (fun _ s₆ h₆ => wpAny_pure ⟨rfl, h₆⟩) fun _ _ h' => h')))) fun _ _ h' => h'))) fun _ _ h' => h'))
end

/-- the object at hand is a dict that tells each sign its place -/
def MapIs (prog : Program) (w : World) (as : List Int) (o : Obj) : Prop :=
  ∃ kvs, o.IsDictOf (PySem.intKind prog w) kvs ∧ ∀ (i : Nat) (a : Int), as[i]? = some a → ∃ t, valueAt kvs a = some (.int (i : Int) t)

theorem valueAt_set {K : Type} [DecidableEq K] (k k' : K) (v : Value) : ∀ kvs : List (K × Value),
    valueAt (kvs.map fun kv => if kv.1 = k then (kv.1, v) else kv) k' = if k' = k then (if kvs.any (fun kv => kv.1 = k) then some v else none) else valueAt kvs k'
  | [] => by by_cases h : k' = k <;> simp [valueAt, h]
  | p :: r => by
    have ih := valueAt_set k k' v r
    unfold valueAt at ih ⊢
    rw [List.map_cons, List.find?_cons, List.find?_cons, List.any_cons]
    by_cases hp : p.1 = k
    · by_cases hk : k' = k
      · subst hk; simp [hp]
      · have : ¬ k = k' := fun e => hk e.symm
        simp only [hp, if_true, hk, if_false, this, decide_false] at ih ⊢
        exact ih
    · by_cases hk : k' = k
      · subst hk
        simp only [hp, if_false, decide_false, if_true, Bool.false_or] at ih ⊢
        exact ih
      · by_cases hq : p.1 = k'
        · simp [hk, hq]
        · simp only [hp, if_false, hk, hq, decide_false] at ih ⊢
          exact ih
theorem valueAt_stored {K : Type} [DecidableEq K] (kvs : List (K × Value)) (k k' : K) (v : Value) : valueAt (stored kvs k v) k' = if k' = k then some v else valueAt kvs k' := by
  unfold stored
  by_cases ha : kvs.any (fun kv => decide (kv.1 = k)) = true
  · rw [if_pos ha, valueAt_set, if_pos ha]
  · rw [if_neg ha]
    have hn : ∀ p ∈ kvs, ¬ p.1 = k := by
      intro p hp he
      exact ha (List.any_eq_true.2 ⟨p, hp, by simp [he]⟩)
    unfold valueAt
    rw [List.find?_append]
    by_cases hk : k' = k
    · subst hk
      have : kvs.find? (fun kv => decide (kv.1 = k')) = none := List.find?_eq_none.2 fun p hp => by simpa using hn p hp
      rw [this]; simp
    · rw [if_neg hk]
      have : ¬ k = k' := fun e => hk e.symm
      simp [this]

section
variable {prog : Program} {w : World} {A : Around} {E : Value → Shared → Prop} {s : Shared} {h₀ : Heap} {L : Addr} {m : Str → Option Value} {news : List (Addr × Obj)} {env : Env}

theorem keep_none {h h' : Heap} {a : Addr} (k : ∀ b o, h.get? b = some o → h'.get? b = some o) (e : h'.get? a = none) : h.get? a = none := by
  cases q : h.get? a with
  | none => rfl
  | some o => rw [k a o q] at e; cases e

/-- {char: index for index, char in enumerate(bytes)} : its loop -/
theorem enum_loop {a b : Str} {pa pb tp px py pos : Pos} {kk : Nat} {iter : Expr} {scope : Scope} {cenv : Env} {as : List Int} {bs : Array UInt8} {t : Tok} {e it D : Addr} {mC : Str → Option Value} {R : Result → Shared → Prop}
    (hh : A.handled = none) (hb : KBw.bInts bs = as) (hnd : as.Nodup) (hsz : as.length ≤ 1000) (hei : e ≠ it) (heD : D ≠ e) (hiD : D ≠ it) (hCe : cenv.locals ≠ e) (hCi : cenv.locals ≠ it) (hDC : D ≠ cenv.locals)
    (hxa : cenv.kindOf a = some .local) (hxb : cenv.kindOf b = some .local) (hkc : cenv.scope.kind = .function) (hab : ¬ b = a)
    (hda : (a == ("__debug__" : Str)) = false) (hdb : (b == ("__debug__" : Str)) = false)
    (he : IsEnum s.heap e it 0 .none) (hit : KBw.IsBytesIter s.heap it bs t 0) (hD : s.heap.DictOf (PySem.intKind prog w) D []) (hn : s.heap.Ns cenv.locals mC)
    (hR : ∀ h' tk m' kvs, h'.Ns cenv.locals m' → h'.DictOf (PySem.intKind prog w) D kvs → (∀ (i : Nat) (a : Int), as[i]? = some a → ∃ t, valueAt kvs a = some (.int (i : Int) t)) →
      (∀ c o, c ≠ cenv.locals → c ≠ e → c ≠ it → c ≠ D → s.heap.get? c = some o → h'.get? c = some o) → R (.ok .next) { s with heap := h', toks := tk }) :
    codeAny (model prog w) A (.compLoop (.DictComp (.Name b px) (.Name a py) [⟨.Tuple [.Name a pa, .Name b pb] kk tp, iter, [], 0⟩] scope pos) 0 (.ref e) (.ref D) cenv) R s := by
  have hlen : bs.size = as.length := by rw [← hb, KBw.ints_length]
  have W := WalksT.enumerateD (drawsB (prog := prog) (w := w) (A := A.in1) hh it bs t) e hei (by simp [hei]) (by simp)
  refine dloop (fun k s' => ∃ h' tk m' kvs, ∃ i : Nat, s' = { s with heap := h', toks := tk } ∧ i ≤ as.length ∧ k = as.length + 1 - i ∧ (∃ old, IsEnum h' e it i old) ∧ KBw.IsBytesIter h' it bs t i ∧
      h'.DictOf (PySem.intKind prog w) D kvs ∧ kvs.length ≤ i ∧ (∀ (j : Nat) (a : Int), j < i → as[j]? = some a → ∃ t, valueAt kvs a = some (.int (j : Int) t)) ∧ h'.Ns cenv.locals m' ∧
      (∀ c o, c ≠ cenv.locals → c ≠ e → c ≠ it → c ≠ D → s.heap.get? c = some o → h'.get? c = some o)) ?_ (as.length + 1)
    ⟨s.heap, s.toks, mC, [], 0, rfl, Nat.zero_le _, rfl, ⟨_, he⟩, hit, hD, Nat.zero_le _, fun j a hj => absurd hj (Nat.not_lt_zero _), hn, fun _ _ _ _ _ _ q => q⟩
  rintro k s' ⟨h', tk, m', kvs, i, rfl, hi, rfl, he', hit', hD', hkl, hv, hn', hk⟩
  by_cases hlt : i < as.length
  · refine W.item i _ _ _ (by rw [hlen]; exact hlt) ⟨he', hit'⟩ fun T vals h₂ tk₂ hPt hTlt hT hMd hk₂ => ?_
    refine W.go _ _ _ i T _ _ _ hMd fun h₃ hst₃ hk₃ => ?_
    obtain ⟨ti, x, ⟨c, u, hc, rfl⟩, rfl⟩ := hPt
    have up₃ : ∀ c o, c ≠ e → c ≠ it → h'.get? c = some o → h₃.get? c = some o := fun c o h1 h2 q => hk₃ c o (by simp [h1, h2]) (hk₂ c o (by simp [h1, h2]) q)
    have hT₃ : h₃.IsTuple T #[.int (i : Int) ti, .int (c.toNat : Int) u] := by
      obtain ⟨o, ho, r⟩ := hT
      exact ⟨o, hk₃ T o (W.apart i T _ hMd) ho, r⟩
    refine kcp_assign (env := cenv) hh hT₃ hxa hxb (by rw [hkc]; rfl) (hn'.at' fun o q => up₃ _ o hCe hCi q) fun h₄ tk₄ hn₄ hs₄ => ?_
    have up : ∀ c o, c ≠ cenv.locals → c ≠ e → c ≠ it → h'.get? c = some o → h₄.get? c = some o := fun c o h0 h1 h2 q => hs₄ c o h0 (up₃ c o h1 h2 q)
    refine wpAny_Name (wpAny_loadName_local hkc hxb hn₄ (v := .int (c.toNat : Int) u) (by simp) ?_) hdb
    refine wpAny_Name (wpAny_loadName_local hkc hxa hn₄ (v := .int (i : Int) ti) (by simp [Ne.symm hab]) ?_) hda
    obtain ⟨⟨old, heo⟩, hbo⟩ := hst₃
    have he₄ : IsEnum h₄ e it (i + 1 : Nat) old := hs₄ _ _ (Ne.symm hCe) heo
    have hb₄ : KBw.IsBytesIter h₄ it bs t (i + 1) := by
      obtain ⟨o, ho, r⟩ := hbo
      exact ⟨o, hs₄ _ o (Ne.symm hCi) ho, r⟩
    have hD₄ : h₄.DictOf (PySem.intKind prog w) D kvs := hD'.at fun o q => up D o hDC heD hiD q
    refine wpAny_dictSet_pairs (hsz := by rw [sizeLine_eq]; omega) (k := (c.toNat : Int)) (PySem.intKind_is _ _ _ _) hD₄ fun h₅ hD₅ hs₅ => ?_
    have hai : as[i]? = some (c.toNat : Int) := by rw [← hb]; exact KBw.ints_get hc
    refine ⟨as.length + 1 - (i + 1), by omega, h₅, _, _, _, i + 1, rfl, hlt, rfl, ⟨old, hs₅.extBut _ _ (Ne.symm heD) he₄⟩, ?_, hD₅, ?_, ?_, hn₄.sameBut hs₅ (Ne.symm hDC), fun c o h0 h1 h2 h3 q => hs₅.extBut c o h3 (up c o h0 h1 h2 (hk c o h0 h1 h2 h3 q))⟩
    · obtain ⟨o, ho, r⟩ := hb₄
      exact ⟨o, hs₅.extBut _ o (Ne.symm hiD) ho, r⟩
    · have := stored_length_le kvs (c.toNat : Int) (.int (i : Int) ti)
      omega
    · intro j a hj hja
      rw [valueAt_stored]
      by_cases hji : j = i
      · subst hji
        have : a = (c.toNat : Int) := by rw [hai] at hja; exact (Option.some.inj hja).symm
        exact ⟨ti, if_pos this⟩
      · have hja' : ¬ a = (c.toNat : Int) := by
          intro q
          subst q
          exact hji ((List.getElem?_inj (List.getElem?_eq_some_iff.1 hja).1 hnd).1 (by rw [hja, hai]))
        rw [if_neg hja']
        exact hv j a (by omega) hja
  · have hin : i = as.length := by omega
    subst hin
    refine W.done _ _ _ (by rw [hlen]; exact ⟨he', hit'⟩) fun h₁ tk₁ hk₁ => ?_
    have up₁ : ∀ c o, c ≠ e → c ≠ it → h'.get? c = some o → h₁.get? c = some o := fun c o h1 h2 q => hk₁ c o (by simp [h1, h2]) q
    refine hR h₁ tk₁ m' kvs (hn'.at' fun o q => up₁ _ o hCe hCi q) (hD'.at fun o q => up₁ _ o heD hiD q) ?_ fun c o h0 h1 h2 h3 q => up₁ c o h1 h2 (hk c o h0 h1 h2 h3 q)
    intro j a hja
    exact hv j a (by have := List.getElem?_eq_some_iff.1 hja; exact this.1) hja
def EnumPost (prog : Program) (w : World) (as : List Int) (h₀ : Heap) (L : Addr) (m : Str → Option Value) (news : List (Addr × Obj)) (Q : Value → Shared → Prop) (xv : Value) (s₁ : Shared) : Prop :=
  ∃ e it bs t, xv = .ref e ∧ e ≠ it ∧ IsEnum s₁.heap e it 0 .none ∧ KBw.IsBytesIter s₁.heap it bs t 0 ∧ KBw.bInts bs = as ∧ as.Nodup ∧ as.length ≤ 1000 ∧
      h₀.get? e = none ∧ h₀.get? it = none ∧ e ≠ L ∧ it ≠ L ∧ (∀ p ∈ news, p.1 ≠ e ∧ p.1 ≠ it) ∧ Fr h₀ L s₁.heap m ∧ News h₀ L s₁.heap news ∧
      (∀ D o h' tk, Fr h₀ L h' m → News h₀ L h' ((D, o) :: news) → (∀ p ∈ news, p.1 < D) → MapIs prog w as o → Q (.ref D) { s₁ with heap := h', toks := tk })
/-- {char: index for index, char in enumerate(bytes)} -/
theorem enum_map {a b : Str} {pa pb tp px py pos : Pos} {kk : Nat} {iter : Expr} {scope : Scope} {cl : List (Str × Addr)} {as : List Int} {Q : Value → Shared → Prop}
    (hh : A.handled = none) (hclos : closureFor scope env = pure cl) (hcell : ∀ y ∈ scope.names, y.2 ≠ .cell) (hkind : scope.kind = .function)
    (hnames : ∀ y ∈ scope.names, y.2 = .local → scope.names.lookup y.1 = some .local) (hxa : scope.names.lookup a = some .local) (hxb : scope.names.lookup b = some .local) (hab : ¬ b = a)
    (hda : (a == ("__debug__" : Str)) = false) (hdb : (b == ("__debug__" : Str)) = false) (hs : ∀ x, foldedSetIterable iter env x = pure x) (_F : Fr h₀ L s.heap m) (_N : News h₀ L s.heap news) {b₀ : Array UInt8} (_hb : KBw.bInts b₀ = as)
    (h : wpAny (model prog w) A (eval iter env) (fun xv s₁ => EnumPost prog w as h₀ L m news Q xv s₁) E s) :
    wpAny (model prog w) A (eval (.DictComp (.Name b px) (.Name a py) [⟨.Tuple [.Name a pa, .Name b pb] kk tp, iter, [], 0⟩] scope pos) env) Q E s := by
  rw [arm_eval_DictComp]
  refine wpAny_comprehension_free (use := none) rfl hs hclos hkind hnames (wpAny_mono h (fun xv s₁ h₁ => ?_) fun _ _ e => e)
  obtain ⟨e, it, bs, t, rfl, hei, he, hit, hb, hnd, hsz, he₀, hi₀, heL, hiL, off, F, N, hQ⟩ := h₁
  refine wpAny_pyIter_enum he ?_
  refine wpAny_newObj_type (wpAny_newFunctionEnv hcell (by intro y hy; simp at hy) (fun h₁ hns₁ hsb₁ => ?_) hkind)
  dsimp only at hns₁ hsb₁ ⊢
  have hnew : (s₁.heap.push { cls := .type "dict", dict := none, data := .dict #[] }).DictOf (PySem.intKind prog w) s₁.heap.objs.size [] := Heap.DictOf.new s₁.heap
  generalize hH2 : s₁.heap.push { cls := .type "dict", dict := none, data := .dict #[] } = H2 at hns₁ hsb₁ hnew ⊢
  have hC : H2.objs.size = s₁.heap.objs.size + 1 := by rw [← hH2, Heap.size_push]
  have hDC : s₁.heap.objs.size ≠ H2.objs.size := by rw [hC]; exact Nat.ne_of_lt (Nat.lt_succ_self _)
  have below : ∀ b, b < s₁.heap.objs.size → b ≠ H2.objs.size ∧ b ≠ s₁.heap.objs.size := fun b hb => ⟨by rw [hC]; exact Nat.ne_of_lt (Nat.lt_succ_of_lt hb), Nat.ne_of_lt hb⟩
  have old : ∀ b o, s₁.heap.get? b = some o → h₁.get? b = some o := fun b o e => hsb₁.extBut b o (below b (Heap.lt_size e)).1 (Heap.get?_push_of_some _ (hH2 ▸ Heap.get?_push_of_some _ e))
  have hacc : h₁.DictOf (PySem.intKind prog w) s₁.heap.objs.size [] := hnew.at fun o e => hsb₁.extBut _ _ hDC (Heap.get?_push_of_some _ e)
  have helt : e < s₁.heap.objs.size := Heap.lt_size he
  have hilt : it < s₁.heap.objs.size := by obtain ⟨_, q, _⟩ := hit; exact Heap.lt_size q
  have fresh₀ : ∀ a, s₁.heap.objs.size ≤ a → h₀.get? a = none := fun a ha => by
    cases q : h₀.get? a with
    | none => rfl
    | some o' => exact absurd (Heap.lt_size (F.keep a o' q)) (Nat.not_lt.mpr ha)
  have hLlt : L < s₁.heap.objs.size := F.ns.lt
  have hC₀ : h₀.get? H2.objs.size = none := fresh₀ _ (by rw [hC]; exact Nat.le_succ _)
  have loop : ∀ s₃ : Shared, s₃ = { s₁ with heap := h₁, toks := s₁.toks + ([] : List (Str × Value)).length } →
      codeAny (model prog w) A (.compLoop (.DictComp (.Name b px) (.Name a py) [⟨.Tuple [.Name a pa, .Name b pb] kk tp, iter, [], 0⟩] scope pos) 0 (.ref e) (.ref s₁.heap.objs.size) (compEnvC scope cl H2.objs.size env))
        (compPost (model prog w) A E none Q (.ref s₁.heap.objs.size) H2.objs.size) s₃ := by
    rintro s₃ rfl
    refine enum_loop (cenv := compEnvC scope cl H2.objs.size env) hh hb hnd hsz hei (below _ helt).2.symm (below _ hilt).2.symm (below _ helt).1.symm (below _ hilt).1.symm hDC
      (lookup_relabel_local hxa) (lookup_relabel_local hxb) (by simp [compEnvC, relabel, hkind]) hab hda hdb (old _ _ he) (by obtain ⟨o, ho, r⟩ := hit; exact ⟨o, old _ _ ho, r⟩) hacc hns₁ ?_
    intro h' tk m' kvs hn' hD' hv hk
    refine ⟨m', hn', fun h'' hs'' => ?_⟩
    have keep : ∀ c o, c ≠ e → c ≠ it → s₁.heap.get? c = some o → h''.get? c = some o := fun c o h1 h2 q =>
      hs''.extBut c o (below c (Heap.lt_size q)).1 (hk c o (below c (Heap.lt_size q)).1 h1 h2 (below c (Heap.lt_size q)).2 (old c o q))
    have F' : Fr h₀ L h'' m := ⟨F.ns.at' fun o q => keep _ o (Ne.symm heL) (Ne.symm hiL) q, fun c o q => keep c o (fun z => by rw [z, he₀] at q; cases q) (fun z => by rw [z, hi₀] at q; cases q) (F.keep c o q), F.above⟩
    have hD'' : h''.DictOf (PySem.intKind prog w) s₁.heap.objs.size kvs := hD'.at fun o q => hs''.extBut _ o hDC q
    obtain ⟨o, ho, hdo⟩ := Heap.dictOf_iff.mp hD''
    refine hQ s₁.heap.objs.size o h'' _ F' (fun p hp => ?_) (fun p hp => Heap.lt_size (N p hp).1) ⟨kvs, hdo, hv⟩
    rcases List.mem_cons.mp hp with rfl | hp
    · exact ⟨ho, Nat.ne_of_gt hLlt, fresh₀ _ (Nat.le_refl _)⟩
    · exact ⟨keep _ _ (off p hp).1 (off p hp).2 (N p hp).1, (N p hp).2⟩
  exact codeAny_compStart_dict (loop _ rfl) (wpAny_pyIter_enum (e := e) (by exact old _ _ he) (loop _ rfl))
theorem enum_call {as : List Int} {bs : Array UInt8} {t : Tok} {Q : Value → Shared → Prop} (F : Fr h₀ L s.heap m) (N : News h₀ L s.heap news) (hb : KBw.bInts bs = as) (hnd : as.Nodup) (hsz : as.length ≤ 1000)
    (h : ∀ D o h' tk, Fr h₀ L h' m → News h₀ L h' ((D, o) :: news) → (∀ p ∈ news, p.1 < D) → MapIs prog w as o → Q (.ref D) { s with heap := h', toks := tk }) :
    wpAny (model prog w) A (call (.type "enumerate") [.bytes bs t]) (fun xv s₁ => EnumPost prog w as h₀ L m news Q xv s₁) E s := by
  refine call_enumB fun h' he hit hz hk => ?_
  have hL : L < s.heap.objs.size := F.ns.lt
  have fr : ∀ a, s.heap.objs.size ≤ a → h₀.get? a = none := fun a ha => by
    cases q : h₀.get? a with
    | none => rfl
    | some o' => exact absurd (Heap.lt_size (F.keep a o' q)) (Nat.not_lt.mpr ha)
  exact ⟨_, _, bs, t, rfl, Nat.succ_ne_self _, he, hit, hb, hnd, hsz, fr _ (Nat.le_succ _), fr _ (Nat.le_refl _), Nat.ne_of_gt (Nat.lt_succ_of_lt hL), Nat.ne_of_gt hL, fun p hp => ⟨Nat.ne_of_lt (Nat.lt_succ_of_lt (Heap.lt_size (N p hp).1)), Nat.ne_of_lt (Heap.lt_size (N p hp).1)⟩, F.keptAll hk, N.grown hk, h⟩
/-- reading it -/
theorem map_item {as : List Int} {d : Addr} {o : Obj} {a : Int} {i : Nat} {tk : Tok} {value slice : Expr} {Q : Value → Shared → Prop} (N : News h₀ L s.heap news) (hm : (d, o) ∈ news) (x : MapIs prog w as o) (ha : as[i]? = some a)
    (h : ∀ t' k, Q (.int (i : Int) t') { s with toks := k })
    (hs : subscripted slice false (.ref d) (.int a tk) = operate [.ref d, .int a tk] (getItem (.ref d) (.int a tk)) := by with_unfolding_all rfl)
    (hg : ∀ r, letTemporaryGo value (.ref d) r = pure () := by intro _; with_unfolding_all rfl) : wpAny (model prog w) A (subscriptTail value slice (.ref d) (.int a tk)) Q E s := by
  obtain ⟨kvs, hdo, hv⟩ := x
  obtain ⟨t, ht⟩ := hv i a ha
  have hd : s.heap.DictOf (PySem.intKind prog w) d kvs := Heap.dictOf_iff.mpr ⟨o, N.get hm, hdo⟩
  exact subscriptTail_builtin hd.typeIs slot_dict_getitem.lookup (wpAny_getItem_of (PySem.intKind_is _ _ _ _) hd.mapOf ht (h t _)) hs hg
end
theorem mem_idx {as : List Int} {a : Int} (h : a ∈ as) : as[as.idxOf a]? = some a := by
  rw [List.getElem?_eq_getElem (List.idxOf_lt_length_of_mem h)]
  exact congrArg some (List.getElem_idxOf _)
theorem mem_mid {ks as pre post : List Int} {k : Int} (h : ∀ k ∈ ks, k ∈ as) (e : ks = pre ++ k :: post) : k ∈ as := h k (by rw [e]; simp)
theorem mem_of {ks as : List Int} {k : Int} (h : ∀ k ∈ ks, k ∈ as) (hk : k ∈ ks) : k ∈ as := h k hk
theorem map_in {prog : Program} {w : World} {A : Around} {E : Value → Shared → Prop} {s : Shared} {h₀ : Heap} {L : Addr} {news : List (Addr × Obj)} {as : List Int} {d : Addr} {o : Obj} {a : Int} {tk : Tok} {value slice : Expr} {Q : Value → Shared → Prop} (N : News h₀ L s.heap news) (hm : (d, o) ∈ news) (x : MapIs prog w as o) (ha : a ∈ as)
    (h : ∀ t' k, Q (.int ((as.idxOf a : Nat) : Int) t') { s with toks := k })
    (hs : subscripted slice false (.ref d) (.int a tk) = operate [.ref d, .int a tk] (getItem (.ref d) (.int a tk)) := by with_unfolding_all rfl)
    (hg : ∀ r, letTemporaryGo value (.ref d) r = pure () := by intro _; with_unfolding_all rfl) : wpAny (model prog w) A (subscriptTail value slice (.ref d) (.int a tk)) Q E s :=
  map_item N hm x (mem_idx ha) h hs hg
theorem off_lt {a b : Addr} {l : List (Addr × Obj)} (hb : a ≤ b) (h : ∀ p ∈ l, p.1 < a) : ∀ p ∈ l, p.1 ≠ b := fun p hp => Nat.ne_of_lt (Nat.lt_of_lt_of_le (h p hp) hb)
theorem off_allLt {a b : Addr} {l : List (Addr × Obj)} (hb : a ≤ b) (h : AllLt a l) : ∀ p ∈ l, p.1 ≠ b := off_lt hb (ktn_ltOf h)
end
end Mine
end
section
-- part P1
-- the plain law's words
namespace Mine
/-- the digits of n to the base B, the greatest first; none for nought -/
def dg (B n : Nat) : List Nat := if h : n = 0 ∨ B < 2 then [] else dg B (n / B) ++ [n % B]
termination_by n
decreasing_by exact Nat.div_lt_self (by omega) (by omega)
theorem dg_zero (B : Nat) : dg B 0 = [] := by rw [dg]; simp
theorem dg_pos {B n : Nat} (hB : 2 ≤ B) (hn : n ≠ 0) : dg B n = dg B (n / B) ++ [n % B] := by
  rw [dg]
  rw [dif_neg (by omega)]
theorem dg_length_le {B : Nat} (hB : 2 ≤ B) : ∀ (k n : Nat), n < 2 ^ k → (dg B n).length ≤ k
  | 0, n, h => by
    have : n = 0 := by simpa using h
    subst this
    rw [dg_zero]; simp
  | k + 1, n, h => by
    by_cases hn : n = 0
    · subst hn; rw [dg_zero]; simp
    · rw [dg_pos hB hn, List.length_append, List.length_singleton]
      have h2 : n / B ≤ n / 2 := Nat.div_le_div_left hB (by decide)
      have := dg_length_le hB k (n / B) (by rw [Nat.pow_succ] at h; omega)
      omega
/-- the sign of a digit -/
def sg (as : List Int) (d : Nat) : Int := as.getD d 0
def encL (as : List Int) (n : Nat) : List Int := (dg as.length n).map (sg as)
end Mine
end
section
-- part P2
set_option maxRecDepth 100000
open PySem PySem.W PyProof.Rows
namespace Mine
theorem encL_zero (as : List Int) : encL as 0 = [] := by unfold encL; rw [dg_zero]; rfl
theorem encL_pos {as : List Int} {q : Nat} (hs : 2 ≤ as.length) (hq : q ≠ 0) : encL as q = encL as (q / as.length) ++ [sg as (q % as.length)] := by
  unfold encL; rw [dg_pos hs hq, List.map_append]; rfl
theorem encL_len {as : List Int} {n k : Nat} (hs : 2 ≤ as.length) (hn : n < 2 ^ k) : (encL as n).length ≤ k := by
  unfold encL; rw [List.length_map]; exact dg_length_le hs k n hn
theorem enc_rest {as : List Int} {n k : Nat} {i : Int} {bs : List Int} (hs : 2 ≤ as.length) (hn : n < 2 ^ k) (h : ∃ q : Nat, i = (q : Int) ∧ encL as q ++ bs = encL as n) : bs.length ≤ k := by
  obtain ⟨q, _, e⟩ := h
  have h1 := encL_len hs hn
  rw [← e, List.length_append] at h1
  omega
theorem enc_start {as : List Int} {n : Nat} : ∃ q : Nat, (n : Int) = (q : Int) ∧ encL as q ++ KBw.bInts #[] = encL as n := ⟨n, rfl, List.append_nil _⟩
theorem take_one {as : List Int} {d : Nat} (hd : d < as.length) : List.take (clipAt as.length ((d : Int) + 1) - clipAt as.length (d : Int)) (List.drop (clipAt as.length (d : Int)) as) = [sg as d] := by
  have e1 : clipAt as.length ((d : Int) + 1) = d + 1 := by
    have := clipAt_nat as.length (d + 1)
    rw [Int.natCast_add] at this
    rw [show ((1 : Nat) : Int) = 1 from rfl] at this
    rw [this]; omega
  have e2 : clipAt as.length (d : Int) = d := by rw [clipAt_nat]; omega
  rw [e1, e2, show d + 1 - d = 1 by omega]
  have h1 : as.drop d = as[d] :: as.drop (d + 1) := List.drop_eq_getElem_cons hd
  rw [h1]
  simp only [List.take_succ_cons, List.take_zero]
  unfold sg
  rw [List.getD_eq_getElem?_getD, List.getElem?_eq_getElem hd]
  rfl
theorem enc_turn {as : List Int} {n : Nat} {i : Int} {str p : Array UInt8} (hs : 2 ≤ as.length) (hinv : ∃ q : Nat, i = (q : Int) ∧ encL as q ++ KBw.bInts str = encL as n) (hi : i ≠ 0)
    (hp : KBw.bInts p = List.take (clipAt as.length (i.fmod as.length + 1) - clipAt as.length (i.fmod as.length)) (List.drop (clipAt as.length (i.fmod as.length)) as)) :
    ∃ q : Nat, i.fdiv as.length = (q : Int) ∧ encL as q ++ KBw.bInts (p ++ str) = encL as n := by
  obtain ⟨q, rfl, e⟩ := hinv
  have hq : q ≠ 0 := by omega
  have hlt : q % as.length < as.length := Nat.mod_lt _ (by omega)
  have hm : (q : Int).fmod (as.length : Int) = ((q % as.length : Nat) : Int) := by rw [Int.fmod_eq_emod_of_nonneg _ (by omega)]; omega
  have hd : (q : Int).fdiv (as.length : Int) = ((q / as.length : Nat) : Int) := by rw [Int.fdiv_eq_ediv_of_nonneg _ (by omega)]; omega
  refine ⟨q / as.length, hd, ?_⟩
  rw [hm] at hp
  rw [take_one hlt] at hp
  rw [KBw.ints_app hp rfl, ← e, encL_pos hs hq, List.append_assoc]
theorem enc_less {P : Nat → Prop} {as : List Int} {i : Int} (hs : 2 ≤ as.length) (h : ∃ q : Nat, i = (q : Int) ∧ P q) (hi : i ≠ 0) : (i.fdiv as.length).toNat < i.toNat := by
  obtain ⟨q, rfl, _⟩ := h
  have hd : (q : Int).fdiv (as.length : Int) = ((q / as.length : Nat) : Int) := by rw [Int.fdiv_eq_ediv_of_nonneg _ (by omega)]; omega
  rw [hd]
  have : q / as.length < q := Nat.div_lt_self (by omega) (by omega)
  omega
theorem enc_end {as : List Int} {n : Nat} {i : Int} {bs : List Int} (h : ∃ q : Nat, i = (q : Int) ∧ encL as q ++ bs = encL as n) (hi : i = 0) : bs = encL as n := by
  obtain ⟨q, rfl, e⟩ := h
  have : q = 0 := by omega
  subst this
  rw [encL_zero, List.nil_append] at e
  exact e
section
open PySem.Spec PySem.Calls
variable {prog : Program} {w : World} {A : Around} {E : Value → Shared → Prop} {s : Shared} {al str : Array UInt8} {t u : Tok} {as : List Int}
theorem add_pick {lo hi : Option Int} {Q : Value → Shared → Prop} (hal : KBw.bInts al = as) (h2 : as.length ≤ 58) (hl : (KBw.bInts str).length ≤ 1000) (h : ∀ t' k, Q (.bytes (KBy.picked al lo hi ++ str) t') { s with toks := k }) :
    wpAny (model prog w) A (binaryOp .Add (.bytes (KBy.picked al lo hi) t) (.bytes str u)) Q E s := by
  refine KBa.add_K rfl rfl ?_ fun t' k _ => h t' k
  have e2 := KBc.size_picked_le al lo hi
  have e3 := KBw.ints_length al
  rw [hal] at e3
  rw [KBw.ints_length]
  omega
end
end Mine
end
section
-- part P3
set_option maxRecDepth 100000
open PySem PySem.W PyProof.Rows
namespace Mine
/-- noughts ahead, then the digits -/
def encodeL (as ks : List Int) : List Int := List.replicate (ks.length - (ks.dropWhile (fun x => x == 0)).length) (sg as 0) ++ encL as (bvN (ks.dropWhile (fun x => x == 0)))
theorem dropWhile_len (p : Int → Bool) (ks : List Int) : (ks.dropWhile p).length ≤ ks.length := (List.dropWhile_suffix p).length_le
theorem bvN_bound {r : Array UInt8} {ls : List Int} {k : Nat} (h : KBw.bInts r = ls) (hl : ls.length ≤ k) (hk : k ≤ 125) : bvN ls < 2 ^ 1000 := by
  subst h
  refine Nat.lt_of_lt_of_le (bvN_lt r) ?_
  rw [KBw.ints_length] at hl
  have e : (256 : Nat) = 2 ^ 8 := by decide
  rw [e, ← Nat.pow_mul]
  exact Nat.pow_le_pow_right (by decide) (by omega)
theorem enc_bound {r : Array UInt8} {ks : List Int} {p : Int → Bool} (h : KBw.bInts r = ks.dropWhile p) (hl : ks.length ≤ 100) : bvN (ks.dropWhile p) < 2 ^ 1000 :=
  bvN_bound h (Nat.le_trans (dropWhile_len p ks) hl) (by decide)
theorem zero_sign {as : List Int} (hs : 2 ≤ as.length) : List.take (clipAt as.length 1 - clipAt as.length 0) (List.drop (clipAt as.length 0) as) = [sg as 0] := by
  have h := take_one (as := as) (d := 0) (by omega)
  simpa using h
section
open PySem.Spec PySem.Calls
variable {prog : Program} {w : World} {A : Around} {E : Value → Shared → Prop} {s : Shared}
theorem mul_K {b : Array UInt8} {z n : Int} {t u : Tok} {Q : Value → Shared → Prop} (hb : KBw.bInts b = [z]) (hlo : 0 ≤ n) (hn : n ≤ 1000) (h : ∀ r t' k, KBw.bInts r = List.replicate n.toNat z → Q (.bytes r t') { s with toks := k }) :
    wpAny (model prog w) A (binaryOp .Mult (.bytes b t) (.int n u)) Q E s := by
  have e : b = b.toList.toArray := Array.toArray_toList.symm
  have hl : b.toList.length = 1 := by
    have : (KBw.bInts b).length = 1 := by rw [hb]; rfl
    rw [KBw.ints_length] at this
    rw [Array.length_toList]; exact this
  rw [e]
  refine bytes_mul_any (fun q => by rw [q] at hl; cases hl) (by omega) (by omega) (by omega) fun t' k => h _ t' k ?_
  rw [KBw.ints_list, List.map_flatten, List.map_replicate]
  have : b.toList.map (fun c : UInt8 => ((c.toNat : Nat) : Int)) = [z] := hb
  rw [this]
  exact List.flatten_replicate_singleton
end
end Mine
end
section
-- part P4
set_option maxRecDepth 100000
open PySem PySem.W PyProof.Rows
namespace Mine
theorem hashL_len (ks : List Int) : (hashL ks).length = 4 := rfl
theorem len_of_hash {r : Array UInt8} {ks : List Int} (_ : KBw.bInts r = hashL ks) : (hashL ks).length = 4 := rfl
theorem hash_four (x : List Int) : List.take (clipAt (hashL x).length 4) (hashL x) = hashL x := by
  rw [hashL_len, show clipAt 4 4 = 4 from by decide]
  exact List.take_of_length_le (Nat.le_of_eq (hashL_len x))
end Mine
end
section
-- part P5
set_option maxRecDepth 100000
open PySem PySem.W PyProof.Rows
namespace Mine
/-- the number that digits to the base B make -/
def valD (B : Nat) (ds : List Nat) : Nat := ds.foldl (fun a d => a * B + d) 0
/-- the number that signs make -/
def valS (as ks : List Int) : Nat := valD as.length (ks.map fun k => as.idxOf k)
def IntIs (n : Int) (v : Value) : Prop := ∃ t, v = .int n t
end Mine
namespace Mine
theorem valS_nil {as : List Int} : (0 : Int) = ((valS as [] : Nat) : Int) := rfl
theorem valS_snoc {as pre : List Int} {k d : Int} (h : d = ((valS as pre : Nat) : Int)) : d * (as.length : Int) + ((as.idxOf k : Nat) : Int) = ((valS as (pre ++ [k]) : Nat) : Int) := by
  subst h
  unfold valS valD
  rw [List.map_append, List.foldl_append]
  simp
end Mine
end
section
-- part P6
set_option maxRecDepth 100000
open PySem PySem.W PyProof.Rows
namespace Mine
def digI (B n : Nat) : List Int := (dg B n).map (fun (d : Nat) => (d : Int))
def decodeL (as ks : List Int) : List Int := List.replicate (ks.length - (ks.dropWhile (fun x => x == sg as 0)).length) 0 ++ digI 256 (valS as (ks.dropWhile (fun x => x == sg as 0)))
theorem digI_pos {n : Nat} (hn : n ≠ 0) : digI 256 n = digI 256 (n / 256) ++ [((n % 256 : Nat) : Int)] := by
  unfold digI; rw [dg_pos (by decide) hn, List.map_append]; rfl
theorem digI_zero : digI 256 0 = [] := by unfold digI; rw [dg_zero]; rfl
theorem dw_in {as ks : List Int} {p : Int → Bool} (h : ∀ k ∈ ks, k ∈ as) : ∀ k ∈ ks.dropWhile p, k ∈ as := fun k hk => h k ((List.dropWhile_suffix p).subset hk)
theorem dw_33 {ks : List Int} {p : Int → Bool} (h : ∀ k ∈ ks, 33 ≤ k) : ∀ k ∈ ks.dropWhile p, 33 ≤ k := fun k hk => h k ((List.dropWhile_suffix p).subset hk)
end Mine
namespace Mine
theorem digI_len {n k : Nat} (hn : n < 2 ^ k) : (digI 256 n).length ≤ k := by
  unfold digI; rw [List.length_map]; exact dg_length_le (by decide) k n hn
/-- the loop's word: what is left, and the digits so far, the least first -/
def DecAt (N : Nat) (i : Int) (res : List Int) : Prop := (∃ q : Nat, i = (q : Int) ∧ digI 256 q ++ res.reverse = digI 256 N) ∧ res.length ≤ 1300
theorem dec_start {N : Nat} : DecAt N (N : Int) [] := ⟨⟨N, rfl, List.append_nil _⟩, by decide⟩
theorem dec_turn {N : Nat} {i : Int} {res : List Int} (hN : N < 2 ^ 1300) (h : DecAt N i res) (hi : 0 < i) :
    DecAt N (i.fdiv 256) (res ++ [i.fmod 256]) := by
  obtain ⟨⟨q, rfl, e⟩, _⟩ := h
  have hq : q ≠ 0 := by omega
  have hm : (q : Int).fmod 256 = ((q % 256 : Nat) : Int) := by rw [Int.fmod_eq_emod_of_nonneg _ (by omega)]; omega
  have hd : (q : Int).fdiv 256 = ((q / 256 : Nat) : Int) := by rw [Int.fdiv_eq_ediv_of_nonneg _ (by omega)]; omega
  have e2 : digI 256 (q / 256) ++ (res ++ [(q : Int).fmod 256]).reverse = digI 256 N := by
    rw [hm, ← e, digI_pos hq, List.reverse_append, List.append_assoc]
    rfl
  refine ⟨⟨q / 256, hd, e2⟩, ?_⟩
  have h3 := digI_len hN
  rw [← e2, List.length_append, List.length_reverse] at h3
  omega
theorem dec_less {N : Nat} {i : Int} {res : List Int} (h : DecAt N i res) (hi : 0 < i) : (i.fdiv 256).toNat < i.toNat := by
  obtain ⟨⟨q, rfl, _⟩, _⟩ := h
  have hd : (q : Int).fdiv 256 = ((q / 256 : Nat) : Int) := by rw [Int.fdiv_eq_ediv_of_nonneg _ (by omega)]; omega
  rw [hd]
  omega
theorem valD_lt {B : Nat} (hB : 0 < B) : ∀ (ds : List Nat) (a : Nat), (∀ d ∈ ds, d < B) → ds.foldl (fun a d => a * B + d) a < (a + 1) * B ^ ds.length
  | [], a, _ => by simp
  | d :: r, a, h => by
    have hd := h d (List.mem_cons_self ..)
    have ih := valD_lt hB r (a * B + d) fun x hx => h x (List.mem_cons_of_mem _ hx)
    rw [List.foldl_cons, List.length_cons, Nat.pow_succ]
    have h2 : a * B + d + 1 ≤ (a + 1) * B := by rw [Nat.add_mul]; omega
    have h3 := Nat.mul_le_mul_right (B ^ r.length) h2
    have e : (a + 1) * (B ^ r.length * B) = (a + 1) * B * B ^ r.length := by rw [Nat.mul_comm (B ^ r.length) B, Nat.mul_assoc]
    rw [e]
    exact Nat.lt_of_lt_of_le ih h3
theorem valS_lt {as ks : List Int} (h : ∀ k ∈ ks, k ∈ as) (h0 : 0 < as.length) : valS as ks < as.length ^ ks.length := by
  have := valD_lt h0 (ks.map fun k => as.idxOf k) 0 (by
    intro d hd
    obtain ⟨k, hk, rfl⟩ := List.mem_map.1 hd
    exact List.idxOf_lt_length_of_mem (h k hk))
  unfold valS valD
  simpa using this
theorem valS_bound {as ks : List Int} (h : ∀ k ∈ ks, k ∈ as) (hs : 2 ≤ as.length) (hs2 : as.length ≤ 58) (hl : ks.length ≤ 200) : valS as ks < 2 ^ 1300 := by
  refine Nat.lt_of_lt_of_le (valS_lt h (by omega)) ?_
  have h1 : as.length ^ ks.length ≤ 64 ^ ks.length := Nat.pow_le_pow_left (by omega) _
  have h2 : 64 ^ ks.length ≤ 64 ^ 200 := Nat.pow_le_pow_right (by decide) hl
  have e : (64 : Nat) = 2 ^ 6 := by decide
  have h3 : (64 : Nat) ^ 200 = 2 ^ 1200 := by rw [e, ← Nat.pow_mul]
  have h4 : (2 : Nat) ^ 1200 ≤ 2 ^ 1300 := Nat.pow_le_pow_right (by decide) (by decide)
  rw [h3] at h2
  exact Nat.le_trans h1 (Nat.le_trans h2 h4)
theorem dec_end {N : Nat} {i : Int} {res : List Int} (h : DecAt N i res) (hi : ¬ 0 < i) : res.reverse = digI 256 N := by
  obtain ⟨⟨q, rfl, e⟩, _⟩ := h
  have : q = 0 := by omega
  subst this
  rw [digI_zero] at e
  exact e
end Mine
namespace Mine
theorem dg_lt {B : Nat} (hB : 2 ≤ B) : ∀ (k n : Nat), n < 2 ^ k → ∀ d ∈ dg B n, d < B
  | 0, n, h => by
    have : n = 0 := by simpa using h
    subst this
    rw [dg_zero]; intro d hd; cases hd
  | k + 1, n, h => by
    by_cases hn : n = 0
    · subst hn; rw [dg_zero]; intro d hd; cases hd
    · rw [dg_pos hB hn]
      have h2 : n / B ≤ n / 2 := Nat.div_le_div_left hB (by decide)
      have ih := dg_lt hB k (n / B) (by rw [Nat.pow_succ] at h; omega)
      intro d hd
      rcases List.mem_append.1 hd with hd | hd
      · exact ih d hd
      · rw [List.mem_singleton.1 hd]; exact Nat.mod_lt _ (by omega)
theorem dg_lt' {B : Nat} (hB : 2 ≤ B) (n : Nat) : ∀ d ∈ dg B n, d < B := dg_lt hB n n Nat.lt_two_pow_self
theorem digI_in (n : Nat) : ∀ d ∈ digI 256 n, 0 ≤ d ∧ d < 256 := by
  intro d hd
  obtain ⟨e, he, rfl⟩ := List.mem_map.1 hd
  have := dg_lt' (by decide) n e he
  omega
theorem dec_range {N : Nat} {i : Int} {res : List Int} (h : DecAt N i res) : ∀ n ∈ res, 0 ≤ n ∧ n < 256 := by
  obtain ⟨⟨q, _, e⟩, _⟩ := h
  intro n hn
  exact digI_in N n (by rw [← e]; exact List.mem_append.2 (.inr (List.mem_reverse.2 hn)))
theorem dec_len {N : Nat} {i : Int} {vs : List Value} {res : List Int} (h : DecAt N i res) (hi : IntsAre vs res) : vs.length ≤ 1300 ∧ res.length ≤ 1300 := ⟨by rw [hi.length]; exact h.2, h.2⟩
end Mine
namespace Mine
theorem bInts_rep (n : Nat) : KBw.bInts (List.replicate n [(0 : UInt8)]).flatten.toArray = List.replicate n 0 := by
  rw [KBw.ints_list, List.map_flatten, List.map_replicate]
  exact List.flatten_replicate_singleton
end Mine
end
section
-- part B4
set_option maxRecDepth 100000
open PySem PySem.W PyProof.Rows PySem.Spec PySem.Calls
namespace Mine
noncomputable section
theorem lri_no_bytes : typeLookup (.type "list_reverseiterator") "__bytes__" = pure none := by rw [typeLookup_type, builtinLookup_eq_fast]; kernel_rfl
theorem lri_no_index : typeLookup (.type "list_reverseiterator") "__index__" = pure none := by rw [typeLookup_type, builtinLookup_eq_fast]; kernel_rfl
theorem lri_no_buffer : typeLookup (.type "list_reverseiterator") "__buffer__" = pure none := by rw [typeLookup_type, builtinLookup_eq_fast]; kernel_rfl
theorem lri_no_len : typeLookup (.type "list_reverseiterator") "__len__" = pure none := by rw [typeLookup_type, builtinLookup_eq_fast]; kernel_rfl
theorem lri_hint : typeLookup (.type "list_reverseiterator") "__length_hint__" = pure (some (.builtin "list_reverseiterator.__length_hint__")) := by rw [typeLookup_type, builtinLookup_eq_fast]; kernel_rfl
theorem lri_split : splitId "list_reverseiterator.__length_hint__" = some ("list_reverseiterator", "__length_hint__") := by decide +kernel
theorem lri_sub : isSubtype (.type "list_reverseiterator") (.type "list_reverseiterator") = pure true := by rw [isSubtype_type]; kernel_rfl

section
variable {prog : Program} {w : World} {A : Around} {E : Value → Shared → Prop} {s : Shared}
/-- bytes out of what a walk brings -/
theorem bw_loop {R : Result → Shared → Prop} {I S : Addr} {fp wr : List Addr} {n : Nat} {P : Nat → Value → Prop} {St : Nat → Heap → Prop} (W : Walks prog w A.in1 I fp wr n P St) {ns : List Int} (hn : ns.length = n)
    (hP : ∀ i v, i < n → P i v → ∃ k t, ns[i]? = some k ∧ v = .int k t) (hr : ∀ k ∈ ns, 0 ≤ k ∧ k < 256) (hz : n ≤ sizeLine) (hS : S ∉ fp) :
    ∀ (k i : Nat) (s : Shared), n - i = k → i ≤ n → St i s.heap → s.heap.get? S = some { cls := .type "bytearray", data := .bytearray (byteArr (ns.take i)) } →
      (∀ h' t k', (∀ b o, b ∉ wr → b ≠ S → s.heap.get? b = some o → h'.get? b = some o) → R (.ok (.ret (.bytes (byteArr ns) t))) { s with heap := h', toks := k' }) →
      codeAny (model prog w) A (.builtin "bytes.__new__.loop" ⟨[.type "bytes", .ref I, .ref S], []⟩) R s := by
  have hSw : S ∉ wr := fun h => hS (W.sub _ h)
  intro k
  induction k with
  | zero =>
    intro i s hk hle hst hSo hR
    have hin : i = n := by omega
    subst hin
    refine codeAny_builtin PySem.F.bm_entry_loop ?_
    rw [Around.under_plainId PySem.F.bm_plain_loop _]
    show wpAny _ A.in1 (pyNext (.ref I) >>= _) _ _ s
    refine wpAny_bind (W.done _ _ _ hst fun h' tk he => ?_)
    have hS' : h'.get? S = some { cls := .type "bytearray", data := .bytearray (byteArr (ns.take i)) } := he S _ hSw hSo
    refine wpAny_bind ?_
    unfold Builtin.Bytes.payload Builtin.Bytes.payload?
    refine wpAny_bind (wpAny_bind (wpAny_load hS' ?_))
    refine wpAny_pure (wpAny_pure ?_)
    rw [← hn, List.take_length]
    refine wpAny_bind (wpAny_mkBytes ?_ (by rw [byteArr_size, hn]; exact hz))
    show wpAny _ _ (if (Value.type "bytes" == Value.type "bytes") = true then _ else _) _ _ _
    refine bm_if_true (by decide) ?_
    first
      | exact wpAny_pure (hR h' _ _ fun b o hb _ e => he b o hb e)
      | exact wpAny_bind (wpAny_pure (wpAny_pure (hR h' _ _ fun b o hb _ e => he b o hb e)))
  | succ k ih =>
    intro i s hk hle hst hSo hR
    have hlt : i < n := by omega
    refine codeAny_builtin PySem.F.bm_entry_loop ?_
    rw [Around.under_plainId PySem.F.bm_plain_loop _]
    show wpAny _ A.in1 (pyNext (.ref I) >>= _) _ _ s
    refine wpAny_bind (W.item i _ _ _ hlt hst fun v h' tk hPv hst' hs => ?_)
    obtain ⟨n', t, hn', rfl⟩ := hP i v hlt hPv
    obtain ⟨h0, h1⟩ := hr n' (List.mem_of_getElem? hn')
    have hS' : h'.get? S = some { cls := .type "bytearray", data := .bytearray (byteArr (ns.take i)) } := hs S _ hSw hSo
    refine wpAny_bind (wpAny_holding (wpAny_of_eq (rfl : asIndex (.int n' t) = pure n') ?_))
    refine wpAny_bind (wpAny_letGo ?_)
    refine bm_if_false (by simp only [Bool.or_eq_false_iff, decide_eq_false_iff_not]; omega) ?_
    refine wpAny_bind ?_
    show wpAny _ _ (updateBytearray S (·.push n'.toNat.toUInt8)) _ _ _
    unfold updateBytearray
    refine wpAny_bind (wpAny_load hS' ?_)
    show wpAny _ _ (update S (Obj.mapBytearray (·.push n'.toNat.toUInt8)) >>= fun _ => lookBehind S) _ _ _
    refine wpAny_bind (wpAny_update hS' ?_)
    have hS₂ : (h'.update S (Obj.mapBytearray (·.push n'.toNat.toUInt8))).get? S = some { cls := .type "bytearray", data := .bytearray (byteArr (ns.take (i + 1))) } := by
      rw [byteArr_take hn']
      exact Heap.get?_update_self (Obj.mapBytearray (·.push n'.toNat.toUInt8)) hS' rfl
    refine wpAny_lookBehind hS₂ ?_ ?_
    · show (if (byteArr (ns.take (i + 1))).size > sizeLine then some "bytearray:memory" else none) = none
      rw [if_neg]
      rw [byteArr_size, List.length_take]
      omega
    · refine wpAny_pure ⟨plainId_quiet PySem.F.bm_plain_loop _, ih (i + 1) { s with heap := h'.update S (Obj.mapBytearray (·.push n'.toNat.toUInt8)), toks := tk } (by omega) hlt ?_ hS₂ fun h3 t' k' hk3 => ?_⟩
      · exact W.frame _ _ _ hst' fun b hb o e => (Heap.get?_update_other _ _ (fun q => by subst q; exact hS hb)).trans e
      · exact hR h3 t' k' fun b o hbI hbS e => hk3 b o hbI hbS ((Heap.get?_update_other _ _ (Ne.symm hbS)).trans (hs b o hbI e))

theorem br_new {I l : Addr} {vs : List Value} {ns : List Int} {Q : Value → Shared → Prop} (hh : A.handled = none) (hI : s.heap.IsRevIter I l ((vs.length : Int) - 1)) (hl : s.heap.IsList l vs.toArray) (hne : l ≠ I) (hi : IntsAre vs ns) (hr : ∀ n ∈ ns, 0 ≤ n ∧ n < 256) (hz : ns.length ≤ sizeLine)
    (hQ : ∀ h' t k, (∀ b o, b ≠ I → s.heap.get? b = some o → h'.get? b = some o) → Q (.bytes (byteArr ns.reverse) t) { s with heap := h', toks := k }) :
    codeAny (model prog w) A (.call (.builtin "bytes.__new__") ⟨[.type "bytes", .ref I], []⟩) (wants Q E) s := by
  refine codeAny_of_tree ?_
  show wpAny _ A.in1 (do checkBuiltinCall "bytes.__new__" ⟨[.type "bytes", .ref I], []⟩; again (.builtin "bytes.__new__" ⟨[.type "bytes", .ref I], []⟩)) _ _ s
  refine wpAny_bind (wpAny_of_eq (PySem.F.bm_newCall _) (wpAny_pure ⟨plainId_quiet PySem.F.bm_plain _, codeAny_builtin PySem.F.bm_entry ?_⟩))
  rw [Around.under_plainId PySem.F.bm_plain _]
  have hT : s.TypeIs (.ref I) "list_reverseiterator" := hI.typeIs
  obtain ⟨oI, hoI, hcI, hdI⟩ := id hI
  unfold Builtin.«bytes.__new__»
  refine wpAny_bind (wpAny_of_eq (a := true) rfl ?_)
  refine bm_if_false rfl ?_
  refine wpAny_bind (wpAny_of_eq PySem.F.bm_sub ?_)
  refine bm_if_false rfl ?_
  refine wpAny_bind (wpAny_of_eq (PySem.F.bm_bind _) ?_)
  refine wpAny_bind (wpAny_of_eq (a := ()) rfl ?_)
  refine wpAny_bind (wpAny_of_eq (a := ()) rfl ?_)
  refine bm_if_false rfl ?_
  refine wpAny_bind (wpAny_specialOf hT lri_no_bytes ?_)
  refine wpAny_bind (wpAny_bind ?_)
  show wpAny _ _ (load I >>= _) _ _ _
  refine wpAny_bind (wpAny_load hoI ?_)
  rw [hdI]
  refine wpAny_pure (wpAny_pure ?_)
  refine bm_if_false rfl ?_
  refine wpAny_bind (wpAny_specialOf hT lri_no_index ?_)
  refine bm_if_true rfl ?_
  first
    | show wpAny _ _ (Builtin.Bytes.buffer? "bytes.__new__" (.ref I) true >>= _) _ _ _
    | (refine wpAny_bind ?_; show wpAny _ _ (Builtin.Bytes.buffer? "bytes.__new__" (.ref I) true >>= _) _ _ _)
  refine wpAny_bind ?_
  unfold Builtin.Bytes.buffer?
  refine wpAny_bind (wpAny_specialOf hT lri_no_buffer ?_)
  refine wpAny_bind (wpAny_specialOf hT lri_no_buffer ?_)
  refine wpAny_pure ?_
  refine wpAny_bind (wpAny_tryCatch (wpAny_pyIter_revIter hI ?_))
  refine wpAny_bind (wpAny_holding ?_)
  unfold Builtin.Bytes.lengthHint
  refine wpAny_bind (wpAny_specialOf hT lri_no_len ?_)
  refine bm_if_false rfl ?_
  refine wpAny_bind (wpAny_specialOf hT lri_hint ?_)
  dsimp only
  rw [lri_split]
  dsimp only
  refine wpAny_bind (wpAny_isInstance hT lri_sub ?_)
  refine bm_if_false rfl ?_
  refine bm_if_true (by decide +kernel) ?_
  refine bm_if_false (by decide +kernel) ?_
  refine wpAny_pure ?_
  refine wpAny_bind ?_
  unfold Builtin.Bytes.newBytearray
  refine wpAny_newObj_type ?_ (Nat.zero_le _)
  have hlen : vs.length = ns.length := hi.length
  have W := Walks.listRev (prog := prog) (w := w) (A := A.in1) hh I l hne vs.toArray
  have hlt : l < s.heap.objs.size := by obtain ⟨o, ho, _⟩ := hl; exact Heap.lt_size ho
  have hIlt : I < s.heap.objs.size := Heap.lt_size hoI
  have main := bw_loop (A := A) (R := wants Q E) (S := s.heap.objs.size) W (ns := ns.reverse) (by rw [List.length_reverse, List.size_toArray, hlen]) (by
      intro i v hlt' hP
      rw [List.size_toArray] at hlt' hP
      obtain ⟨k, t, rfl, hk⟩ := IntsAre.at hi (vs.length - 1 - i) v (by simpa using hP)
      refine ⟨k, t, ?_, rfl⟩
      rw [List.getElem?_reverse (by omega), ← hlen]
      exact hk) (fun k hk => hr k (List.mem_reverse.1 hk)) (by rw [List.size_toArray, hlen]; exact hz)
    (by intro hm; rcases List.mem_cons.1 hm with q | q; exact Nat.lt_irrefl _ (q ▸ hIlt); exact Nat.lt_irrefl _ ((List.mem_singleton.1 q) ▸ hlt))
    vs.toArray.size 0 { s with heap := s.heap.push { cls := .type "bytearray", data := .bytearray #[] } } rfl (Nat.zero_le _)
    ⟨Nat.zero_le _, by
      have e : ((vs.toArray.size : Nat) : Int) - 1 - ((0 : Nat) : Int) = (vs.length : Int) - 1 := by rw [List.size_toArray]; omega
      rw [e]; exact hI.at fun o q => Heap.get?_push_of_some _ q, hl.push _⟩ (Heap.get?_push_size _ rfl)
    fun h' t k hk => hQ h' t k fun b o hb e => hk b o (by simpa using hb) (Nat.ne_of_lt (Heap.lt_size e)) (Heap.get?_push_of_some _ e)
  first
    | exact wpAny_pure ⟨plainId_quiet PySem.F.bm_plain_loop _, main⟩
    | exact wpAny_pure (wpAny_pure ⟨plainId_quiet PySem.F.bm_plain_loop _, main⟩)

/-- bytes(reversed(list)) -/
theorem bytes_rev {h₀ : Heap} {L I l : Addr} {m : Str → Option Value} {news : List (Addr × Obj)} {vs : List Value} {ns : List Int} {nn : Nat} {Q : Value → Shared → Prop} (hh : A.handled = none) (F : Fr h₀ L s.heap m)
    (N : News h₀ L s.heap ((I, revObj I' ((vs.length : Int) - 1)) :: (l, listOf vs.toArray nn) :: news)) (e : I' = l) (hlt : l < I) (off : AllLt I news) (hi : IntsAre vs ns) (hr : ∀ n ∈ ns, 0 ≤ n ∧ n < 256) (hz : ns.length ≤ 100000)
    (h : ∀ r h' t k, KBw.bInts r = ns.reverse → Fr h₀ L h' m → News h₀ L h' ((l, listOf vs.toArray nn) :: news) → Q (.bytes r t) { s with heap := h', toks := k }) :
    wpAny (model prog w) A (call (.type "bytes") [.ref I]) Q E s := by
  subst e
  have hIo := N _ (.head _)
  have hlo := N _ (.tail _ (.head _))
  refine callType_codes (Q₁ := fun obj s₁ => s₁.TypeIs obj "bytes" ∧ Q obj s₁) PySem.F.bm_called (PySem.F.bm_typeCall _) PySem.F.entry_object_init
    (br_new hh ⟨_, hIo.1, rfl, rfl⟩ ⟨_, hlo.1, rfl, _, rfl⟩ (Nat.ne_of_lt hlt) hi hr (by rw [sizeLine_eq]; omega) fun h' t k hk => ⟨PySem.W.typeIs_bytes _ _ _, ?_⟩) fun obj s₁ h₁ => ?_
  · refine h _ h' t k (KBa.ints_make fun k hk => hr k (List.mem_reverse.1 hk)) ⟨F.ns.at' fun o q => hk _ o (Ne.symm hIo.2.1) q, fun b o q => hk b o (fun z => by have := hIo.2.2; rw [z] at q; rw [this] at q; cases q) (F.keep b o q), F.above⟩ fun p hp => ?_
    have hp' := N p (.tail _ hp)
    refine ⟨hk _ _ ?_ hp'.1, hp'.2⟩
    rcases List.mem_cons.1 hp with rfl | hp
    · exact Nat.ne_of_lt hlt
    · exact Nat.ne_of_lt (ktn_ltOf off p hp)
  · exact ⟨h₁.1, PySem.F.args_object_init_2 obj _, object_init_meets PySem.F.bm_called.init.lookup PySem.F.bm_called.made (by decide) prog w A.in1 _ s₁ ⟨h₁.1, rfl, h₁.2⟩⟩
end
end
end Mine
end
section
-- part P7
set_option maxRecDepth 100000
open PySem PySem.W PyProof.Rows
namespace Mine
theorem clip4 (n : Nat) : clipAt n (-4) = n - 4 := by
  unfold clipAt
  omega
/-- the last four are the hash's hash of what stands ahead -/
def Sound (xs : List Int) : Prop := xs.drop (xs.length - 4) = hashL (hashL (xs.take (xs.length - 4)))
theorem toList_of {p q : Array UInt8} (h : KBw.bInts p = KBw.bInts q) : p.toList = q.toList := (List.map_inj_right (fun _ _ e => toNat_inj e)).1 h
section
variable {p q r : Array UInt8} {xs os : List Int}
theorem chk_iff (hp : KBw.bInts p = List.take (xs.length - clipAt xs.length (-4)) (List.drop (clipAt xs.length (-4)) xs))
    (hq : KBw.bInts q = List.take (clipAt (hashL (hashL (List.take (clipAt xs.length (-4)) xs))).length 4) (hashL (hashL (List.take (clipAt xs.length (-4)) xs)))) :
    (p.toList != q.toList) = false ↔ Sound xs := by
  rw [hash_four] at hq
  rw [clip4] at hp hq
  have e : List.take (xs.length - (xs.length - 4)) (List.drop (xs.length - 4) xs) = List.drop (xs.length - 4) xs := List.take_of_length_le (by rw [List.length_drop]; omega)
  rw [e] at hp
  unfold Sound
  rw [← hp, ← hq]
  constructor
  · intro h
    have : p.toList = q.toList := by simpa using h
    unfold KBw.bInts
    rw [this]
  · intro h
    simp [toList_of h]
theorem sound_of (h : xs = os ++ hashL (hashL os)) : Sound xs := by
  unfold Sound
  subst h
  have e : (os ++ hashL (hashL os)).length - 4 = os.length := by rw [List.length_append, hashL_len]; omega
  rw [e, List.take_left, List.drop_left]
theorem chk_valid (h : xs = os ++ hashL (hashL os)) (hp : KBw.bInts p = List.take (xs.length - clipAt xs.length (-4)) (List.drop (clipAt xs.length (-4)) xs))
    (hq : KBw.bInts q = List.take (clipAt (hashL (hashL (List.take (clipAt xs.length (-4)) xs))).length 4) (hashL (hashL (List.take (clipAt xs.length (-4)) xs)))) (hne : (p.toList != q.toList) = true) : False := by
  rw [(chk_iff hp hq).2 (sound_of h)] at hne
  cases hne
theorem chk_bad (h : ¬ Sound xs) (hp : KBw.bInts p = List.take (xs.length - clipAt xs.length (-4)) (List.drop (clipAt xs.length (-4)) xs))
    (hq : KBw.bInts q = List.take (clipAt (hashL (hashL (List.take (clipAt xs.length (-4)) xs))).length 4) (hashL (hashL (List.take (clipAt xs.length (-4)) xs)))) (hne : (p.toList != q.toList) = false) : False :=
  h ((chk_iff hp hq).1 hne)
theorem body_valid (h : xs = os ++ hashL (hashL os)) (hp : KBw.bInts p = List.take (clipAt xs.length (-4)) xs) : KBw.bInts p = os := by
  rw [hp, clip4]
  subst h
  have e : (os ++ hashL (hashL os)).length - 4 = os.length := by rw [List.length_append, hashL_len]; omega
  rw [e, List.take_left]
end
theorem dg_len256 : ∀ (k n : Nat), n < 256 ^ k → (dg 256 n).length ≤ k
  | 0, n, h => by
    have : n = 0 := by simpa using h
    subst this; rw [dg_zero]; exact Nat.le_refl 0
  | k + 1, n, h => by
    by_cases hn : n = 0
    · subst hn; rw [dg_zero]; exact Nat.zero_le _
    · rw [dg_pos (by decide) hn, List.length_append, List.length_singleton]
      have := dg_len256 k (n / 256) (by rw [Nat.pow_succ] at h; omega)
      omega
theorem decodeL_len {as ks : List Int} (hin : ∀ k ∈ ks, k ∈ as) (hs : 2 ≤ as.length) (hs2 : as.length ≤ 58) : (decodeL as ks).length ≤ ks.length := by
  unfold decodeL digI
  rw [List.length_append, List.length_replicate, List.length_map]
  have h1 := dropWhile_len (fun x => x == sg as 0) ks
  have h2 := valS_lt (dw_in (p := fun x => x == sg as 0) hin) (by omega)
  have h3 := dg_len256 (ks.dropWhile (fun x => x == sg as 0)).length _ (Nat.lt_of_lt_of_le h2 (Nat.pow_le_pow_left (by omega) _))
  omega
def BoolIs (b : Bool) (v : Value) : Prop := v = .bool b
end Mine
end
section
-- part B5
set_option maxRecDepth 100000
open PySem PySem.W PyProof.Rows PySem.Spec PySem.Calls
namespace Mine
noncomputable section
section
variable {prog : Program} {w : World} {A₀ A : Around} {s : Shared} {base h₀ : Heap} {L : Addr} {m : Str → Option Value} {news : List (Addr × Obj)} {K : Frag} {p : Program} {loose : List Str} {mean : ExcName → Option Value} {mg mb : Str → Option Value}
    {R : Result → Shared → Prop} {name qual : Str} {params : Arguments} {body : List Stmt} {scope : Scope} {dV kV doc pm cdv ct oc : Value} {an od : Option Addr} {osl : Array (Option Value)} {f : Addr} {args : Args} {binds : List (Str × Value)} {env : Env}

theorem mem_frame {b : Addr} (hf : env.frame = some L) (hm : b ∈ [env].filterMap (·.frame)) : b = L := by
  obtain ⟨e, he, hb⟩ := List.mem_filterMap.mp hm
  rw [List.mem_singleton.1 he, hf] at hb
  exact (Option.some.inj hb).symm

/-- a def that catches, called from a frame that may hold cells, the only one -/
theorem enter_catch (B : Below A₀ base [] h₀) (F : Fr h₀ L s.heap m) (X₀ : K.In h₀) (N : News h₀ L s.heap news) (T : Top p loose mean mg mb h₀) (hA : A.frames = some [env]) (hf : env.frame = some L) (hck : env.scope.kind = .function)
    (ho : K.lookup f = some ⟨oc, od, .func (fnOf name qual params body scope dV kV doc pm an cdv ct), osl⟩) (hcd : codeIn K cdv qual = true) (hroom : A.depth < recursionLimit)
    (hbind : BindsTo s (fnOf name qual params body scope dV kV doc pm an cdv ct) args binds) (hloc : ∀ y ∈ binds, scope.names.lookup y.1 = some .local)
    (h : ∀ g L' h₁, Fr h₀ L g m → Fr g L' h₁ (fun y => binds.reverse.lookup y) → News g L' h₁ news → Below A base [env] g → K.In g → Top p loose mean mg mb g → KtsDicts ([env].filterMap (·.frame)) g →
      wpAny (model prog w) (A.deeper (envOf qual scope L' f cdv)) (execs body (envOf qual scope L' f cdv))
        (fun fl s' => LeaveS0 ([env].filterMap (·.frame)) h₀ L m g R (match fl with | .ret v => v | _ => .none) s')
        (fun e s' => wpAny (model prog w) (A.deeper (envOf qual scope L' f cdv)) (leaving (envOf qual scope L' f cdv) e) (fun _ s'' => R (.error e) s'') (fun e' s'' => R (.error e') s'') s')
        { s with heap := h₁, toks := s.toks + binds.length })
    (hco : scope.isCoroutine = false) (hgen : scope.isGenerator = false) (hk : scope.kind = .function)
    (hcell : ∀ x ∈ scope.names, x.2 ≠ .cell) : codeAny (model prog w) A (.call (.ref f) args) R s := by
  have X := X₀.keeps F.keep
  have out : ∀ b o, h₀.get? b = some o → b ∉ news.map (·.1) := fun b o e q => by
    obtain ⟨p, hp, rfl⟩ := List.mem_map.mp q
    rw [(N p hp).2.2] at e; cases e
  have st : h₀.StaysIn (hideAll s.heap (news.map (·.1))) := fun b o e => hideAll_get _ (F.keep b o e) (out b o e)
  obtain ⟨oL, es, ep, hL, hLd, hLk, hLf⟩ := F.ns
  have nL : L ∉ news.map (·.1) := fun q => by
    obtain ⟨p, hp, e⟩ := List.mem_map.mp q
    exact (N p hp).2.1 e
  have hLg := hideAll_get (news.map (·.1)) hL nL
  have ns : ∀ (sl : Array (Option Value)) h', h'.get? L = some { oL with slots := sl } → Heap.Ns h' L m := fun sl h' e => ⟨_, es, ep, e, hLd, hLk, hLf⟩
  have B₁ := pushX B F hf hck
  have B₂ : Below A base [env] (hideAll s.heap (news.map (·.1))) := ⟨hA, fun b o e => st b o (B.stays b o e), funFrames_hideAll B₁.frames fun e he b hb hfb => by
    rw [List.mem_singleton.1 he, hf] at hfb
    exact nL ((Option.some.inj hfb) ▸ hb)⟩
  refine codeAny_call_def (fd := fnOf name qual params body scope dV kV doc pm an cdv ct) (body := body) (binds := binds) hroom (X _ _ ho) rfl (T.nolimit.keeps F.keep) (codeRec_of X hcd) rfl hbind hcell hloc (fun h₁ hns hk₁ => ?_) hco hgen hk
  refine wpAny_mono (h _ s.heap.objs.size h₁ ⟨⟨oL, es, ep, hLg, hLd, hLk, hLf⟩, st, F.above⟩ ⟨hns, fun b o e => hk₁ b o (of_hideAll _ e), Nat.le_of_eq (hideAll_size _ _)⟩
    (fun p hp => ⟨hk₁ _ _ (N p hp).1, Nat.ne_of_lt (Heap.lt_size (N p hp).1), hideAll_none _ (List.mem_map_of_mem hp)⟩) B₂ (X₀.keeps st) (T.keeps st) (fun b hb => by
      rw [mem_frame hf hb]
      exact ⟨oL, es, ep, hLg, hLd⟩)) (fun fl s' hl => ?_) fun _ _ y => y
  obtain ⟨g', L', m', news', T', F', N', k⟩ := hl
  have nL₀ : h₀.get? L = none := kts_self F
  obtain ⟨sl, hs⟩ := T'.up hLg
  refine k ⟨ns sl _ (F'.keep _ _ hs), fun b o e => F'.keep b o (T'.other b o (st b o e) fun q => ?_), F.above⟩ fun p hp => ⟨(N' p hp).1, fun q => ?_, ?_⟩
  · rw [mem_frame hf q, nL₀] at e
    cases e
  · have := (N' p hp).2.2; rw [q, hs] at this; cases this
  · cases q : h₀.get? p.1 with
    | none => rfl
    | some o =>
      obtain ⟨sl', hs'⟩ := T'.up (st _ _ q)
      have := (N' p hp).2.2
      rw [hs'] at this
      cases this
end

/-- what a call of a def that catches does, from the one frame that stands above the text's own objects -/
abbrev Tells3 (w : World) (dpN unN : Nat) (f : Addr) (vs : List Value) (kw : List (Str × Value)) (Ok : Value → Prop) : Prop :=
  ∀ (mean : ExcName → Option Value) (mg mb : Str → Option Value) (news : List (Addr × Obj)) (dp un : Nat) (gd : Option (List Code)) (cn : Str) (cs : Scope) (a : Addr) (ccd : Value) (cl : List (Str × Addr)) (A₀ : Around) (h₀ : Heap) (L : Addr) (m : Str → Option Value) (s : Shared) (Q E : Value → Shared → Prop),
    Below A₀ h₀ [] h₀ → Fr h₀ L s.heap m → (Kf w).In h₀ → News h₀ L s.heap news → Top Vw Ls mean mg mb h₀ → cs.kind = .function →
    dp + dpN < recursionLimit → un + unN < cLine → RetV h₀ L m news s Q Ok →
      wpAny (model Pr w) (ktrTop dp un gd cn cs L a ccd cl []) (call (.ref f) vs kw) Q E s
end
end Mine
end
section
-- part W2
open PySem PySem.W PyProof.Rows PySem.Spec PySem.Calls
set_option Elab.async false
set_option maxRecDepth 100000
set_option maxHeartbeats 4000000
set_option pp.deepTerms false
set_option linter.unusedVariables false
namespace Mine
local macro_rules | `(tactic| k_room) => `(tactic| ktr_room)
local macro_rules | `(tactic| k_units) => `(tactic| ktr_units)
local macro_rules | `(tactic| cell_enter) => `(tactic| (refine' code_def ?k1 ?k2 ?k3 ?k4 ?k5 ?kA ?kF ?kK ?k6 ?k7 ?k8 ?k9 ?kB ?_ ?c2 ?c3 ?c4 ?c5; (case kA => exact rfl); (case kF => exact rfl); (case kK => assumption); (case k1 => k_asm); (case k2 => k_asm); (case k3 => k_asm); (case k4 => k_asm); (case k5 => k_asm); (case k6 => k_is); (case k7 => k_is); (case k8 => ktr_room); (case k9 => first | exact BindsTo.of_eq rfl | exact binds_K (by k_in) rfl (by k_is) rfl rfl rfl | (refine' kp_binds ?kx ?ke; (case kx => k_in); (case ke => exact fun _ => rfl))); (case c5 => decide); (case kB => exact locs rfl); (case c2 => exact rfl); (case c3 => exact rfl); (case c4 => exact rfl); k_whole; intro g' L' h' FG' F' N' B' X' T'; (try dsimp only); (try k_lift B'); (try k_fold)))
local macro_rules | `(tactic| walk_at "callWith ref nil") => `(tactic| (k_here; kfb_any; k_dflt (refine' callWith_boundKW ?kfbN ?kfbM ?kfbH ?_; (case kfbN => k_asm); (case kfbM => k_mem); (case kfbH => rfl); k_whole)))
local macro_rules | `(tactic| walk_at "getMethod bytes") => `(tactic| (k_here; first | (with_reducible refine meth_lstrip ?_) | (with_reducible refine meth_rstrip ?_)))
local macro_rules | `(tactic| walk_at "call builtin:bytes.rstrip") => `(tactic| (k_here; refine rstrip_K (by assumption) (by assumption) ?_; intro _ _))
local macro_rules | `(tactic| walk_at "compareOp NotIn bytes bytes") => `(tactic| (k_here; refine' notIn_K ?nF ?nN ?nH ?nb ?nc ?nn ?_; (case nF => k_asm); (case nN => k_asm); (case nH => exact rfl); (case nb => assumption); (case nc => exact (rfl : KBw.bInts #[32] = [32])); (case nn => assumption); intro hN' _ FN' NN'; (try k_sweep)))
local macro_rules | `(tactic| walk_at "eval DictComp Name Name cons") => `(tactic| (k_here; k_dflt (refine' enum_map ?e1 ?e2 ?e3 ?e4 ?e5 ?e6 ?e7 ?e8 ?e9 ?e10 ?e11 ?eF ?eN ?eB ?_; (case eB => assumption); (case e1 => exact rfl); (case eF => k_asm); (case eN => k_asm); (case e2 => with_unfolding_all rfl); (case e3 => decide); (case e4 => with_unfolding_all rfl); (case e5 => decide); (case e6 => with_unfolding_all rfl); (case e7 => with_unfolding_all rfl); (case e8 => decide); (case e9 => decide); (case e10 => decide); (case e11 => intro _; with_unfolding_all rfl))))
local macro_rules | `(tactic| walk_at "call type:enumerate") => `(tactic| (k_here; k_dflt (refine' enum_call ?e1 ?e2 ?e3 ?e4 ?e5 ?_; (case e1 => k_asm); (case e2 => k_asm); (case e3 => assumption); (case e4 => assumption); (case e5 => omega); intro eD eo eh etk eFr eNews eLt eMap; (try k_lt eLt); (try dsimp only); (try k_fold); (try k_sweep))))
local macro_rules | `(tactic| k_all) => `(tactic| first | exact off_lt (Nat.le_refl _) (by assumption) | exact off_lt (Nat.le_succ _) (by assumption) | exact off_allLt (Nat.le_refl _) (by assumption) | exact off_allLt (Nat.le_succ _) (by assumption))
local macro_rules | `(tactic| walk_at "subscriptTail Name Name ref int") => `(tactic| (k_here; (with_reducible show wpAny _ _ (subscriptTail (Expr.Name _ _) _ (Value.ref _) (Value.int _ _)) _ _ _); k_dflt (refine' map_in ?m1 ?m2 ?m3 ?m4 ?_; (case m1 => k_asm); (case m2 => k_mem); (case m3 => assumption); (case m4 => first | assumption | exact mem_mid (by assumption) (by assumption) | exact mem_of (by assumption) (by assumption)); k_whole; intro _ _)))
local macro_rules | `(tactic| walk_at "pyIter bytes") => `(tactic| k_extra "pyIter bytes")

theorem hash_tells (w : World) (b : Array UInt8) (tb : Tok) (ks : List Int) (hb : KBw.bInts b = ks) (hl : ks.length ≤ 200) : Tells2 w 1 8 85 [.bytes b tb] [] (BytesIs (hashL ks)) := by
  dsimp only [Tells2, RetV, Pr, Vw, Ls, Kf]
  k_fill
  w_top off
  k_with_none
  intro mean mg mb news dp un gd cn cs a ccd cl outer A₀ base h₀ L m s Q E B F X N T hk hd hu hret
  refine wpAny_call ?_
  k_dflt cell_enter
  k_steps
  refine fb_call (by k_asm) (by k_mem) hb (by omega) ?_
  intro _ _
  k_steps
  exact hret _ _ _ ⟨_, _, rfl, by assumption⟩ (by k_asm) (cb_drop (by assumption) (by kcj_all))

theorem encint_tells (w : World) (n : Nat) (tn : Tok) (al : Array UInt8) (ta : Tok) (as : List Int) (hal : KBw.bInts al = as) (hn : n < 2 ^ 1000) (hs : 2 ≤ as.length) (hs2 : as.length ≤ 58) : Tells2 w 2 16 29 [.int (n : Int) tn] [(Str.ofString "default_one", .bool false), (Str.ofString "alphabet", .bytes al ta)] (BytesIs (encL as n)) := by
  dsimp only [Tells2, RetV, Pr, Vw, Ls, Kf]
  k_fill
  w_top off
  k_with_none
  intro mean mg mb news dp un gd cn cs a ccd cl outer A₀ base h₀ L m s Q E B F X N T hk hd hu hret
  k_with "exec While Name cons nil" => k_while (fun _ i str => ∃ q : Nat, i = (q : Int) ∧ encL as q ++ KBw.bInts str = encL as n) (fun _ i _ => i.toNat) "i" "string"
  k_with "state" => first | exact enc_start | exact enc_turn hs (by assumption) (by assumption) (by assumption)
  k_with "measure" => exact enc_less hs (by assumption) (by assumption)
  k_with "binaryOp Add bytes bytes" => (refine add_pick hal hs2 (enc_rest hs hn (by assumption)) ?_; intro _ _)
  refine wpAny_call ?_
  k_dflt cell_enter
  k_steps
  all_goals exact hret _ _ _ ⟨_, _, rfl, enc_end (by assumption) (by assumption)⟩ (by k_asm) (cb_drop (by assumption) (by kcj_all))
end Mine
end
section
-- part W3
open PySem PySem.W PyProof.Rows PySem.Spec PySem.Calls
set_option Elab.async false
set_option maxRecDepth 100000
set_option maxHeartbeats 4000000
set_option pp.deepTerms false
set_option linter.unusedVariables false
namespace Mine
local macro_rules | `(tactic| k_room) => `(tactic| ktr_room)
local macro_rules | `(tactic| k_units) => `(tactic| ktr_units)
local macro_rules | `(tactic| cell_enter) => `(tactic| (refine' code_def ?k1 ?k2 ?k3 ?k4 ?k5 ?kA ?kF ?kK ?k6 ?k7 ?k8 ?k9 ?kB ?_ ?c2 ?c3 ?c4 ?c5; (case kA => exact rfl); (case kF => exact rfl); (case kK => assumption); (case k1 => k_asm); (case k2 => k_asm); (case k3 => k_asm); (case k4 => k_asm); (case k5 => k_asm); (case k6 => k_is); (case k7 => k_is); (case k8 => ktr_room); (case k9 => first | exact BindsTo.of_eq rfl | exact binds_K (by k_in) rfl (by k_is) rfl rfl rfl | (refine' kp_binds ?kx ?ke; (case kx => k_in); (case ke => exact fun _ => rfl))); (case c5 => decide); (case kB => exact locs rfl); (case c2 => exact rfl); (case c3 => exact rfl); (case c4 => exact rfl); k_whole; intro g' L' h' FG' F' N' B' X' T'; (try dsimp only); (try k_lift B'); (try k_fold)))
local macro_rules | `(tactic| walk_at "callWith ref nil") => `(tactic| (k_here; kfb_any; k_dflt (refine' callWith_boundKW ?kfbN ?kfbM ?kfbH ?_; (case kfbN => k_asm); (case kfbM => k_mem); (case kfbH => rfl); k_whole)))
local macro_rules | `(tactic| walk_at "getMethod bytes") => `(tactic| (k_here; first | (with_reducible refine meth_lstrip ?_) | (with_reducible refine meth_rstrip ?_)))
local macro_rules | `(tactic| walk_at "call builtin:bytes.rstrip") => `(tactic| (k_here; refine rstrip_K (by assumption) (by assumption) ?_; intro _ _))
local macro_rules | `(tactic| walk_at "compareOp NotIn bytes bytes") => `(tactic| (k_here; refine' notIn_K ?nF ?nN ?nH ?nb ?nc ?nn ?_; (case nF => k_asm); (case nN => k_asm); (case nH => exact rfl); (case nb => assumption); (case nc => exact (rfl : KBw.bInts #[32] = [32])); (case nn => assumption); intro hN' _ FN' NN'; (try k_sweep)))
local macro_rules | `(tactic| walk_at "eval DictComp Name Name cons") => `(tactic| (k_here; k_dflt (refine' enum_map ?e1 ?e2 ?e3 ?e4 ?e5 ?e6 ?e7 ?e8 ?e9 ?e10 ?e11 ?eF ?eN ?eB ?_; (case eB => assumption); (case e1 => exact rfl); (case eF => k_asm); (case eN => k_asm); (case e2 => with_unfolding_all rfl); (case e3 => decide); (case e4 => with_unfolding_all rfl); (case e5 => decide); (case e6 => with_unfolding_all rfl); (case e7 => with_unfolding_all rfl); (case e8 => decide); (case e9 => decide); (case e10 => decide); (case e11 => intro _; with_unfolding_all rfl))))
local macro_rules | `(tactic| walk_at "call type:enumerate") => `(tactic| (k_here; k_dflt (refine' enum_call ?e1 ?e2 ?e3 ?e4 ?e5 ?_; (case e1 => k_asm); (case e2 => k_asm); (case e3 => assumption); (case e4 => assumption); (case e5 => omega); intro eD eo eh etk eFr eNews eLt eMap; (try k_lt eLt); (try dsimp only); (try k_fold); (try k_sweep))))
local macro_rules | `(tactic| k_all) => `(tactic| first | exact off_lt (Nat.le_refl _) (by assumption) | exact off_lt (Nat.le_succ _) (by assumption) | exact off_allLt (Nat.le_refl _) (by assumption) | exact off_allLt (Nat.le_succ _) (by assumption))
local macro_rules | `(tactic| walk_at "subscriptTail Name Name ref int") => `(tactic| (k_here; (with_reducible show wpAny _ _ (subscriptTail (Expr.Name _ _) _ (Value.ref _) (Value.int _ _)) _ _ _); k_dflt (refine' map_in ?m1 ?m2 ?m3 ?m4 ?_; (case m1 => k_asm); (case m2 => k_mem); (case m3 => assumption); (case m4 => first | assumption | exact mem_mid (by assumption) (by assumption) | exact mem_of (by assumption) (by assumption)); k_whole; intro _ _)))
local macro_rules | `(tactic| walk_at "pyIter bytes") => `(tactic| k_extra "pyIter bytes")
local macro_rules | `(tactic| walk_at "call ref") => `(tactic| (k_here; (with_reducible show wpAny _ _ (call (Value.ref 29) _ _) _ _ _); k_dflt (refine' encint_tells _ _ _ _ _ _ ?p0 ?p1 ?p2 ?p3 _ _ _ _ _ _ _ _ _ _ _ _ _ _ _ _ _ _ _ _ _ ?c1 ?c2 ?c3 ?c4 ?c5 ?cK ?cd ?cu ?_; (case p0 => assumption); (case p1 => exact enc_bound (by assumption) (by assumption)); (case p2 => assumption); (case p3 => assumption); (case c1 => k_asm); (case c2 => k_asm); (case c3 => k_asm); (case c4 => k_asm); (case c5 => k_asm); (case cK => first | exact rfl | assumption); (case cd => ktr_room); (case cu => ktr_units); intro vR hR tR ⟨rR, tkR, eR, bR⟩ FR NR; subst eR; (try dsimp only); (try k_fold); (try k_sweep))))

theorem enc_tells (w : World) (v : Array UInt8) (tv : Tok) (ks : List Int) (al : Array UInt8) (ta : Tok) (as : List Int) (hv : KBw.bInts v = ks) (hl : ks.length ≤ 100) (hal : KBw.bInts al = as) (hs : 2 ≤ as.length) (hs2 : as.length ≤ 58) : Tells2 w 3 24 37 [.bytes v tv] [(Str.ofString "alphabet", .bytes al ta)] (BytesIs (encodeL as ks)) := by
  dsimp only [Tells2, RetV, Pr, Vw, Ls, Kf]
  k_fill
  w_top off
  k_with_none
  intro mean mg mb news dp un gd cn cs a ccd cl outer A₀ base h₀ L m s Q E B F X N T hk hd hu hret
  k_with "call builtin:bytes.lstrip" => (refine lstrip_K (z := 0) hv rfl (by omega) ?_; intro rL tL kL hL; have hLl := dropWhile_len (fun x => x == 0) ks)
  k_with "call ref" => (refine' fb_kw ?x1 ?x2 ?x3 ?x4 ?_; (case x1 => k_asm); (case x2 => k_mem); (case x3 => assumption); (case x4 => exact Nat.le_trans (dropWhile_len _ _) (by omega)); intro _ _; (try dsimp only); (try k_fold))
  k_with "binaryOp Mult bytes int" => ((rename (KBw.bInts (KBy.picked _ _ _) = _) => kP); (rw [zero_sign hs] at kP); refine mul_K kP (by omega) (by omega) ?_; intro rM tM kM hM)
  k_with "binaryOp Add bytes bytes" => (refine KBa.add_K (by assumption) (by assumption) (by rw [List.length_replicate]; (have e1 := encL_len hs (enc_bound (by assumption) (by assumption))); omega) ?_; intro tA kA hA)
  refine wpAny_call ?_
  k_dflt cell_enter
  k_steps
  refine hret _ _ _ ⟨_, _, rfl, ?_⟩ (by k_asm) (cb_drop (by assumption) (by kcj_all))
  rw [hA]
  unfold encodeL
  congr 2
  omega

end Mine
end
section
-- part W4
open PySem PySem.W PyProof.Rows PySem.Spec PySem.Calls
set_option Elab.async false
set_option maxRecDepth 100000
set_option maxHeartbeats 4000000
set_option pp.deepTerms false
set_option linter.unusedVariables false
namespace Mine
local macro_rules | `(tactic| k_room) => `(tactic| ktr_room)
local macro_rules | `(tactic| k_units) => `(tactic| ktr_units)
local macro_rules | `(tactic| cell_enter) => `(tactic| (refine' code_def ?k1 ?k2 ?k3 ?k4 ?k5 ?kA ?kF ?kK ?k6 ?k7 ?k8 ?k9 ?kB ?_ ?c2 ?c3 ?c4 ?c5; (case kA => exact rfl); (case kF => exact rfl); (case kK => assumption); (case k1 => k_asm); (case k2 => k_asm); (case k3 => k_asm); (case k4 => k_asm); (case k5 => k_asm); (case k6 => k_is); (case k7 => k_is); (case k8 => ktr_room); (case k9 => first | exact BindsTo.of_eq rfl | exact binds_K (by k_in) rfl (by k_is) rfl rfl rfl | (refine' kp_binds ?kx ?ke; (case kx => k_in); (case ke => exact fun _ => rfl))); (case c5 => decide); (case kB => exact locs rfl); (case c2 => exact rfl); (case c3 => exact rfl); (case c4 => exact rfl); k_whole; intro g' L' h' FG' F' N' B' X' T'; (try dsimp only); (try k_lift B'); (try k_fold)))
local macro_rules | `(tactic| walk_at "callWith ref nil") => `(tactic| (k_here; kfb_any; k_dflt (refine' callWith_boundKW ?kfbN ?kfbM ?kfbH ?_; (case kfbN => k_asm); (case kfbM => k_mem); (case kfbH => rfl); k_whole)))
local macro_rules | `(tactic| walk_at "getMethod bytes") => `(tactic| (k_here; first | (with_reducible refine meth_lstrip ?_) | (with_reducible refine meth_rstrip ?_)))
local macro_rules | `(tactic| walk_at "call builtin:bytes.rstrip") => `(tactic| (k_here; refine rstrip_K (by assumption) (by assumption) ?_; intro _ _))
local macro_rules | `(tactic| walk_at "compareOp NotIn bytes bytes") => `(tactic| (k_here; refine' notIn_K ?nF ?nN ?nH ?nb ?nc ?nn ?_; (case nF => k_asm); (case nN => k_asm); (case nH => exact rfl); (case nb => assumption); (case nc => exact (rfl : KBw.bInts #[32] = [32])); (case nn => assumption); intro hN' _ FN' NN'; (try k_sweep)))
local macro_rules | `(tactic| walk_at "eval DictComp Name Name cons") => `(tactic| (k_here; k_dflt (refine' enum_map ?e1 ?e2 ?e3 ?e4 ?e5 ?e6 ?e7 ?e8 ?e9 ?e10 ?e11 ?eF ?eN ?eB ?_; (case eB => assumption); (case e1 => exact rfl); (case eF => k_asm); (case eN => k_asm); (case e2 => with_unfolding_all rfl); (case e3 => decide); (case e4 => with_unfolding_all rfl); (case e5 => decide); (case e6 => with_unfolding_all rfl); (case e7 => with_unfolding_all rfl); (case e8 => decide); (case e9 => decide); (case e10 => decide); (case e11 => intro _; with_unfolding_all rfl))))
local macro_rules | `(tactic| walk_at "call type:enumerate") => `(tactic| (k_here; k_dflt (refine' enum_call ?e1 ?e2 ?e3 ?e4 ?e5 ?_; (case e1 => k_asm); (case e2 => k_asm); (case e3 => assumption); (case e4 => assumption); (case e5 => omega); intro eD eo eh etk eFr eNews eLt eMap; (try k_lt eLt); (try dsimp only); (try k_fold); (try k_sweep))))
local macro_rules | `(tactic| k_all) => `(tactic| first | exact off_lt (Nat.le_refl _) (by assumption) | exact off_lt (Nat.le_succ _) (by assumption) | exact off_allLt (Nat.le_refl _) (by assumption) | exact off_allLt (Nat.le_succ _) (by assumption))
local macro_rules | `(tactic| walk_at "subscriptTail Name Name ref int") => `(tactic| (k_here; (with_reducible show wpAny _ _ (subscriptTail (Expr.Name _ _) _ (Value.ref _) (Value.int _ _)) _ _ _); k_dflt (refine' map_in ?m1 ?m2 ?m3 ?m4 ?_; (case m1 => k_asm); (case m2 => k_mem); (case m3 => assumption); (case m4 => first | assumption | exact mem_mid (by assumption) (by assumption) | exact mem_of (by assumption) (by assumption)); k_whole; intro _ _)))
local macro_rules | `(tactic| walk_at "pyIter bytes") => `(tactic| k_extra "pyIter bytes")
local macro_rules | `(tactic| walk_at "call ref") => `(tactic| (k_here; (with_reducible show wpAny _ _ (call (Value.ref 85) _ _) _ _ _); k_dflt (refine' hash_tells _ _ _ _ ?p0 ?p1 _ _ _ _ _ _ _ _ _ _ _ _ _ _ _ _ _ _ _ _ _ ?c1 ?c2 ?c3 ?c4 ?c5 ?cK ?cd ?cu ?_; (case p0 => assumption); (case p1 => first | omega | (rw [hashL_len]; omega) | (simp only [List.length_take, List.length_drop]; omega)); (case c1 => k_asm); (case c2 => k_asm); (case c3 => k_asm); (case c4 => k_asm); (case c5 => k_asm); (case cK => first | exact rfl | assumption); (case cd => ktr_room); (case cu => ktr_units); intro vR hR tR ⟨rR, tkR, eR, bR⟩ FR NR; subst eR; (have lR := len_of_hash bR); (try dsimp only); (try k_fold); (try k_sweep))))
local macro_rules | `(tactic| walk_at "call ref") => `(tactic| (k_here; (with_reducible show wpAny _ _ (call (Value.ref 37) _ _) _ _ _); k_dflt (refine' enc_tells _ _ _ _ _ _ _ ?p0 ?p1 ?p2 ?p3 ?p4 _ _ _ _ _ _ _ _ _ _ _ _ _ _ _ _ _ _ _ _ _ ?c1 ?c2 ?c3 ?c4 ?c5 ?cK ?cd ?cu ?_; (case p0 => assumption); (case p1 => first | omega | (simp only [List.length_append, List.length_take, hashL_len]; omega)); (case p2 => assumption); (case p3 => assumption); (case p4 => assumption); (case c1 => k_asm); (case c2 => k_asm); (case c3 => k_asm); (case c4 => k_asm); (case c5 => k_asm); (case cK => first | exact rfl | assumption); (case cd => ktr_room); (case cu => ktr_units); intro vR hR tR ⟨rR, tkR, eR, bR⟩ FR NR; subst eR; (try dsimp only); (try k_fold); (try k_sweep))))

theorem encchk_tells (w : World) (v : Array UInt8) (tv : Tok) (ks : List Int) (al : Array UInt8) (ta : Tok) (as : List Int) (hv : KBw.bInts v = ks) (hl : ks.length ≤ 60) (hal : KBw.bInts al = as) (hs : 2 ≤ as.length) (hs2 : as.length ≤ 58) : Tells2 w 4 32 68 [.bytes v tv, .bytes al ta] [(Str.ofString "sha256", .ref 85)] (BytesIs (encodeL as (ks ++ hashL (hashL ks)))) := by
  dsimp only [Tells2, RetV, Pr, Vw, Ls, Kf]
  k_fill
  w_top off
  k_with_none
  intro mean mg mb news dp un gd cn cs a ccd cl outer A₀ base h₀ L m s Q E B F X N T hk hd hu hret
  refine wpAny_call ?_
  k_dflt cell_enter
  k_steps
  refine hret _ _ _ ⟨_, _, rfl, ?_⟩ (by k_asm) (cb_drop (by assumption) (by kcj_all))
  rename (KBw.bInts _ = encodeL _ _) => hE
  rw [hE, hash_four]

end Mine
end
section
-- part W5
open PySem PySem.W PyProof.Rows PySem.Spec PySem.Calls
set_option Elab.async false
set_option maxRecDepth 100000
set_option maxHeartbeats 4000000
set_option pp.deepTerms false
set_option linter.unusedVariables false
namespace Mine
local macro_rules | `(tactic| k_room) => `(tactic| ktr_room)
local macro_rules | `(tactic| k_units) => `(tactic| ktr_units)
local macro_rules | `(tactic| cell_enter) => `(tactic| (refine' code_def ?k1 ?k2 ?k3 ?k4 ?k5 ?kA ?kF ?kK ?k6 ?k7 ?k8 ?k9 ?kB ?_ ?c2 ?c3 ?c4 ?c5; (case kA => exact rfl); (case kF => exact rfl); (case kK => assumption); (case k1 => k_asm); (case k2 => k_asm); (case k3 => k_asm); (case k4 => k_asm); (case k5 => k_asm); (case k6 => k_is); (case k7 => k_is); (case k8 => ktr_room); (case k9 => first | exact BindsTo.of_eq rfl | exact binds_K (by k_in) rfl (by k_is) rfl rfl rfl | (refine' kp_binds ?kx ?ke; (case kx => k_in); (case ke => exact fun _ => rfl))); (case c5 => decide); (case kB => exact locs rfl); (case c2 => exact rfl); (case c3 => exact rfl); (case c4 => exact rfl); k_whole; intro g' L' h' FG' F' N' B' X' T'; (try dsimp only); (try k_lift B'); (try k_fold)))
local macro_rules | `(tactic| walk_at "callWith ref nil") => `(tactic| (k_here; kfb_any; k_dflt (refine' callWith_boundKW ?kfbN ?kfbM ?kfbH ?_; (case kfbN => k_asm); (case kfbM => k_mem); (case kfbH => rfl); k_whole)))
local macro_rules | `(tactic| walk_at "getMethod bytes") => `(tactic| (k_here; first | (with_reducible refine meth_lstrip ?_) | (with_reducible refine meth_rstrip ?_)))
local macro_rules | `(tactic| walk_at "call builtin:bytes.rstrip") => `(tactic| (k_here; refine rstrip_K (by assumption) (by assumption) ?_; intro _ _))
local macro_rules | `(tactic| walk_at "compareOp NotIn bytes bytes") => `(tactic| (k_here; refine' notIn_K ?nF ?nN ?nH ?nb ?nc ?nn ?_; (case nF => k_asm); (case nN => k_asm); (case nH => exact rfl); (case nb => assumption); (case nc => exact (rfl : KBw.bInts #[32] = [32])); (case nn => assumption); intro hN' _ FN' NN'; (try k_sweep)))
local macro_rules | `(tactic| walk_at "eval DictComp Name Name cons") => `(tactic| (k_here; k_dflt (refine' enum_map ?e1 ?e2 ?e3 ?e4 ?e5 ?e6 ?e7 ?e8 ?e9 ?e10 ?e11 ?eF ?eN ?eB ?_; (case eB => assumption); (case e1 => exact rfl); (case eF => k_asm); (case eN => k_asm); (case e2 => with_unfolding_all rfl); (case e3 => decide); (case e4 => with_unfolding_all rfl); (case e5 => decide); (case e6 => with_unfolding_all rfl); (case e7 => with_unfolding_all rfl); (case e8 => decide); (case e9 => decide); (case e10 => decide); (case e11 => intro _; with_unfolding_all rfl))))
local macro_rules | `(tactic| walk_at "call type:enumerate") => `(tactic| (k_here; k_dflt (refine' enum_call ?e1 ?e2 ?e3 ?e4 ?e5 ?_; (case e1 => k_asm); (case e2 => k_asm); (case e3 => assumption); (case e4 => assumption); (case e5 => omega); intro eD eo eh etk eFr eNews eLt eMap; (try k_lt eLt); (try dsimp only); (try k_fold); (try k_sweep))))
local macro_rules | `(tactic| k_all) => `(tactic| first | exact off_lt (Nat.le_refl _) (by assumption) | exact off_lt (Nat.le_succ _) (by assumption) | exact off_allLt (Nat.le_refl _) (by assumption) | exact off_allLt (Nat.le_succ _) (by assumption))
local macro_rules | `(tactic| walk_at "subscriptTail Name Name ref int") => `(tactic| (k_here; (with_reducible show wpAny _ _ (subscriptTail (Expr.Name _ _) _ (Value.ref _) (Value.int _ _)) _ _ _); k_dflt (refine' map_in ?m1 ?m2 ?m3 ?m4 ?_; (case m1 => k_asm); (case m2 => k_mem); (case m3 => assumption); (case m4 => first | assumption | exact mem_mid (by assumption) (by assumption) | exact mem_of (by assumption) (by assumption)); k_whole; intro _ _)))
local macro_rules | `(tactic| walk_at "pyIter bytes") => `(tactic| k_extra "pyIter bytes")

theorem decint_tells (w : World) (v : Array UInt8) (tv : Tok) (ks : List Int) (al : Array UInt8) (ta : Tok) (as : List Int) (hv : KBw.bInts v = ks) (hl : ks.length ≤ 200) (hal : KBw.bInts al = as) (hs : 2 ≤ as.length) (hs2 : as.length ≤ 58) (hnd : as.Nodup) (h33 : ∀ k ∈ as, 33 ≤ k) (hne : ∀ k ∈ as, k ≠ 32) (hin : ∀ k ∈ ks, k ∈ as) (hk33 : ∀ k ∈ ks, 33 ≤ k) : Tells2 w 4 32 51 [.bytes v tv] [(Str.ofString "alphabet", .bytes al ta), (Str.ofString "autofix", .bool false)] (IntIs (valS as ks)) := by
  dsimp only [Tells2, RetV, Pr, Vw, Ls, Kf]
  k_fill
  w_top off
  k_with_none
  intro mean mg mb news dp un gd cn cs a ccd cl outer A₀ base h₀ L m s Q E B F X N T hk hd hu hret
  k_with "pyIter bytes" => k_state (fun pre dec => dec = ((valS as pre : Nat) : Int)) "decimal"
  k_with "state" => first | exact valS_nil | exact valS_snoc (by assumption)
  refine wpAny_call ?_
  k_dflt cell_enter
  k_steps
  exact hret _ _ _ ⟨_, by rw [kInv]⟩ (by k_asm) (cb_drop (by assumption) (by kcj_all))

end Mine
end
section
-- part W6
open PySem PySem.W PyProof.Rows PySem.Spec PySem.Calls
set_option Elab.async false
set_option maxRecDepth 100000
set_option maxHeartbeats 4000000
set_option pp.deepTerms false
set_option linter.unusedVariables false
namespace Mine
local macro_rules | `(tactic| k_room) => `(tactic| ktr_room)
local macro_rules | `(tactic| k_units) => `(tactic| ktr_units)
local macro_rules | `(tactic| cell_enter) => `(tactic| (refine' code_def ?k1 ?k2 ?k3 ?k4 ?k5 ?kA ?kF ?kK ?k6 ?k7 ?k8 ?k9 ?kB ?_ ?c2 ?c3 ?c4 ?c5; (case kA => exact rfl); (case kF => exact rfl); (case kK => assumption); (case k1 => k_asm); (case k2 => k_asm); (case k3 => k_asm); (case k4 => k_asm); (case k5 => k_asm); (case k6 => k_is); (case k7 => k_is); (case k8 => ktr_room); (case k9 => first | exact BindsTo.of_eq rfl | exact binds_K (by k_in) rfl (by k_is) rfl rfl rfl | (refine' kp_binds ?kx ?ke; (case kx => k_in); (case ke => exact fun _ => rfl))); (case c5 => decide); (case kB => exact locs rfl); (case c2 => exact rfl); (case c3 => exact rfl); (case c4 => exact rfl); k_whole; intro g' L' h' FG' F' N' B' X' T'; (try dsimp only); (try k_lift B'); (try k_fold)))
local macro_rules | `(tactic| walk_at "callWith ref nil") => `(tactic| (k_here; kfb_any; k_dflt (refine' callWith_boundKW ?kfbN ?kfbM ?kfbH ?_; (case kfbN => k_asm); (case kfbM => k_mem); (case kfbH => rfl); k_whole)))
local macro_rules | `(tactic| walk_at "getMethod bytes") => `(tactic| (k_here; first | (with_reducible refine meth_lstrip ?_) | (with_reducible refine meth_rstrip ?_)))
local macro_rules | `(tactic| walk_at "call builtin:bytes.rstrip") => `(tactic| (k_here; refine rstrip_K (by assumption) (by assumption) ?_; intro _ _))
local macro_rules | `(tactic| walk_at "compareOp NotIn bytes bytes") => `(tactic| (k_here; refine' notIn_K ?nF ?nN ?nH ?nb ?nc ?nn ?_; (case nF => k_asm); (case nN => k_asm); (case nH => exact rfl); (case nb => assumption); (case nc => exact (rfl : KBw.bInts #[32] = [32])); (case nn => assumption); intro hN' _ FN' NN'; (try k_sweep)))
local macro_rules | `(tactic| walk_at "eval DictComp Name Name cons") => `(tactic| (k_here; k_dflt (refine' enum_map ?e1 ?e2 ?e3 ?e4 ?e5 ?e6 ?e7 ?e8 ?e9 ?e10 ?e11 ?eF ?eN ?eB ?_; (case eB => assumption); (case e1 => exact rfl); (case eF => k_asm); (case eN => k_asm); (case e2 => with_unfolding_all rfl); (case e3 => decide); (case e4 => with_unfolding_all rfl); (case e5 => decide); (case e6 => with_unfolding_all rfl); (case e7 => with_unfolding_all rfl); (case e8 => decide); (case e9 => decide); (case e10 => decide); (case e11 => intro _; with_unfolding_all rfl))))
local macro_rules | `(tactic| walk_at "call type:enumerate") => `(tactic| (k_here; k_dflt (refine' enum_call ?e1 ?e2 ?e3 ?e4 ?e5 ?_; (case e1 => k_asm); (case e2 => k_asm); (case e3 => assumption); (case e4 => assumption); (case e5 => omega); intro eD eo eh etk eFr eNews eLt eMap; (try k_lt eLt); (try dsimp only); (try k_fold); (try k_sweep))))
local macro_rules | `(tactic| k_all) => `(tactic| first | exact off_lt (Nat.le_refl _) (by assumption) | exact off_lt (Nat.le_succ _) (by assumption) | exact off_allLt (Nat.le_refl _) (by assumption) | exact off_allLt (Nat.le_succ _) (by assumption))
local macro_rules | `(tactic| walk_at "subscriptTail Name Name ref int") => `(tactic| (k_here; (with_reducible show wpAny _ _ (subscriptTail (Expr.Name _ _) _ (Value.ref _) (Value.int _ _)) _ _ _); k_dflt (refine' map_in ?m1 ?m2 ?m3 ?m4 ?_; (case m1 => k_asm); (case m2 => k_mem); (case m3 => assumption); (case m4 => first | assumption | exact mem_mid (by assumption) (by assumption) | exact mem_of (by assumption) (by assumption)); k_whole; intro _ _)))
local macro_rules | `(tactic| walk_at "pyIter bytes") => `(tactic| k_extra "pyIter bytes")

theorem while_list {prog : Program} {w : World} {A : Around} {E : Value → Shared → Prop} {Q : Flow → Shared → Prop} {s : Shared} {env : Env} {h₀ : Heap} {L : Addr} {test : Expr} {body : List Stmt} {pos : Pos} {m₀ : Str → Option Value} {l : Addr} {news : List (Addr × Obj)} {i₀ : Int} {t₀ : Tok} {n₀ : Nat}
    (x y : Str) (P : Int → List Int → Prop) (F : Fr h₀ L s.heap m₀) (N : News h₀ L s.heap ((l, listOf ([] : List Value).toArray n₀) :: news)) (hx : m₀ x = some (.int i₀ t₀)) (hp : P i₀ [])
    (turn : ∀ (i : Int) (t : Tok) (vs : List Value) (res : List Int) (n : Nat) (u : Str → Option Value) h tk, IntsAre vs res → P i res → Fr h₀ L h (kstB (fun z => if [y].contains z then u z else m₀ z) [(x, .int i t)]) → News h₀ L h ((l, listOf vs.toArray n) :: news) →
      wpAny (model prog w) A (isTrue test env (eval test env)) (fun b s₂ =>
        if b = true then wpAny (model prog w) A (execs body env) (KswPost h₀ L s (fun c : Int × Tok × List Value × List Int × Nat => (l, listOf c.2.2.1.toArray c.2.2.2.2) :: news) (fun c => [(x, .int c.1 c.2.1)]) (fun c => IntsAre c.2.2.1 c.2.2.2.1) [y] m₀ (fun c => P c.1 c.2.2.2.1) (fun c => c.1.toNat) Q (i, t, vs, res, n)) E s₂ else Q .next s₂) E { s with heap := h, toks := tk })
    (hE : PassesOwn (model prog w) A env E := by passes_own) :
    wpAny (model prog w) A (exec (.While test body [] pos) env) Q E s :=
  ksw_while (σ := Int × Tok × List Value × List Int × Nat) (fun c => (l, listOf c.2.2.1.toArray c.2.2.2.2) :: news) (fun c => [(x, .int c.1 c.2.1)]) (fun c => IntsAre c.2.2.1 c.2.2.2.1) [y] (fun c => P c.1 c.2.2.2.1) (fun c => c.1.toNat) (i₀, t₀, [], [], n₀) F N .nil
    (fun p hp => by rw [List.mem_singleton.1 hp]; exact hx) hp (fun c u h tk hf hP F' N' => turn c.1 c.2.1 c.2.2.1 c.2.2.2.1 c.2.2.2.2 u h tk hf hP F' N') hE

theorem end_list {h₀ : Heap} {L l : Addr} {s : Shared} {news : List (Addr × Obj)} {x y : Str} {m₀ m' : Str → Option Value} {P : Int → List Int → Prop} {c : Int × Tok × List Value × List Int × Nat} {h' : Heap} {tk : Nat} {q : Addr × Obj} {vs : List Value} {res : List Int} {i v : Int} {t t' : Tok} {n : Nat}
    (F : Fr h₀ L h' m') (N : News h₀ L h' (q :: (l, listOf (vs ++ [Value.int v t]).toArray n) :: news)) (hm : m' x = some (.int i t')) (hr : ∀ z, z ≠ x → ([y] : List Str).contains z = false → m' z = m₀ z) (hi : IntsAre vs res) (hP : P i (res ++ [v])) (hlt : i.toNat < c.1.toNat) :
    KswEnd h₀ L s (fun c : Int × Tok × List Value × List Int × Nat => (l, listOf c.2.2.1.toArray c.2.2.2.2) :: news) (fun c => [(x, .int c.1 c.2.1)]) (fun c => IntsAre c.2.2.1 c.2.2.2.1) [y] m₀ (fun c => P c.1 c.2.2.2.1) (fun c => c.1.toNat) c { s with heap := h', toks := tk } :=
  ksw_end (i, t', vs ++ [Value.int v t], res ++ [v], n) F N (fun p hp => .tail _ hp) (IntsAre.append hi (.cons _ _ .nil)) (fun p hp => by rw [List.mem_singleton.1 hp]; exact hm) (fun z h1 h2 => hr z (h1 _ (.head _)) h2) hP hlt
local macro_rules | `(tactic| walk_at "call ref") => `(tactic| (k_here; (with_reducible show wpAny _ _ (call (Value.ref 51) _ _) _ _ _); k_dflt (refine' decint_tells _ _ _ _ _ _ _ ?p0 ?p1 ?p2 ?p3 ?p4 ?p5 ?p6 ?p7 ?p8 ?p9 _ _ _ _ _ _ _ _ _ _ _ _ _ _ _ _ _ _ _ _ _ ?c1 ?c2 ?c3 ?c4 ?c5 ?cK ?cd ?cu ?_; (case p0 => assumption); (case p1 => first | omega | exact Nat.le_trans (dropWhile_len _ _) (by omega)); (case p2 => assumption); (case p3 => assumption); (case p4 => assumption); (case p5 => assumption); (case p6 => assumption); (case p7 => assumption); (case p8 => exact dw_in (by assumption)); (case p9 => exact dw_33 (by assumption)); (case c1 => k_asm); (case c2 => k_asm); (case c3 => k_asm); (case c4 => k_asm); (case c5 => k_asm); (case cK => first | exact rfl | assumption); (case cd => ktr_room); (case cu => ktr_units); intro vR hR tR ⟨tkR, eR⟩ FR NR; subst eR; (try dsimp only); (try k_fold); (try k_sweep))))

theorem dec_tells (w : World) (v : Array UInt8) (tv : Tok) (ks : List Int) (al : Array UInt8) (ta : Tok) (as : List Int) (hv : KBw.bInts v = ks) (hl : ks.length ≤ 200) (hal : KBw.bInts al = as) (hs : 2 ≤ as.length) (hs2 : as.length ≤ 58) (hnd : as.Nodup) (h33 : ∀ k ∈ as, 33 ≤ k) (hne : ∀ k ∈ as, k ≠ 32) (hin : ∀ k ∈ ks, k ∈ as) (hk33 : ∀ k ∈ ks, 33 ≤ k) : Tells2 w 5 40 60 [.bytes v tv] [(Str.ofString "alphabet", .bytes al ta), (Str.ofString "autofix", .bool false)] (BytesIs (decodeL as ks)) := by
  dsimp only [Tells2, RetV, Pr, Vw, Ls, Kf]
  k_fill
  w_top off
  k_with_none
  intro mean mg mb news dp un gd cn cs a ccd cl outer A₀ base h₀ L m s Q E B F X N T hk hd hu hret
  k_with "call builtin:bytes.lstrip" => ((rename (KBw.bInts (KBy.picked _ _ _) = _) => kP); (rw [zero_sign hs] at kP); refine lstrip_K (z := sg as 0) hv kP (by omega) ?_; intro rL tL kL hL; have hLl := dropWhile_len (fun x => x == sg as 0) ks)
  k_with "exec While Compare cons nil" => (
    refine' while_list (Str.ofString "acc") (Str.ofString "mod") (fun acc res => DecAt (valS as (ks.dropWhile (fun x => x == sg as 0))) acc res) ?f1 ?f2 ?f3 ?f4 ?_
    case f1 => k_asm
    case f2 => exact (by assumption)
    case f3 => rfl
    case f4 => exact dec_start
    intro i ti vs res nn u hH tk hInts hP FW NW
    obtain ⟨hLv, hLr⟩ := dec_len hP hInts
    have hLt := ltN (Heap.lt_size (NW _ (.head _)).1)
    try k_fold)
  k_with "state" => first | exact dec_start | exact dec_turn (valS_bound (dw_in hin) hs hs2 (Nat.le_trans (dropWhile_len _ _) hl)) (by assumption) (by assumption)
  k_with "measure" => exact dec_less (by assumption) (by assumption)
  k_with "call type:bytes" => k_dflt (refine' bytes_rev ?g1 ?g2 ?g3 ?g4 ?g5 ?g6 ?g7 ?g8 ?g9 ?_; (case g1 => exact rfl); (case g2 => k_asm); (case g3 => assumption); (case g4 => exact rfl); (case g5 => exact And.left (by assumption)); (case g6 => exact And.right (by assumption)); (case g7 => assumption); (case g8 => exact dec_range (by assumption)); (case g9 => omega); intro rB hB tB kB hBs FB NB; (try dsimp only))
  k_with "binaryOp Add bytes bytes" => (refine KBa.add_K (bInts_rep _) (by assumption) (by rw [List.length_replicate, List.length_reverse]; omega) ?_; intro tA kA hA)
  refine wpAny_call ?_
  k_dflt cell_enter
  k_steps
  · rename News _ _ _ (_ :: (_, listOf _ _) :: _) => nE
    (try simp only [List.push_toArray] at nE)
    refine' end_list (by assumption) nE ?n3 ?n4 hInts ?n5 ?n6
    case n3 => rfl
    case n4 => (intro z h2 h3; (have h4 := h3); (simp only [List.contains_cons, List.contains_nil, Bool.or_false, beq_eq_false_iff_ne, ne_eq] at h4); (simp [kstB, h2, h4]))
    case n5 => exact dec_turn (valS_bound (dw_in hin) hs hs2 (Nat.le_trans (dropWhile_len _ _) hl)) hP (by assumption)
    case n6 => exact dec_less hP (by assumption)
  refine hret _ _ _ ⟨_, _, rfl, ?_⟩ (by k_asm) (cb_drop (by assumption) (by kcj_all))
  rw [hA, dec_end hP (by assumption)]
  unfold decodeL
  congr 2
  omega

end Mine
end
section
-- part W7
open PySem PySem.W PyProof.Rows PySem.Spec PySem.Calls
set_option Elab.async false
set_option maxRecDepth 100000
set_option maxHeartbeats 4000000
set_option pp.deepTerms false
set_option linter.unusedVariables false
namespace Mine
local macro_rules | `(tactic| k_room) => `(tactic| ktr_room)
local macro_rules | `(tactic| k_units) => `(tactic| ktr_units)
local macro_rules | `(tactic| cell_enter) => `(tactic| (refine' code_def ?k1 ?k2 ?k3 ?k4 ?k5 ?kA ?kF ?kK ?k6 ?k7 ?k8 ?k9 ?kB ?_ ?c2 ?c3 ?c4 ?c5; (case kA => exact rfl); (case kF => exact rfl); (case kK => assumption); (case k1 => k_asm); (case k2 => k_asm); (case k3 => k_asm); (case k4 => k_asm); (case k5 => k_asm); (case k6 => k_is); (case k7 => k_is); (case k8 => ktr_room); (case k9 => first | exact BindsTo.of_eq rfl | exact binds_K (by k_in) rfl (by k_is) rfl rfl rfl | (refine' kp_binds ?kx ?ke; (case kx => k_in); (case ke => exact fun _ => rfl))); (case c5 => decide); (case kB => exact locs rfl); (case c2 => exact rfl); (case c3 => exact rfl); (case c4 => exact rfl); k_whole; intro g' L' h' FG' F' N' B' X' T'; (try dsimp only); (try k_lift B'); (try k_fold)))
local macro_rules | `(tactic| walk_at "callWith ref nil") => `(tactic| (k_here; kfb_any; k_dflt (refine' callWith_boundKW ?kfbN ?kfbM ?kfbH ?_; (case kfbN => k_asm); (case kfbM => k_mem); (case kfbH => rfl); k_whole)))
local macro_rules | `(tactic| walk_at "getMethod bytes") => `(tactic| (k_here; first | (with_reducible refine meth_lstrip ?_) | (with_reducible refine meth_rstrip ?_)))
local macro_rules | `(tactic| walk_at "call builtin:bytes.rstrip") => `(tactic| (k_here; refine rstrip_K (by assumption) (by assumption) ?_; intro _ _))
local macro_rules | `(tactic| walk_at "compareOp NotIn bytes bytes") => `(tactic| (k_here; refine' notIn_K ?nF ?nN ?nH ?nb ?nc ?nn ?_; (case nF => k_asm); (case nN => k_asm); (case nH => exact rfl); (case nb => assumption); (case nc => exact (rfl : KBw.bInts #[32] = [32])); (case nn => assumption); intro hN' _ FN' NN'; (try k_sweep)))
local macro_rules | `(tactic| walk_at "eval DictComp Name Name cons") => `(tactic| (k_here; k_dflt (refine' enum_map ?e1 ?e2 ?e3 ?e4 ?e5 ?e6 ?e7 ?e8 ?e9 ?e10 ?e11 ?eF ?eN ?eB ?_; (case eB => assumption); (case e1 => exact rfl); (case eF => k_asm); (case eN => k_asm); (case e2 => with_unfolding_all rfl); (case e3 => decide); (case e4 => with_unfolding_all rfl); (case e5 => decide); (case e6 => with_unfolding_all rfl); (case e7 => with_unfolding_all rfl); (case e8 => decide); (case e9 => decide); (case e10 => decide); (case e11 => intro _; with_unfolding_all rfl))))
local macro_rules | `(tactic| walk_at "call type:enumerate") => `(tactic| (k_here; k_dflt (refine' enum_call ?e1 ?e2 ?e3 ?e4 ?e5 ?_; (case e1 => k_asm); (case e2 => k_asm); (case e3 => assumption); (case e4 => assumption); (case e5 => omega); intro eD eo eh etk eFr eNews eLt eMap; (try k_lt eLt); (try dsimp only); (try k_fold); (try k_sweep))))
local macro_rules | `(tactic| k_all) => `(tactic| first | exact off_lt (Nat.le_refl _) (by assumption) | exact off_lt (Nat.le_succ _) (by assumption) | exact off_allLt (Nat.le_refl _) (by assumption) | exact off_allLt (Nat.le_succ _) (by assumption))
local macro_rules | `(tactic| walk_at "subscriptTail Name Name ref int") => `(tactic| (k_here; (with_reducible show wpAny _ _ (subscriptTail (Expr.Name _ _) _ (Value.ref _) (Value.int _ _)) _ _ _); k_dflt (refine' map_in ?m1 ?m2 ?m3 ?m4 ?_; (case m1 => k_asm); (case m2 => k_mem); (case m3 => assumption); (case m4 => first | assumption | exact mem_mid (by assumption) (by assumption) | exact mem_of (by assumption) (by assumption)); k_whole; intro _ _)))
local macro_rules | `(tactic| walk_at "pyIter bytes") => `(tactic| k_extra "pyIter bytes")
local macro_rules | `(tactic| walk_at "call ref") => `(tactic| (k_here; (with_reducible show wpAny _ _ (call (Value.ref 85) _ _) _ _ _); k_dflt (refine' hash_tells _ _ _ _ ?p0 ?p1 _ _ _ _ _ _ _ _ _ _ _ _ _ _ _ _ _ _ _ _ _ ?c1 ?c2 ?c3 ?c4 ?c5 ?cK ?cd ?cu ?_; (case p0 => assumption); (case p1 => first | omega | (rw [hashL_len]; omega) | (simp only [List.length_take, List.length_drop]; omega)); (case c1 => k_asm); (case c2 => k_asm); (case c3 => k_asm); (case c4 => k_asm); (case c5 => k_asm); (case cK => first | exact rfl | assumption); (case cd => ktr_room); (case cu => ktr_units); intro vR hR tR ⟨rR, tkR, eR, bR⟩ FR NR; subst eR; (have lR := len_of_hash bR); (try dsimp only); (try k_fold); (try k_sweep))))
local macro_rules | `(tactic| walk_at "call ref") => `(tactic| (k_here; (with_reducible show wpAny _ _ (call (Value.ref 60) _ _) _ _ _); k_dflt (refine' dec_tells _ _ _ _ _ _ _ ?p0 ?p1 ?p2 ?p3 ?p4 ?p5 ?p6 ?p7 ?p8 ?p9 _ _ _ _ _ _ _ _ _ _ _ _ _ _ _ _ _ _ _ _ _ ?c1 ?c2 ?c3 ?c4 ?c5 ?cK ?cd ?cu ?_; (case p0 => assumption); (case p1 => omega); (case p2 => assumption); (case p3 => assumption); (case p4 => assumption); (case p5 => assumption); (case p6 => assumption); (case p7 => assumption); (case p8 => assumption); (case p9 => assumption); (case c1 => k_asm); (case c2 => k_asm); (case c3 => k_asm); (case c4 => k_asm); (case c5 => k_asm); (case cK => first | exact rfl | assumption); (case cd => ktr_room); (case cu => ktr_units); intro vR hR tR ⟨rR, tkR, eR, bR⟩ FR NR; subst eR; (try dsimp only); (try k_fold); (try k_sweep))))

theorem decchk_tells (w : World) (v : Array UInt8) (tv : Tok) (ks : List Int) (al : Array UInt8) (ta : Tok) (as : List Int) (os : List Int) (hv : KBw.bInts v = ks) (hl : ks.length ≤ 150) (hal : KBw.bInts al = as) (hs : 2 ≤ as.length) (hs2 : as.length ≤ 58) (hnd : as.Nodup) (h33 : ∀ k ∈ as, 33 ≤ k) (hne : ∀ k ∈ as, k ≠ 32) (hin : ∀ k ∈ ks, k ∈ as) (hk33 : ∀ k ∈ ks, 33 ≤ k) (hval : decodeL as ks = os ++ hashL (hashL os)) : Tells2 w 6 48 77 [.bytes v tv, .bytes al ta] [(Str.ofString "sha256", .ref 85)] (BytesIs os) := by
  dsimp only [Tells2, RetV, Pr, Vw, Ls, Kf]
  k_fill
  w_top off
  k_with_none
  intro mean mg mb news dp un gd cn cs a ccd cl outer A₀ base h₀ L m s Q E B F X N T hk hd hu hret
  have hL := Nat.le_trans (decodeL_len hin hs hs2) hl
  refine wpAny_call ?_
  k_dflt cell_enter
  k_steps
  · exact (chk_valid hval (by assumption) (by assumption) (by assumption)).elim
  · exact hret _ _ _ ⟨_, _, rfl, body_valid hval (by assumption)⟩ (by k_asm) (cb_drop (by assumption) (by kcj_all))

theorem refused_tells (w : World) (v : Array UInt8) (tv : Tok) (ks : List Int) (al : Array UInt8) (ta : Tok) (as : List Int) (hv : KBw.bInts v = ks) (hl : ks.length ≤ 150) (hal : KBw.bInts al = as) (hs : 2 ≤ as.length) (hs2 : as.length ≤ 58) (hnd : as.Nodup) (h33 : ∀ k ∈ as, 33 ≤ k) (hne : ∀ k ∈ as, k ≠ 32) (hin : ∀ k ∈ ks, k ∈ as) (hk33 : ∀ k ∈ ks, 33 ≤ k) (hbad : ¬ Sound (decodeL as ks)) : Tells3 w 7 56 92 [.bytes v tv, .bytes al ta] [] (BoolIs true) := by
  dsimp only [Tells3, RetV, Pr, Vw, Ls, Kf]
  k_fill
  w_top off
  k_with_none
  intro mean mg mb news dp un gd cn cs a ccd cl A₀ h₀ L m s Q E B F X N T hk hd hu hret
  have hL := Nat.le_trans (decodeL_len hin hs hs2) hl
  refine wpAny_call ?_
  k_dflt (refine' enter_catch ?k1 ?k2 ?k3 ?k4 ?k5 ?kA ?kF ?kK ?k6 ?k7 ?k8 ?k9 ?kB ?_ ?c2 ?c3 ?c4 ?c5; (case kA => exact rfl); (case kF => exact rfl); (case kK => assumption); (case k1 => k_asm); (case k2 => k_asm); (case k3 => k_asm); (case k4 => k_asm); (case k5 => k_asm); (case k6 => k_is); (case k7 => k_is); (case k8 => ktr_room); (case k9 => first | exact BindsTo.of_eq rfl | exact binds_K (by k_in) rfl (by k_is) rfl rfl rfl); (case c5 => decide); (case kB => exact locs rfl); (case c2 => exact rfl); (case c3 => exact rfl); (case c4 => exact rfl); k_whole; intro g' L' h' FG' F' N' B' X' T' D'; (try dsimp only); (try k_lift B'); (try k_fold))
  k_steps
  · exact hret _ _ _ rfl (by k_asm) (cb_drop (by assumption) (by kcj_all))
  · exact (chk_bad hbad (by assumption) (by assumption) (by assumption)).elim

end Mine
end
section
-- part B6
set_option maxRecDepth 100000
open PySem PySem.W PyProof.Rows PySem.Spec PySem.Calls
namespace Mine
noncomputable section

-- a list has no keys()
theorem list_keys_miss : typeLookup (.type "list") "keys" = pure none := am_miss_of_fast (by decide +kernel)
section
variable {prog : Program} {w : World} {A : Around} {E : Value → Shared → Prop} {s : Shared}
theorem keys_none {a : Addr} {xs : Array Value} {k : Nat} {sl : Array (Option Value)} {Q : Option Value → Shared → Prop} (hx : s.heap.get? a = some { cls := .type "list", dict := none, data := .seq xs k, slots := sl }) (hA : A.handled = none)
    (h : ∀ h' tk, (∀ b o, s.heap.get? b = some o → h'.get? b = some o) → Q none { s with heap := h', toks := tk }) : wpAny (model prog w) A (getAttr? (.ref a) "keys") Q E s := by
  obtain ⟨hp, g, d, tk, os⟩ := s
  have hT : ∀ tk', (⟨hp, g, d, tk', os⟩ : Shared).TypeIs (.ref a) "list" := fun _ => ⟨_, hx, rfl⟩
  have hm := list_keys_miss
  have f1 := sub_AttributeError
  have f3 := F.slot_list_getattribute.lookup
  have f4 := F.slot_list_getattribute.bind (.ref a)
  have f5 := am_list_getattr_none
  unfold getAttr? getAttrBy? getAttrBy
  repeat (any_goals (first | assumption | exact hT _ | ((with_reducible show wpAny _ _ (call (Value.builtin "list.__getattribute__") _ _) _ _ _); refine call_meets F.slot_list_getattribute (hT _) am_entry_list_getattribute (F.args_list_getattribute_2 _ _) (meets_getattribute_miss_list a xs k sl "keys" _ hm (by decide +kernel)) ⟨hx, hA, fun h' tk' e hx' => ?_⟩) | wp_step))
  obtain ⟨t', u', he⟩ := hx'.there
  show wpAny _ _ (getattributeRaised _ _ _ _ _ _ _) _ _ _
  unfold getattributeRaised
  repeat (any_goals (first | assumption | wp_step))
  all_goals exact h _ _ hx'.keeps
end

namespace F
theorem entry_dict_update_loop : entryFor table "dict.update.loop" = some Builtin.«dict.update.loop» := entryFor_of_tree (by kernel_rfl)
theorem plain_dict_update_loop : plainId "dict.update.loop" = true := by decide +kernel
end F

abbrev tup (vs : List Value) : Obj := { cls := .type "tuple", dict := none, data := .seq vs.toArray }
/-- the values are pairs (a sign, its place) -/
def PairsOf (h : Heap) (as : List Int) (ys : List Value) : Prop := ys.length = as.length ∧ ∀ (i : Nat) (a : Int), as[i]? = some a → ∃ T t u, ys[i]? = some (.ref T) ∧ h.get? T = some (tup [.int a t, .int (i : Int) u])
theorem PairsOf.keep {h h' : Heap} {as : List Int} {ys : List Value} (x : PairsOf h as ys) (k : ∀ b o, h.get? b = some o → h'.get? b = some o) : PairsOf h' as ys :=
  ⟨x.1, fun i a e => by obtain ⟨T, t, u, h1, h2⟩ := x.2 i a e; exact ⟨T, t, u, h1, k _ _ h2⟩⟩
section
variable {prog : Program} {w : World} {A : Around} {E : Value → Shared → Prop} {s : Shared}
theorem pair_items {T : Addr} {vs : List Value} {Q : List Value → Shared → Prop} (hT : s.heap.get? T = some (tup vs)) (h : Q vs s) : wpAny (model prog w) A (Builtin.Dict.pairItems (.ref T)) Q E s := by
  unfold Builtin.Dict.pairItems
  refine wpAny_bind (wpAny_typeOf (T := "tuple") ⟨_, hT, rfl⟩ ?_)
  have e : (Value.type "tuple" == Value.type "list" || Value.type "tuple" == Value.type "tuple") = true := by decide
  rw [e]
  simp only [if_true]
  refine wpAny_bind (wpAny_seqItems hT rfl (wpAny_pure ?_))
  simpa using h
theorem upd_loop {as : List Int} {ys : List Value} {D I ax : Addr} {R : Result → Shared → Prop} (hh : A.handled = none) (hne : ax ≠ I) (hDI : D ≠ I) (hDa : D ≠ ax) (hnd : as.Nodup) (hsz : as.length ≤ 1000) :
    ∀ (k i : Nat) (s : Shared) (kvs : List (Int × Value)) (u : Tok), as.length - i = k → i ≤ as.length → (s.heap.IsListIter I ax i ∧ s.heap.IsList ax ys.toArray) → PairsOf s.heap as ys → (∀ (i : Nat) (a : Int) (T : Addr), as[i]? = some a → ys[i]? = some (Value.ref T) → T ≠ I ∧ T ≠ D) → s.heap.DictOf (PySem.intKind prog w) D kvs → kvs.length ≤ i →
      (∀ (j : Nat) (a : Int), j < i → as[j]? = some a → ∃ t, valueAt kvs a = some (.int (j : Int) t)) →
      (∀ h' tk kvs', h'.DictOf (PySem.intKind prog w) D kvs' → (∀ (j : Nat) (a : Int), as[j]? = some a → ∃ t, valueAt kvs' a = some (.int (j : Int) t)) → (∀ b o, b ≠ D → b ≠ I → s.heap.get? b = some o → h'.get? b = some o) → R (.ok (.ret .none)) { s with heap := h', toks := tk }) →
      codeAny (model prog w) A (.builtin "dict.update.loop" ⟨[.ref D, .ref I, .int i u, .none], []⟩) R s := by
  intro k
  induction k with
  | zero =>
    intro i s kvs u hk hi hst hP hoff hD hkl hv hR
    have hin : i = as.length := by omega
    subst hin
    have W := Walks.list (prog := prog) (w := w) (A := A.in1) hh I ax hne ys.toArray
    refine codeAny_builtin F.entry_dict_update_loop ?_
    rw [Around.under_plainId F.plain_dict_update_loop _]
    show wpAny _ A.in1 (pyNext (.ref I) >>= _) _ _ s
    refine wpAny_bind (W.done s _ _ (by rw [List.size_toArray, hP.1]; exact hst) fun h' tk hm => ?_)
    show wpAny _ A.in1 (Builtin.Dict.addKeywords D [] >>= fun _ => ret Value.none) _ _ _
    refine wpAny_bind (wpAny_pure (wpAny_pure ?_))
    refine hR h' tk kvs (hD.at fun o e => hm D o (by simpa using hDI) e) (fun j a e => hv j a (List.getElem?_eq_some_iff.1 e).1 e) fun b o h1 h2 e => hm b o (by simpa using h2) e
  | succ k ih =>
    intro i s kvs u hk hi hst hP hoff hD hkl hv hR
    have hlt : i < as.length := by omega
    have W := Walks.list (prog := prog) (w := w) (A := A.in1) hh I ax hne ys.toArray
    refine codeAny_builtin F.entry_dict_update_loop ?_
    rw [Around.under_plainId F.plain_dict_update_loop _]
    show wpAny _ A.in1 (pyNext (.ref I) >>= _) _ _ s
    refine wpAny_bind (W.item i s _ _ (by rw [List.size_toArray, hP.1]; exact hlt) hst fun v h' tk hPv hst' hm => ?_)
    have ha : as[i]? = some as[i] := List.getElem?_eq_getElem hlt
    obtain ⟨T, t, t2, hy, hT⟩ := hP.2 i _ ha
    have hv' : v = .ref T := by
      rw [List.getElem?_toArray, hy] at hPv
      exact (Option.some.inj hPv).symm
    subst hv'
    have hTo := hoff i _ T ha hy
    have hT' : h'.get? T = some (tup [.int as[i] t, .int (i : Int) t2]) := hm T _ (by simpa using hTo.1) hT
    show wpAny _ A.in1 (holding [Value.ref T] _ >>= _) _ _ _
    refine wpAny_bind (wpAny_holding ?_)
    refine wpAny_bind (wpAny_tryCatch (pair_items (s := { s with heap := h', toks := tk }) hT' ?_))
    have hD' : h'.DictOf (PySem.intKind prog w) D kvs := hD.at fun o e => hm D o (by simpa using hDI) e
    refine wpAny_holding ?_
    refine wpAny_dictSet_pairs (s := { s with heap := h', toks := tk }) (hsz := by rw [sizeLine_eq]; omega) (k := as[i]) (PySem.intKind_is _ _ _ _) hD' fun h₅ hD₅ hs₅ => ?_
    have hsame : ∀ b o, b ≠ D → h'.get? b = some o → h₅.get? b = some o := fun b o hb e => hs₅.extBut b o hb e
    refine wpAny_pure ⟨plainId_quiet F.plain_dict_update_loop _, ih (i + 1) _ (stored kvs as[i] (.int (i : Int) t2)) 0 (by omega) hlt ?_ ?_ hoff hD₅ ?_ ?_ fun h₆ tk₆ kvs₆ hD₆ hv₆ hk₆ => ?_⟩
    · exact ⟨hst'.1.at fun o e => hsame _ o (Ne.symm hDI) e, hst'.2.at fun o e => hsame _ o (Ne.symm hDa) e⟩
    · refine ⟨hP.1, fun j a e => ?_⟩
      obtain ⟨T', t', u', h1, h2⟩ := hP.2 j a e
      have := hoff j a T' e h1
      exact ⟨T', t', u', h1, hsame _ _ this.2 (hm T' _ (by simpa using this.1) h2)⟩
    · have := stored_length_le kvs as[i] (.int (i : Int) t2)
      omega
    · intro j a hj hja
      rw [valueAt_stored]
      by_cases hji : j = i
      · subst hji
        have : a = as[j] := by rw [ha] at hja; exact (Option.some.inj hja).symm
        exact ⟨t2, if_pos this⟩
      · have hja' : ¬ a = as[i] := by
          intro q
          rw [q, ← ha] at hja
          exact hji ((List.getElem?_inj (by exact (List.getElem?_eq_some_iff.1 (hja.trans ha)).1) hnd).1 hja)
        obtain ⟨t', e⟩ := hv j a (by omega) hja
        exact ⟨t', (if_neg hja').trans e⟩
    · exact hR h₆ tk₆ kvs₆ hD₆ hv₆ fun b o h1 h2 e => hk₆ b o h1 h2 (hsame b o h1 (hm b o (by simpa using h2) e))

theorem dict_pairs {as : List Int} {ys : List Value} {D : Addr} {Q : Value → Shared → Prop} (hh : A.handled = none) (hx : s.heap.get? D = some (LCg.lst ys)) (hp : PairsOf s.heap as ys) (hnd : as.Nodup) (hsz : as.length ≤ 1000)
    (h : ∀ h' tk kvs, h'.DictOf (PySem.intKind prog w) s.heap.objs.size kvs → (∀ (j : Nat) (a : Int), as[j]? = some a → ∃ t, valueAt kvs a = some (.int (j : Int) t)) → (∀ b o, s.heap.get? b = some o → h'.get? b = some o) → Q (.ref s.heap.objs.size) { s with heap := h', toks := tk }) :
    wpAny (model prog w) A (call (.type "dict") [.ref D]) Q E s := by
  refine callType_codes (Q₁ := fun obj s₁ => obj = .ref s.heap.objs.size ∧ s₁ = { s with heap := s.heap.push { cls := .type "dict", data := .dict #[] } }) F.kt_called_dict (F.kt_typeCall_dict_1 _) F.entry_dict_init (kt_code_dict_new _ ⟨rfl, rfl⟩) ?_
  rintro obj s₁ ⟨rfl, rfl⟩
  have hnew : (s.heap.push { cls := .type "dict", data := .dict #[] }).DictOf (PySem.intKind prog w) s.heap.objs.size [] := Heap.DictOf.new s.heap
  have hx' : (s.heap.push { cls := .type "dict", data := .dict #[] }).get? D = some (LCg.lst ys) := Heap.get?_push_of_some _ hx
  have hDlt : D < s.heap.objs.size := Heap.lt_size hx
  refine ⟨hnew.typeIs, F.args_dict_init_2 _ _, ?_⟩
  unfold Builtin.«dict.__init__»
  refine wpAny_bind ?_
  unfold Builtin.Dict.selfAndRest
  refine wpAny_bind (wpAny_notOrdered_dict hnew.typeIs ?_)
  show wpAny _ _ (pure (s.heap.objs.size, [Value.ref D])) _ _ _
  refine wpAny_pure ?_
  show wpAny _ _ (Builtin.Dict.updateFrom "dict.__init__" s.heap.objs.size (.ref D) [] .none) _ _ _
  unfold Builtin.Dict.updateFrom
  refine wpAny_bind (wpAny_typeOf (T := "list") ⟨_, hx', rfl⟩ ?_)
  rw [if_pos (by decide)]
  refine wpAny_bind (keys_none (s := { s with heap := s.heap.push { cls := .type "dict", data := .dict #[] } }) hx' hh fun h₁ tk₁ hk₁ => ?_)
  simp only [Option.isNone_none, if_true]
  refine wpAny_bind (wpAny_rule ?_)
  have hl : h₁.IsList D ys.toArray := ⟨_, hk₁ _ _ hx', rfl, _, rfl⟩
  refine wpAny_bind (wpAny_pyIter_list (s := { s with heap := h₁, toks := tk₁ }) hl ?_)
  have hd₁ : h₁.DictOf (PySem.intKind prog w) s.heap.objs.size [] := hnew.at fun o e => hk₁ _ o e
  have hdlt : s.heap.objs.size < h₁.objs.size := by obtain ⟨o, _, _, e, _⟩ := hd₁; exact Heap.lt_size e
  have up : ∀ b o, s.heap.get? b = some o → h₁.get? b = some o := fun b o e => hk₁ b o (Heap.get?_push_of_some _ e)
  refine wpAny_pure ⟨plainId_quiet F.plain_dict_update_loop _, ?_⟩
  show codeAny (model prog w) A.in1 (.builtin "dict.update.loop" ⟨[.ref s.heap.objs.size, .ref h₁.objs.size, .int ((0 : Nat) : Int) 0, .none], []⟩) _ _
  refine upd_loop (A := A.in1) (D := s.heap.objs.size) (I := h₁.objs.size) (ax := D) (ys := ys) (as := as) hh (Nat.ne_of_lt (Nat.lt_trans hDlt hdlt)) (Nat.ne_of_lt hdlt) (Nat.ne_of_gt hDlt) hnd hsz as.length 0 _ [] 0 rfl (Nat.zero_le _) ?_ ?_ ?_ ?_ (Nat.zero_le _) (fun j a hj => absurd hj (Nat.not_lt_zero _)) fun h' tk kvs hd hv hk => ?_
  · exact ⟨⟨_, Heap.get?_push_size _ rfl, rfl, rfl⟩, hl.push _⟩
  · exact hp.keep fun b o e => Heap.get?_push_of_some _ (up b o e)
  · intro i a T e hy
    obtain ⟨T', _, _, h1, h2⟩ := hp.2 i a e
    rw [hy] at h1
    obtain rfl : T = T' := by injection h1 with h1; injection h1
    have := Heap.lt_size h2
    exact ⟨Nat.ne_of_lt (Nat.lt_trans this hdlt), Nat.ne_of_lt this⟩
  · exact hd₁.push _
  · refine ⟨rfl, h h' tk kvs hd hv fun b o e => hk b o (Nat.ne_of_lt (Heap.lt_size e)) (Nat.ne_of_lt (Nat.lt_trans (Heap.lt_size e) hdlt)) (Heap.get?_push_of_some _ (up b o e))⟩
end
end
end Mine
end
section
-- part B7
set_option maxRecDepth 100000
open PySem PySem.W PyProof.Rows PySem.Spec PySem.Calls
namespace Mine
noncomputable section
section
variable {prog : Program} {w : World} {A : Around} {E : Value → Shared → Prop} {s : Shared} {h₀ : Heap} {L : Addr} {m : Str → Option Value} {news : List (Addr × Obj)} {env : Env}

/-- the pairs that the block has made so far, all in the ledger -/
def Made (as : List Int) (i : Nat) (ys : List Value) (tl : List (Addr × Obj)) : Prop :=
  ys.length = i ∧ ∀ (j : Nat) (a : Int), j < i → as[j]? = some a → ∃ T t u, ys[j]? = some (.ref T) ∧ (T, tup [.int a t, .int (j : Int) u]) ∈ tl

theorem pairs_rest {as : List Int} {bs : Array UInt8} {tb : Tok} {sgn x : Str} {p1 p2 p3 p4 tp : Pos} {kk : Nat} {scope : Scope} {cl : List (Str × Addr)} {c : Addr} {o : Obj} {Q : Value → Shared → Prop}
    (hbs : KBw.bInts bs = as) (hl : as.length ≤ 1000) (hc : cl.lookup sgn = some c) (hm : (c, o) ∈ news) (hd : o.data = .cell (some (.bytes bs tb)))
    (hkc : scope.kind = .function) (hks : scope.names.lookup sgn = some .free) (hkx : scope.names.lookup x = some .local)
    (hks' : ∀ C, (compEnvC scope cl C env).kindOf sgn = some .cell) (hkx' : ∀ C, (compEnvC scope cl C env).kindOf x = some .local)
    (hdx : (x == ("__debug__" : Str)) = false) (hds : (sgn == ("__debug__" : Str)) = false) (hns : (sgn == ("__classdict__" : Str)) = false)
    (fin : ∀ D h tk ys, Fr h₀ L h m → News h₀ L h ((D, LCg.lst ys) :: news) → LCg.Off1 D news → PairsOf h as ys → Q (.ref D) { s with heap := h, toks := tk }) :
    ∀ (j i : Nat) (ys : List Value) (tl : List (Addr × Obj)), i + j = as.length → Made as i ys tl →
      LCg.CompRest prog w A h₀ L m env (.Tuple [.Subscript (.Name sgn p1) (.Name x p2) p3, .Name x p4] kk tp) x scope cl s (fun _ => True) (fun i v => ∃ t, v = .int (0 + (i : Int)) t) (LCg.FinE h₀ L m s Q) j i ys (tl ++ news) := by
  intro j
  induction j with
  | zero =>
    intro i ys tl hi hM
    refine LCg.CompRest.zero ?_
    intro D h tk F N off
    have hoff := off
    refine fin D h tk ys F (fun p hp => ?_) ?_ ⟨by rw [hM.1]; omega, fun j a e => ?_⟩
    · rcases List.mem_cons.mp hp with rfl | hp
      · exact N _ List.mem_cons_self
      · exact N _ (List.mem_cons_of_mem _ (List.mem_append.2 (.inr hp)))
    · clear N F hM fin
      induction tl with
      | nil => exact hoff
      | cons p r ih => exact ih hoff.2 hoff.2
    · obtain ⟨T, t, u, h1, h2⟩ := hM.2 j a (by have := (List.getElem?_eq_some_iff.1 e).1; omega) e
      exact ⟨T, t, u, h1, (N _ (List.mem_cons_of_mem _ (List.mem_append.2 (.inl h2)))).1⟩
  | succ j ih =>
    intro i ys tl hi hM
    refine LCg.CompRest.succ ?_
    intro v I oI C oC D m₂ h tk E' hv hC hx F N off ne
    obtain ⟨t, rfl⟩ := hv
    rw [Int.zero_add] at hx
    have hlt : i < as.length := by omega
    have hns' : ∀ g : Heap, (∀ p ∈ (C, oC) :: [], g.get? p.1 = some p.2) → g.Ns C m₂ := fun g hg => hC.ns (hg _ List.mem_cons_self)
    have eC : h.get? C = some oC := (N (C, oC) (List.mem_cons_of_mem _ List.mem_cons_self)).1
    have ec : h.get? c = some o := (N (c, o) (List.mem_cons_of_mem _ (List.mem_cons_of_mem _ (List.mem_cons_of_mem _ (List.mem_append.2 (.inr hm)))))).1
    refine wpAny_Tuple (wpAny_items_cons (Subscript_ ?_))
    refine ldCellK (c := c) (v := .bytes bs tb) hc ⟨o, ec, hd⟩ ?_ hkc (hks' C) hds
    refine ldVarK (m := m₂) (v := .int (i : Int) t) (hC.ns eC) hx ?_ hkc (hkx' C) hdx
    refine KBw.item_K hbs (by omega) (by omega) (by omega) (fun t' k _ _ => ?_) (by with_unfolding_all rfl) (by intro _; with_unfolding_all rfl)
    refine wpAny_items_cons ?_
    refine ldVarK (m := m₂) (v := .int (i : Int) t) (hC.ns eC) hx ?_ hkc (hkx' C) hdx
    refine wpAny_items_nil ⟨by show 2 ≤ sizeLine; rw [sizeLine_eq]; omega, ?_⟩
    have ha : as.getD (i : Int).toNat 0 = as[i] := by simp [hlt]
    rw [ha]
    have up : ∀ b ob, h.get? b = some ob → (h.push (tup [.int as[i] t', .int (i : Int) t])).get? b = some ob := fun b ob e => Heap.get?_push_of_some _ e
    have hLT : L < h.objs.size := F.ns.lt
    have hT₀ : h₀.get? h.objs.size = none := next_is_new F
    have lt3 : ∀ p ∈ (I, oI) :: (C, oC) :: (D, LCg.lst ys) :: (tl ++ news), p.1 < h.objs.size := fun p hp => Heap.lt_size (N p hp).1
    refine ⟨h.push (tup [.int as[i] t', .int (i : Int) t]), k, (h.objs.size, tup [.int as[i] t', .int (i : Int) t]) :: (tl ++ news), rfl, F.keeps up, ?_, ⟨⟨?_, ?_, ?_⟩, off⟩, trivial, ?_⟩
    · intro p hp
      rcases List.mem_cons.mp hp with rfl | hp
      · exact (N.grown up) _ List.mem_cons_self
      rcases List.mem_cons.mp hp with rfl | hp
      · exact (N.grown up) _ (List.mem_cons_of_mem _ List.mem_cons_self)
      rcases List.mem_cons.mp hp with rfl | hp
      · exact (N.grown up) _ (List.mem_cons_of_mem _ (List.mem_cons_of_mem _ List.mem_cons_self))
      rcases List.mem_cons.mp hp with rfl | hp
      · exact ⟨Heap.get?_push_size _ rfl, Nat.ne_of_gt hLT, hT₀⟩
      · exact (N.grown up) _ (List.mem_cons_of_mem _ (List.mem_cons_of_mem _ (List.mem_cons_of_mem _ hp)))
    · exact Nat.ne_of_gt (lt3 (I, oI) List.mem_cons_self)
    · exact Nat.ne_of_gt (lt3 (C, oC) (List.mem_cons_of_mem _ List.mem_cons_self))
    · exact Nat.ne_of_gt (lt3 (D, LCg.lst ys) (List.mem_cons_of_mem _ (List.mem_cons_of_mem _ List.mem_cons_self)))
    · refine ih (i + 1) (ys ++ [.ref h.objs.size]) ((h.objs.size, tup [.int as[i] t', .int (i : Int) t]) :: tl) (by omega) ⟨by rw [List.length_append, hM.1]; rfl, fun j' a hj e => ?_⟩
      by_cases hji : j' = i
      · subst hji
        have : a = as[j'] := by rw [List.getElem?_eq_getElem hlt] at e; exact (Option.some.inj e).symm
        subst this
        exact ⟨h.objs.size, t', t, by rw [List.getElem?_append_right (by rw [hM.1]; exact Nat.le_refl _), hM.1]; simp, List.mem_cons_self⟩
      · obtain ⟨T, t1, u1, h1, h2⟩ := hM.2 j' a (by omega) e
        exact ⟨T, t1, u1, by rw [List.getElem?_append_left (by rw [hM.1]; omega)]; exact h1, List.mem_cons_of_mem _ h2⟩

/-- [(signs[k], k) for k in range(size)] : its source -/
theorem pairs_src {as : List Int} {bs : Array UInt8} {tb : Tok} {sgn x : Str} {p1 p2 p3 p4 tp : Pos} {kk : Nat} {scope : Scope} {cl : List (Str × Addr)} {c r : Addr} {o : Obj} {b : Int} {t u v : Tok} {Q : Value → Shared → Prop} {s₁ : Shared}
    (hh : A.handled = none) (F : Fr h₀ L s₁.heap m) (N : News h₀ L s₁.heap news) (hr : IsRange s₁.heap r 0 b 1 t u v) (hb : b = (as.length : Int)) (hbs : KBw.bInts bs = as) (hl : as.length ≤ 1000)
    (hc : cl.lookup sgn = some c) (hm : (c, o) ∈ news) (hd : o.data = .cell (some (.bytes bs tb)))
    (fin : ∀ D h tk ys, Fr h₀ L h m → News h₀ L h ((D, LCg.lst ys) :: news) → LCg.Off1 D news → PairsOf h as ys → Q (.ref D) { s₁ with heap := h, toks := tk })
    (hkc : scope.kind = .function := by rfl) (hks : scope.names.lookup sgn = some .free := by rfl) (hkx : scope.names.lookup x = some .local := by rfl)
    (hks' : ∀ C, (compEnvC scope cl C env).kindOf sgn = some .cell := by intro _; rfl) (hkx' : ∀ C, (compEnvC scope cl C env).kindOf x = some .local := by intro _; rfl)
    (hdx : (x == ("__debug__" : Str)) = false := by decide) (hds : (sgn == ("__debug__" : Str)) = false := by decide) (hns : (sgn == ("__classdict__" : Str)) = false := by decide) :
    LCg.CompSrc prog w A h₀ L m env (.Tuple [.Subscript (.Name sgn p1) (.Name x p2) p3, .Name x p4] kk tp) x scope cl (fun s₂ => LCg.FinE h₀ L m s₂ Q) (.ref r) s₁ := by
  subst hb
  refine LCg.CompSrc.range (n := as.length) hh F N hr (small_one (by omega) (by omega) (by omega) (by omega)) (by have := rangeSize_nat 0 (as.length : Int); simpa using this) (by rw [sizeLine_eq]; omega) fun g => ?_
  exact pairs_rest (s := { s₁ with heap := g }) hbs hl hc hm hd hkc hks hkx hks' hkx' hdx hds hns (fun D h tk ys F N o P => fin D h tk ys F N o P) as.length 0 [] [] (by omega) ⟨rfl, fun j a hj => absurd hj (Nat.not_lt_zero _)⟩

theorem dict_call {as : List Int} {ys : List Value} {D : Addr} {Q : Value → Shared → Prop} (hh : A.handled = none) (F : Fr h₀ L s.heap m) (N : News h₀ L s.heap news) (hm : (D, LCg.lst ys) ∈ news) (hp : PairsOf s.heap as ys) (hnd : as.Nodup) (hsz : as.length ≤ 1000)
    (h : ∀ R o h' tk, Fr h₀ L h' m → News h₀ L h' ((R, o) :: news) → (∀ p ∈ news, p.1 < R) → MapIs prog w as o → Q (.ref R) { s with heap := h', toks := tk }) :
    wpAny (model prog w) A (call (.type "dict") [.ref D]) Q E s := by
  refine dict_pairs hh (N.get hm) hp hnd hsz fun h' tk kvs hd hv hk => ?_
  obtain ⟨o, ho, hdo⟩ := Heap.dictOf_iff.mp hd
  have hLlt : L < s.heap.objs.size := F.ns.lt
  refine h _ o h' tk (F.keeps hk) (fun p hp => ?_) (fun p hp => Heap.lt_size (N p hp).1) ⟨kvs, hdo, hv⟩
  rcases List.mem_cons.mp hp with rfl | hp
  · exact ⟨ho, Nat.ne_of_gt hLlt, next_is_new F⟩
  · exact (N.grown hk) p hp
end
end
end Mine
end
section
-- part P8
set_option maxRecDepth 100000
open PySem PySem.W PyProof.Rows
namespace Mine
theorem draw_facts {ys : List Value} {f : Int → Int} (h : IntsAre ys ((rangeKs 0 (18 - 0 : Int).toNat).map f)) (hf : ∀ k, 0 ≤ f k ∧ f k < 10007) :
    ∃ ds, IntsAre ys ds ∧ ds.length = 18 ∧ (∀ d ∈ ds, 0 ≤ d ∧ d < 10007) := by
  refine ⟨_, h, by rw [List.length_map, rangeKs_length]; rfl, fun d hd => ?_⟩
  obtain ⟨k, _, rfl⟩ := List.mem_map.1 hd
  exact hf k
theorem fmod_in (a : Int) : 0 ≤ a.fmod 10007 ∧ a.fmod 10007 < 10007 := ⟨Int.fmod_nonneg_of_pos _ (by decide), Int.fmod_lt_of_pos _ (by decide)⟩
theorem size_fact {o : Obj} {x : Int} {t : Tok} (h : o.data = .cell (some (.int (2 + x.fmod 57) t))) : ∃ n : Nat, 2 ≤ n ∧ n ≤ 58 ∧ o.data = .cell (some (.int (n : Int) t)) := by
  have h1 := Int.fmod_nonneg_of_pos x (show (0 : Int) < 57 by decide)
  have h2 := Int.fmod_lt_of_pos x (show (0 : Int) < 57 by decide)
  refine ⟨(2 + x.fmod 57).toNat, by omega, by omega, ?_⟩
  rw [Int.toNat_of_nonneg (by omega)]
  exact h
theorem get18 {ds : List Int} (h : ds.length = 18) (hd : ∀ d ∈ ds, 0 ≤ d ∧ d < 10007) (i : Nat) : 0 ≤ ds.getD i 0 ∧ ds.getD i 0 < 10007 := by
  rw [List.getD_eq_getElem?_getD]
  cases e : ds[i]? with
  | none => simp
  | some d => exact hd d (List.mem_of_getElem? e)

theorem step_inj {d : Int} {i j : Int} (h0 : 0 ≤ d) (hi : 0 ≤ i) (hi2 : i < 58) (hj : 0 ≤ j) (hj2 : j < 58) (h : 33 + (d + (1 + d.fmod 23 * 2) * i).fmod 94 = 33 + (d + (1 + d.fmod 23 * 2) * j).fmod 94) : i = j := by
  have h1 := Int.fmod_nonneg_of_pos d (show (0 : Int) < 23 by decide)
  have h2 := Int.fmod_lt_of_pos d (show (0 : Int) < 23 by decide)
  have hc : d.fmod 23 = 0 ∨ d.fmod 23 = 1 ∨ d.fmod 23 = 2 ∨ d.fmod 23 = 3 ∨ d.fmod 23 = 4 ∨ d.fmod 23 = 5 ∨ d.fmod 23 = 6 ∨ d.fmod 23 = 7 ∨ d.fmod 23 = 8 ∨ d.fmod 23 = 9 ∨ d.fmod 23 = 10 ∨ d.fmod 23 = 11 ∨ d.fmod 23 = 12 ∨ d.fmod 23 = 13 ∨ d.fmod 23 = 14 ∨ d.fmod 23 = 15 ∨ d.fmod 23 = 16 ∨ d.fmod 23 = 17 ∨ d.fmod 23 = 18 ∨ d.fmod 23 = 19 ∨ d.fmod 23 = 20 ∨ d.fmod 23 = 21 ∨ d.fmod 23 = 22 := by omega
  clear h1 h2
  generalize d.fmod 23 = r at h hc
  rw [Int.fmod_eq_emod_of_nonneg _ (by decide), Int.fmod_eq_emod_of_nonneg _ (by decide)] at h
  rcases hc with e | e | e | e | e | e | e | e | e | e | e | e | e | e | e | e | e | e | e | e | e | e | e <;> subst e <;> omega
theorem signs_fact {o : Obj} {d : Int} {n : Nat} {t : Tok} (hn58 : n ≤ 58) (hd0 : 0 ≤ d) (h : o.data = .cell (some (.bytes (byteArr ((rangeKs 0 ((n : Int) - 0).toNat).map fun k' => 33 + (d + (1 + d.fmod 23 * 2) * k').fmod 94)) t)))
    (hin : KBa.In ((rangeKs 0 ((n : Int) - 0).toNat).map fun k' => 33 + (d + (1 + d.fmod 23 * 2) * k').fmod 94)) :
    ∃ (al : Array UInt8) (as : List Int), o.data = .cell (some (.bytes al t)) ∧ KBw.bInts al = as ∧ as.length = n ∧ as.Nodup ∧ (∀ k ∈ as, 33 ≤ k) ∧ (∀ k ∈ as, k ≠ 32) := by
  have en : ((n : Int) - 0).toNat = n := by omega
  rw [en] at h hin
  refine ⟨_, _, h, KBa.ints_make hin, by rw [List.length_map, rangeKs_length], ?_, ?_, ?_⟩
  · unfold rangeKs
    refine List.pairwise_map.2 (List.pairwise_map.2 (List.Pairwise.imp_of_mem (fun {a b} ha hb hab e => ?_) List.pairwise_lt_range))
    have ha := List.mem_range.1 ha
    have hb := List.mem_range.1 hb
    have := step_inj hd0 (by omega) (by omega) (by omega) (by omega) e
    omega
  · intro k hk
    obtain ⟨i, _, rfl⟩ := List.mem_map.1 hk
    have := Int.fmod_nonneg_of_pos (d + (1 + d.fmod 23 * 2) * i) (show (0 : Int) < 94 by decide)
    omega
  · intro k hk
    obtain ⟨i, _, rfl⟩ := List.mem_map.1 hk
    have := Int.fmod_nonneg_of_pos (d + (1 + d.fmod 23 * 2) * i) (show (0 : Int) < 94 by decide)
    omega
end Mine
namespace Mine
theorem octets_fact {ds : List Int} {x : Int} (hdl : ds.length = 18) : ((List.map (fun k' : Int => if ¬k'.fmod 3 = 0 then k'.fmod 256 else 0) (List.take (min (3 + x.fmod 8).toNat ds.length - 2) (List.drop 2 ds)))).length ≤ 8 := by
  have h2 := Int.fmod_lt_of_pos x (show (0 : Int) < 8 by decide)
  rw [List.length_map, List.length_take, List.length_drop]
  omega
end Mine
namespace Mine
theorem place_b (x : Int) {n : Nat} (h : 0 < n) : 0 ≤ x.fmod (n : Int) ∧ x.fmod (n : Int) < (n : Int) := ⟨Int.fmod_nonneg_of_pos _ (by omega), Int.fmod_lt_of_pos _ (by omega)⟩
end Mine
end
section
-- part P9
set_option maxRecDepth 100000
open PySem PySem.W PyProof.Rows
namespace Mine
/-- what the law needs to know of the text -/
structure Txt (as os tx : List Int) : Prop where
  pos : 0 < tx.length
  len : tx.length ≤ 100
  mem : ∀ k ∈ tx, k ∈ as
  ge : ∀ k ∈ tx, 33 ≤ k
  dec : decodeL as tx = os ++ hashL (hashL os)
  val : 4294705157 ∣ valS as tx
end Mine
namespace Mine
theorem bytes_ne {p q : Array UInt8} {os : List Int} (hne : (p.toList != q.toList) = true) (hp : KBw.bInts p = os) (hq : KBw.bInts q = os) : False := by
  rw [toList_of (hp.trans hq.symm)] at hne
  simp at hne
end Mine
namespace Mine
def powI (n : Nat) (k : Int) : Int := ((n ^ k.toNat : Nat) : Int)
theorem pow_K {prog : Program} {w : World} {A : Around} {E : Value → Shared → Prop} {s : Shared} {n : Nat} {k : Int} {t u : Tok} {Q : Value → Shared → Prop} (hk : 0 ≤ k) (hk2 : k ≤ 1000000) (hn : n ≤ 58) (h : ∀ t' k', Q (.int (powI n k) t') { s with toks := k' }) :
    wpAny (model prog w) A (binaryOp .Pow (.int (n : Int) t) (.int k u)) Q E s := by
  refine pow_int_small hk hk2 (by rw [Int.natAbs_natCast]; omega) ?_
  have e : ((n : Int) ^ k.toNat) = powI n k := by unfold powI; rw [Int.natCast_pow]
  rw [e]
  exact h _ _
end Mine
namespace Mine
theorem pow_K2 {prog : Program} {w : World} {A : Around} {E : Value → Shared → Prop} {s : Shared} {n : Nat} {k : Int} {t u : Tok} {Q : Value → Shared → Prop} (hk : 1 ≤ k) (hk2 : k < 1 + (((33 - 1 : Int).toNat : Nat) : Int)) (hn : n ≤ 58) (h : ∀ t' k', Q (.int (powI n k) t') { s with toks := k' }) :
    wpAny (model prog w) A (binaryOp .Pow (.int (n : Int) t) (.int k u)) Q E s := pow_K (by omega) (by omega) hn h
theorem most_fact {n : Nat} (h2 : 2 ≤ n) (hn : n ≤ 58) (m : Nat) : let L := (rangeKs 1 (m + 1)).filter (fun k => decide (powI n k < 4294705157)); 1 ≤ L.length ∧ L.length ≤ m + 1 ∧ n ^ L.length < 4294705157 := by
  have step : ∀ m, rangeKs 1 (m + 1) = rangeKs 1 m ++ [1 + (m : Int)] := by
    intro m; unfold rangeKs; rw [List.range_succ, List.map_append]; rfl
  induction m with
  | zero =>
    have e : rangeKs 1 (0 + 1) = [1] := by unfold rangeKs; rfl
    have hp : decide (powI n 1 < 4294705157) = true := by
      have : powI n 1 = (n : Int) := by unfold powI; simp
      rw [this]; exact decide_eq_true (by omega)
    simp only [e, List.filter_cons, List.filter_nil, hp, if_true, List.length_singleton]
    refine ⟨by omega, by omega, by rw [Nat.pow_one]; omega⟩
  | succ m ih =>
    dsimp only at ih ⊢
    rw [step (m + 1), List.filter_append]
    by_cases hp : decide (powI n (1 + ((m + 1 : Nat) : Int)) < 4294705157) = true
    · simp only [List.filter_cons, List.filter_nil, hp, if_true, List.length_append, List.length_singleton]
      refine ⟨by omega, by omega, ?_⟩
      have hlt := of_decide_eq_true hp
      have e : powI n (1 + ((m + 1 : Nat) : Int)) = ((n ^ (m + 2) : Nat) : Int) := by
        unfold powI
        rw [show (1 + ((m + 1 : Nat) : Int)).toNat = m + 2 by omega]
      rw [e] at hlt
      refine Nat.lt_of_le_of_lt (Nat.pow_le_pow_right (by omega) (by omega : _ ≤ m + 2)) (by omega)
    · simp only [List.filter_cons, List.filter_nil, hp, if_false, List.append_nil, Bool.false_eq_true]
      exact ⟨ih.1, by omega, ih.2.2⟩
end Mine
namespace Mine
def NMark (n : Nat) : Prop := n ≤ 58
def Gm (n : Nat) (l : List Int) (k : Int) : List Int := if powI n k < 4294705157 then l ++ [k] else l
theorem Gm_fold (n : Nat) : ∀ (ks l : List Int), ks.foldl (Gm n) l = l ++ ks.filter (fun k => decide (powI n k < 4294705157))
  | [], l => by simp
  | k :: r, l => by
    rw [List.foldl_cons, Gm_fold n r, List.filter_cons]
    unfold Gm
    by_cases h : powI n k < 4294705157
    · rw [if_pos h, decide_eq_true h]; simp
    · rw [if_neg h, decide_eq_false h]; simp
theorem most_len {n : Nat} (h2 : 2 ≤ n) (hn : n ≤ 58) : 1 ≤ ((rangeKs 1 (33 - 1 : Int).toNat).foldl (Gm n) []).length ∧ ((rangeKs 1 (33 - 1 : Int).toNat).foldl (Gm n) []).length ≤ 32 ∧ n ^ ((rangeKs 1 (33 - 1 : Int).toNat).foldl (Gm n) []).length < 4294705157 := by
  rw [Gm_fold, List.nil_append]
  exact most_fact h2 hn 31
theorem most_el {n : Nat} {news news' : List (Addr × Obj)} {l : List Int} {k : Int} {y : Value} {t : Tok} (h : powI n k < 4294705157) (hn : news' = news) (hy : y = .int k t) : KCiEl news l (Gm n l k) y news' := kci_el (by unfold Gm; rw [if_pos h]) hn hy
theorem most_no {n : Nat} {news news' : List (Addr × Obj)} {l : List Int} {k : Int} (h : ¬ powI n k < 4294705157) (hn : news' = news) : KCiNo news l (Gm n l k) news' := kci_no (by unfold Gm; rw [if_neg h]) hn
section
variable {prog : Program} {w : World} {A : Around} {h₀ : Heap} {L : Addr} {m : Str → Option Value} {env : Env} {ct elt : Expr} {x : Str} {scope : Scope} {cl : List (Str × Addr)} {s : Shared} {S : List (Addr × Obj) → Prop} {P : Nat → Value → Prop} {Fin : List Value → List (Addr × Obj) → Prop} {news : List (Addr × Obj)}
theorem most_range {N n : Nat} {a : Int} (hnm : NMark n)
    (turn : ∀ k t I oI C oC D m₂ ys l h tk (E' : Value → Shared → Prop), a ≤ k → k < a + (N : Int) → IntsAre ys l → LCg.NsObj oC m₂ → m₂ x = some (.int k t) → Fr h₀ L h m → News h₀ L h ((I, oI) :: (C, oC) :: (D, LCg.lst ys) :: news) → LCg.Off3 I C D news → ((@Ne Nat I C) ∧ (@Ne Nat I D) ∧ (@Ne Nat C D)) → KPfMark →
      wpAny (model prog w) A (isTrue ct (compEnvC scope cl C env) (eval ct (compEnvC scope cl C env))) (fun b s' => if b = true then wpAny (model prog w) A (eval elt (compEnvC scope cl C env)) (LCg.CompEnd h₀ L m { s with heap := h, toks := tk } I oI C oC D (LCg.lst ys) S (fun y news' => KCiEl news l (Gm n l k) y news')) E' s'
        else LCg.CompEnd h₀ L m { s with heap := h, toks := tk } I oI C oC D (LCg.lst ys) S (fun _ news' => KCiNo news l (Gm n l k) news') Value.none s') E' { s with heap := h, toks := tk })
    (fin : KPfDone (∀ ys, IntsAre ys ((rangeKs a N).foldl (Gm n) []) → ys.length ≤ N → Fin ys news)) : LCt.CompRestT prog w A h₀ L m env ct elt x scope cl s S (fun i v => ∃ t, v = .int (a + (i : Int)) t) Fin N 0 [] news :=
  kci_range (Gm n) turn fin fun l k => by
    unfold Gm; split
    · simp
    · omega
end
end Mine
namespace Mine
theorem end_same {h₀ : Heap} {L I C D : Addr} {m : Str → Option Value} {s₁ : Shared} {oI oC oD : Obj} {S : List (Addr × Obj) → Prop} {rest : Value → List (Addr × Obj) → Prop} {y : Value} {h' : Heap} {tk : Nat} {news : List (Addr × Obj)}
    (F : Fr h₀ L h' m) (N : News h₀ L h' ((I, oI) :: (C, oC) :: (D, oD) :: news)) (off : LCg.Off3 I C D news) (hS : S news) (r : rest y news) :
    LCg.CompEnd h₀ L m s₁ I oI C oC D oD S rest y { s₁ with heap := h', toks := tk } := LCg.CompEnd.intro F N news (fun _ hp => hp) off hS r
end Mine
end
section
-- part P10
set_option maxRecDepth 100000
open PySem PySem.W
namespace Mine
-- numbers and digits
theorem snoc_ind {α : Type} {motive : List α → Prop} (nil : motive []) (append_singleton : ∀ l d, motive l → motive (l ++ [d])) (l : List α) : motive l := by
  have h : ∀ r : List α, motive r.reverse := by
    intro r
    induction r with
    | nil => exact nil
    | cons a r ih => rw [List.reverse_cons]; exact append_singleton _ _ ih
  have := h l.reverse
  rwa [List.reverse_reverse] at this
theorem valD_append (B : Nat) (x y : List Nat) : valD B (x ++ y) = valD B x * B ^ y.length + valD B y := by
  induction y using snoc_ind with
  | nil => simp [valD]
  | append_singleton l d ih =>
    rw [← List.append_assoc]
    have h1 : valD B (x ++ l ++ [d]) = valD B (x ++ l) * B + d := by unfold valD; rw [List.foldl_append]; rfl
    have h2 : valD B (l ++ [d]) = valD B l * B + d := by unfold valD; rw [List.foldl_append]; rfl
    rw [h1, h2, ih, List.length_append, List.length_singleton, Nat.pow_succ, Nat.add_mul, Nat.mul_assoc]
    omega
theorem valD_snoc (B : Nat) (l : List Nat) (d : Nat) : valD B (l ++ [d]) = valD B l * B + d := by unfold valD; rw [List.foldl_append]; rfl
theorem valD_lt2 {B : Nat} (hB : 0 < B) {ds : List Nat} (h : ∀ d ∈ ds, d < B) : valD B ds < B ^ ds.length := by
  have := valD_lt hB ds 0 h
  unfold valD
  simpa using this
theorem valD_dg {B : Nat} (hB : 2 ≤ B) : ∀ n : Nat, valD B (dg B n) = n := by
  intro n
  induction n using Nat.strongRecOn with
  | _ n ih =>
    by_cases hn : n = 0
    · subst hn; rw [dg_zero]; rfl
    · rw [dg_pos hB hn, valD_snoc, ih _ (Nat.div_lt_self (by omega) (by omega))]
      have := Nat.div_add_mod n B
      rw [Nat.mul_comm] at this
      exact this
def isZ (d : Nat) : Bool := d == 0
theorem dropZ_nil {ds : List Nat} (h : ds.dropWhile isZ = []) (B : Nat) : valD B ds = 0 := by
  induction ds with
  | nil => rfl
  | cons d r ih =>
    rw [List.dropWhile_cons] at h
    by_cases hd : isZ d = true
    · rw [if_pos hd] at h
      have : d = 0 := by simpa [isZ] using hd
      subst this
      have e : valD B (0 :: r) = valD B r := by unfold valD; rw [List.foldl_cons, Nat.zero_mul]
      rw [e]; exact ih h
    · rw [if_neg hd] at h; cases h
theorem dg_valD {B : Nat} (hB : 2 ≤ B) (ds : List Nat) : (∀ d ∈ ds, d < B) → dg B (valD B ds) = ds.dropWhile isZ := by
  induction ds using snoc_ind with
  | nil => intro _; show dg B 0 = []; exact dg_zero B
  | append_singleton l d ih =>
    intro h
    have hd : d < B := h d (by simp)
    have hl : ∀ x ∈ l, x < B := fun x hx => h x (List.mem_append.2 (.inl hx))
    rw [valD_snoc, List.dropWhile_append]
    have e1 : (valD B l * B + d) / B = valD B l := by rw [Nat.mul_comm, Nat.mul_add_div (by omega), Nat.div_eq_of_lt hd]; omega
    have e2 : (valD B l * B + d) % B = d := by rw [Nat.mul_comm, Nat.mul_add_mod, Nat.mod_eq_of_lt hd]
    by_cases he : l.dropWhile isZ = []
    · have h0 := dropZ_nil he B
      rw [h0, he]
      simp only [List.isEmpty_nil, if_true, Nat.zero_mul, Nat.zero_add]
      by_cases hz : d = 0
      · subst hz; rw [dg_zero]; rfl
      · rw [dg_pos hB hz, Nat.div_eq_of_lt hd, dg_zero, Nat.mod_eq_of_lt hd]
        have : isZ d = false := by simpa [isZ] using hz
        simp [this]
    · have hne : (l.dropWhile isZ).isEmpty = false := by cases q : l.dropWhile isZ with
        | nil => exact absurd q he
        | cons _ _ => rfl
      rw [hne]
      simp only [Bool.false_eq_true, if_false]
      have hv : valD B l ≠ 0 := by
        intro q
        have := ih hl
        rw [q, dg_zero] at this
        exact he this.symm
      have hpos : valD B l * B + d ≠ 0 := by
        have : 0 < valD B l * B := Nat.mul_pos (by omega) (by omega)
        omega
      rw [dg_pos hB hpos, e1, e2, ih hl]
theorem dg_head {B : Nat} (hB : 2 ≤ B) (n : Nat) : (dg B n).dropWhile isZ = dg B n := by
  rw [← dg_valD hB _ (dg_lt' hB n), valD_dg hB]
theorem valD_dropZ (B : Nat) (ds : List Nat) : valD B (ds.dropWhile isZ) = valD B ds := by
  induction ds with
  | nil => rfl
  | cons d r ih =>
    rw [List.dropWhile_cons]
    by_cases hd : isZ d = true
    · rw [if_pos hd, ih]
      have : d = 0 := by simpa [isZ] using hd
      subst this
      unfold valD; rw [List.foldl_cons, Nat.zero_mul]
    · rw [if_neg hd]
theorem valD_cons (B d : Nat) (r : List Nat) : valD B (d :: r) = d * B ^ r.length + valD B r := by
  have := valD_append B [d] r
  have e : valD B [d] = d := by unfold valD; simp
  rw [e] at this
  exact this
theorem valD_inj {B : Nat} (hB : 0 < B) : ∀ (a b : List Nat), a.length = b.length → (∀ d ∈ a, d < B) → (∀ d ∈ b, d < B) → valD B a = valD B b → a = b
  | [], [], _, _, _, _ => rfl
  | [], _ :: _, h, _, _, _ => nomatch h
  | _ :: _, [], h, _, _, _ => nomatch h
  | d :: r, e :: q, h, ha, hb, hv => by
    have hl : r.length = q.length := by simpa using h
    have hr : ∀ x ∈ r, x < B := fun x hx => ha x (List.mem_cons_of_mem _ hx)
    have hq : ∀ x ∈ q, x < B := fun x hx => hb x (List.mem_cons_of_mem _ hx)
    have h1 := valD_lt2 hB hr
    have h2 := valD_lt2 hB hq
    rw [valD_cons, valD_cons, hl] at hv
    rw [hl] at h1
    have hM : 0 < B ^ q.length := Nat.pow_pos hB
    have d1 : (d * B ^ q.length + valD B r) / B ^ q.length = d := by rw [Nat.mul_comm, Nat.mul_add_div hM, Nat.div_eq_of_lt h1]; omega
    have d2 : (e * B ^ q.length + valD B q) / B ^ q.length = e := by rw [Nat.mul_comm, Nat.mul_add_div hM, Nat.div_eq_of_lt h2]; omega
    have hde : d = e := by rw [← d1, ← d2, hv]
    subst hde
    have : r = q := valD_inj hB r q hl hr hq (by omega)
    rw [this]

-- the prime
theorem cop {B : Nat} (h : 1 ≤ B) (h2 : B < 59) : Nat.Coprime 4294705157 B := (by decide +kernel : ∀ B < 59, 1 ≤ B → Nat.Coprime 4294705157 B) B h2 h
theorem ord {B e : Nat} (h : 2 ≤ B) (h2 : B < 59) (he : 1 ≤ e) (he2 : e < 104) : B ^ e % 4294705157 ≠ 1 := (by decide +kernel : ∀ B < 59, 2 ≤ B → ∀ e < 104, 1 ≤ e → B ^ e % 4294705157 ≠ 1) B h2 h e he2 he

theorem window_core {B : Nat} (hB : 2 ≤ B) (hB2 : B ≤ 58) {pre a b suf : List Nat} (hl : a.length = b.length) (ha : ∀ d ∈ a, d < B) (hb : ∀ d ∈ b, d < B) (hne : a ≠ b) (hr : B ^ a.length < 4294705157)
    (hv : 4294705157 ∣ valD B (pre ++ (a ++ suf))) (hw : 4294705157 ∣ valD B (pre ++ (b ++ suf))) : False := by
  rw [valD_append, valD_append, List.length_append] at hv hw
  rw [← hl] at hw
  have ca := valD_lt2 (by omega) ha
  have cb := valD_lt2 (by omega) hb
  rw [← hl] at cb
  have hx : valD B a ≠ valD B b := fun q => hne (valD_inj (by omega) a b hl ha hb q)
  have hc : Nat.Coprime 4294705157 (B ^ suf.length) := Nat.Coprime.pow_right _ (cop (by omega) (by omega))
  generalize valD B pre * B ^ (a.length + suf.length) = X at hv hw
  generalize valD B suf = Y at hv hw
  generalize hM : B ^ suf.length = M at hv hw hc
  generalize B ^ a.length = N at *
  generalize valD B a = p at *
  generalize valD B b = q at *
  rcases Nat.lt_or_ge p q with h | h
  · have h1 : X + (q * M + Y) - (X + (p * M + Y)) = (q - p) * M := by
      rw [Nat.sub_mul]; have := Nat.mul_le_mul_right M (Nat.le_of_lt h); omega
    have h2 := Nat.dvd_sub hw hv
    rw [h1] at h2
    have h3 := Nat.Coprime.dvd_of_dvd_mul_right hc h2
    have := Nat.le_of_dvd (by omega) h3
    omega
  · have h1 : X + (p * M + Y) - (X + (q * M + Y)) = (p - q) * M := by
      rw [Nat.sub_mul]; have := Nat.mul_le_mul_right M h; omega
    have h2 := Nat.dvd_sub hv hw
    rw [h1] at h2
    have h3 := Nat.Coprime.dvd_of_dvd_mul_right hc h2
    have := Nat.le_of_dvd (by omega) h3
    omega

theorem swap_half {B : Nat} (hB : 2 ≤ B) (hB2 : B ≤ 58) {pre mid suf : List Nat} {a b : Nat} (ha : a < B) (hlt : b < a) (hm : mid.length + 1 < 104) :
    valD B (pre ++ (a :: (mid ++ (b :: suf)))) = valD B (pre ++ (b :: (mid ++ (a :: suf)))) + (a - b) * ((B ^ (mid.length + 1) - 1) * B ^ suf.length) := by
  have hM : 0 < B ^ (mid.length + 1) := Nat.pow_pos (by omega)
  rw [valD_append, valD_append, valD_cons, valD_cons, valD_append, valD_append, valD_cons, valD_cons]
  simp only [List.length_cons, List.length_append]
  have e : B ^ (mid.length + (suf.length + 1)) = B ^ (mid.length + 1) * B ^ suf.length := by rw [← Nat.pow_add]; congr 1; omega
  rw [e]
  generalize valD B pre * B ^ (mid.length + (suf.length + 1) + 1) = X
  generalize valD B mid * B ^ (suf.length + 1) = Y
  generalize valD B suf = Z
  generalize B ^ (mid.length + 1) = M at *
  generalize B ^ suf.length = S at *
  obtain ⟨M', rfl⟩ : ∃ M', M = M' + 1 := ⟨M - 1, by omega⟩
  obtain ⟨c, rfl⟩ : ∃ c, a = b + c := ⟨a - b, by omega⟩
  have e1 : b + c - b = c := by omega
  have e2 : M' + 1 - 1 = M' := by omega
  rw [e1, e2, Nat.add_mul b c, Nat.add_mul b c, Nat.add_mul M' 1, Nat.one_mul, Nat.mul_add, Nat.mul_add]
  omega
theorem swap_bad {B : Nat} (hB : 2 ≤ B) (hB2 : B ≤ 58) {mid suf : List Nat} {a b V W : Nat} (ha : a < B) (hlt : b < a) (hm : mid.length + 1 < 104) (h : W = V + (a - b) * ((B ^ (mid.length + 1) - 1) * B ^ suf.length)) (hv : 4294705157 ∣ V) (hw : 4294705157 ∣ W) : False := by
  have h2 : 4294705157 ∣ (a - b) * ((B ^ (mid.length + 1) - 1) * B ^ suf.length) := by
    have := Nat.dvd_sub hw hv
    rw [h] at this
    rwa [Nat.add_sub_cancel_left] at this
  have h3 := Nat.Coprime.dvd_of_dvd_mul_left (cop (B := a - b) (by omega) (by omega)) h2
  have h4 := Nat.Coprime.dvd_of_dvd_mul_right (Nat.Coprime.pow_right _ (cop (B := B) (by omega) (by omega))) h3
  have hM : 0 < B ^ (mid.length + 1) := Nat.pow_pos (by omega)
  have ho := ord hB (by omega) (e := mid.length + 1) (by omega) hm
  obtain ⟨q, hq⟩ := h4
  apply ho
  have : B ^ (mid.length + 1) = 1 + 4294705157 * q := by omega
  rw [this, Nat.add_mul_mod_self_left]
theorem swap_core {B : Nat} (hB : 2 ≤ B) (hB2 : B ≤ 58) {pre mid suf : List Nat} {a b : Nat} (ha : a < B) (hb : b < B) (hne : a ≠ b) (hm : mid.length + 1 < 104)
    (hv : 4294705157 ∣ valD B (pre ++ (a :: (mid ++ (b :: suf))))) (hw : 4294705157 ∣ valD B (pre ++ (b :: (mid ++ (a :: suf))))) : False := by
  rcases Nat.lt_or_ge b a with h | h
  · exact swap_bad hB hB2 ha h hm (swap_half (pre := pre) (suf := suf) hB hB2 ha h hm) hw hv
  · exact swap_bad hB hB2 hb (by omega : a < b) hm (swap_half (pre := pre) (suf := suf) hB hB2 hb (by omega : a < b) hm) hv hw
end Mine
end
section
-- part P11
set_option maxRecDepth 100000
open PySem PySem.W
namespace Mine
theorem value_nat : ∀ (ks : List Int), (∀ k ∈ ks, 0 ≤ k) → ∀ a : Nat, ks.foldl (fun a k => a * 256 + k) (a : Int) = (((ks.map Int.toNat).foldl (fun a d => a * 256 + d) a : Nat) : Int)
  | [], _, a => rfl
  | k :: r, h, a => by
    have hk := h k (List.mem_cons_self ..)
    have e : (a : Int) * 256 + k = ((a * 256 + k.toNat : Nat) : Int) := by omega
    rw [List.foldl_cons, List.map_cons, List.foldl_cons, e]
    exact value_nat r (fun x hx => h x (List.mem_cons_of_mem _ hx)) _
theorem bvN_val {ks : List Int} (h : ∀ k ∈ ks, 0 ≤ k) : bvN ks = valD 256 (ks.map Int.toNat) := by
  unfold bvN KFB.value valD
  have := value_nat ks h 0
  rw [show ((0 : Nat) : Int) = 0 from rfl] at this
  rw [this, Int.toNat_natCast]
theorem bvN_append {x y : List Int} (hx : ∀ k ∈ x, 0 ≤ k) (hy : ∀ k ∈ y, 0 ≤ k) : bvN (x ++ y) = bvN x * 256 ^ y.length + bvN y := by
  rw [bvN_val hx, bvN_val hy, bvN_val (by intro k hk; rcases List.mem_append.1 hk with h | h; exact hx k h; exact hy k h), List.map_append, valD_append, List.length_map]
theorem bv4 {t : Int} (h0 : 0 ≤ t) (h1 : t < 4294705157) : bvN [t / 256 / 256 / 256 % 256, t / 256 / 256 % 256, t / 256 % 256, t % 256] = t.toNat := by
  unfold bvN KFB.value
  simp only [List.foldl_cons, List.foldl_nil]
  omega
theorem hashL_ge (l : List Int) : ∀ k ∈ hashL l, 0 ≤ k := by
  intro k hk
  unfold hashL at hk
  simp only [List.mem_cons, List.not_mem_nil, or_false] at hk
  omega
theorem hashL_in (l : List Int) : ∀ k ∈ hashL l, 0 ≤ k ∧ k < 256 := by
  intro k hk
  unfold hashL at hk
  simp only [List.mem_cons, List.not_mem_nil, or_false] at hk
  omega
theorem bvN_hash (l : List Int) : bvN (hashL l) = bvN l * 131067 % 4294705157 := by
  have h0 := Int.fmod_nonneg_of_pos (((bvN l : Nat) : Int) * 131067) (show (0 : Int) < 4294705157 by decide)
  have h1 := Int.fmod_lt_of_pos (((bvN l : Nat) : Int) * 131067) (show (0 : Int) < 4294705157 by decide)
  unfold hashL
  rw [bv4 h0 h1, Int.fmod_eq_emod_of_nonneg _ (by decide)]
  omega
theorem sum_dvd {l : List Int} (h : ∀ k ∈ l, 0 ≤ k) : 4294705157 ∣ bvN (l ++ hashL (hashL l)) := by
  rw [bvN_append h (hashL_ge _), hashL_len, bvN_hash, bvN_hash]
  generalize bvN l = o
  have e : (256 : Nat) ^ 4 = 4294967296 := by decide
  rw [e]
  omega
theorem dw_congr {α : Type} {p q : α → Bool} : ∀ {l : List α}, (∀ x ∈ l, p x = q x) → l.dropWhile p = l.dropWhile q
  | [], _ => rfl
  | x :: r, h => by
    rw [List.dropWhile_cons, List.dropWhile_cons, h x (List.mem_cons_self ..), dw_congr fun y hy => h y (List.mem_cons_of_mem _ hy)]
theorem dw_dw {α : Type} (p : α → Bool) : ∀ l : List α, (l.dropWhile p).dropWhile p = l.dropWhile p
  | [] => rfl
  | x :: r => by
    rw [List.dropWhile_cons]
    by_cases h : p x = true
    · rw [if_pos h, dw_dw p r]
    · rw [if_neg h, List.dropWhile_cons, if_neg h]
theorem rep_dw : ∀ xs : List Int, List.replicate (xs.length - (xs.dropWhile (fun x => x == 0)).length) 0 ++ xs.dropWhile (fun x => x == 0) = xs
  | [] => rfl
  | x :: r => by
    have ih := rep_dw r
    have hl := dropWhile_len (fun x => x == 0) r
    rw [List.dropWhile_cons]
    by_cases h : (x == 0) = true
    · rw [if_pos h]
      have hx : x = 0 := by simpa using h
      have e : (x :: r).length - (r.dropWhile (fun x => x == 0)).length = (r.length - (r.dropWhile (fun x => x == 0)).length) + 1 := by rw [List.length_cons]; omega
      rw [e, List.replicate_succ, List.cons_append, ih, hx]
    · rw [if_neg h]; simp
section
variable {as : List Int} (hnd : as.Nodup)
theorem sg_eq {d : Nat} (h : d < as.length) : sg as d = as[d] := by unfold sg; rw [List.getD_eq_getElem?_getD, List.getElem?_eq_getElem h]; rfl
theorem sg_mem {d : Nat} (h : d < as.length) : sg as d ∈ as := by rw [sg_eq h]; exact List.getElem_mem h
include hnd in
theorem idx_sg {d : Nat} (h : d < as.length) : as.idxOf (sg as d) = d := by rw [sg_eq h]; exact hnd.idxOf_getElem d h
theorem sg_idx {k : Int} (h : k ∈ as) : sg as (as.idxOf k) = k := by
  rw [sg_eq (List.idxOf_lt_length_of_mem h)]; exact List.getElem_idxOf _
include hnd in
theorem sg_zero {d : Nat} (h : d < as.length) (h0 : 0 < as.length) : (sg as d == sg as 0) = isZ d := by
  unfold isZ
  by_cases e : d = 0
  · subst e; simp
  · have : ¬ sg as d = sg as 0 := fun q => e (by rw [← idx_sg hnd h, q, idx_sg hnd h0])
    rw [beq_eq_false_iff_ne.2 this, beq_eq_false_iff_ne.2 e]
include hnd in
theorem valS_map {ds : List Nat} (h : ∀ d ∈ ds, d < as.length) : valS as (ds.map (sg as)) = valD as.length ds := by
  unfold valS
  rw [List.map_map]
  congr 1
  exact (List.map_congr_left fun d hd => idx_sg hnd (h d hd)).trans (List.map_id _)
include hnd in
theorem enc_dw {z n : Nat} (hs : 2 ≤ as.length) : (List.replicate z (sg as 0) ++ encL as n).dropWhile (fun x => x == sg as 0) = encL as n := by
  rw [List.dropWhile_append, List.dropWhile_replicate]
  simp only [beq_self_eq_true, if_true, List.isEmpty_nil]
  unfold encL
  rw [List.dropWhile_map, dw_congr (q := isZ) fun d hd => ?_, dg_head hs]
  exact sg_zero hnd (dg_lt' hs n d hd) (by omega)
theorem valD_rep (B z : Nat) (l : List Nat) : valD B (List.replicate z 0 ++ l) = valD B l := by
  rw [valD_append]
  have : valD B (List.replicate z 0) = 0 := by
    apply dropZ_nil
    rw [List.dropWhile_replicate]; rfl
  rw [this]; omega
theorem toNat_dw {xs : List Int} (h : ∀ k ∈ xs, 0 ≤ k) : (xs.dropWhile (fun x => x == 0)).map Int.toNat = (xs.map Int.toNat).dropWhile isZ := by
  rw [List.dropWhile_map]
  congr 1
  refine dw_congr fun x hx => ?_
  have := h x hx
  show (x == 0) = (x.toNat == 0)
  by_cases e : x = 0
  · subst e; rfl
  · rw [beq_eq_false_iff_ne.2 e, beq_eq_false_iff_ne.2 (by omega : x.toNat ≠ 0)]
include hnd in
theorem dec_enc {xs : List Int} (hs : 2 ≤ as.length) (hx : ∀ k ∈ xs, 0 ≤ k ∧ k < 256) : decodeL as (encodeL as xs) = xs := by
  have hx0 : ∀ k ∈ xs.dropWhile (fun x => x == 0), 0 ≤ k ∧ k < 256 := fun k hk => hx k ((List.dropWhile_suffix _).subset hk)
  unfold encodeL decodeL
  rw [enc_dw hnd hs, List.length_append, List.length_replicate, Nat.add_sub_cancel]
  have hv : valS as (encL as (bvN (xs.dropWhile (fun x => x == 0)))) = bvN (xs.dropWhile (fun x => x == 0)) := by
    unfold encL
    rw [valS_map hnd (dg_lt' hs _), valD_dg hs]
  rw [hv]
  have hd : digI 256 (bvN (xs.dropWhile (fun x => x == 0))) = xs.dropWhile (fun x => x == 0) := by
    rw [bvN_val fun k hk => (hx0 k hk).1]
    unfold digI
    rw [dg_valD (by decide) _ (by
      intro d hd
      obtain ⟨k, hk, rfl⟩ := List.mem_map.1 hd
      have := hx0 k hk; omega)]
    rw [toNat_dw fun k hk => (hx k hk).1, dw_dw, ← toNat_dw fun k hk => (hx k hk).1, List.map_map]
    refine (List.map_congr_left fun k hk => ?_).trans (List.map_id _)
    exact Int.toNat_of_nonneg (hx0 k hk).1
  rw [hd]
  exact rep_dw xs
include hnd in
theorem valS_enc {xs : List Int} (hs : 2 ≤ as.length) (hx : ∀ k ∈ xs, 0 ≤ k ∧ k < 256) : valS as (encodeL as xs) = bvN xs := by
  unfold encodeL encL
  have e : ∀ z, List.replicate z (sg as 0) = (List.replicate z 0).map (sg as) := fun z => by rw [List.map_replicate]
  rw [e, ← List.map_append, valS_map hnd, valD_rep, valD_dg hs]
  · rw [bvN_val fun k hk => (hx k ((List.dropWhile_suffix _).subset hk)).1, toNat_dw fun k hk => (hx k hk).1, valD_dropZ, ← bvN_val fun k hk => (hx k hk).1]
  · intro d hd
    rcases List.mem_append.1 hd with h | h
    · rw [(List.mem_replicate.1 h).2]; omega
    · exact dg_lt' hs _ d h
theorem enc_mem {xs : List Int} (hs : 2 ≤ as.length) : ∀ k ∈ encodeL as xs, k ∈ as := by
  intro k hk
  unfold encodeL encL at hk
  rcases List.mem_append.1 hk with h | h
  · rw [(List.mem_replicate.1 h).2]; exact sg_mem (by omega)
  · obtain ⟨d, hd, rfl⟩ := List.mem_map.1 h
    exact sg_mem (dg_lt' hs _ d hd)
theorem enc_len {xs : List Int} (hs : 2 ≤ as.length) (hx : ∀ k ∈ xs, 0 ≤ k ∧ k < 256) : (encodeL as xs).length ≤ 8 * xs.length := by
  unfold encodeL encL
  rw [List.length_append, List.length_replicate, List.length_map]
  have hl := dropWhile_len (fun x => x == 0) xs
  have hv : bvN (xs.dropWhile (fun x => x == 0)) < 2 ^ (8 * (xs.dropWhile (fun x => x == 0)).length) := by
    rw [bvN_val fun k hk => (hx k ((List.dropWhile_suffix _).subset hk)).1, Nat.pow_mul]
    have := valD_lt2 (B := 256) (by decide) (ds := (xs.dropWhile (fun x => x == 0)).map Int.toNat) (by
      intro d hd
      obtain ⟨k, hk, rfl⟩ := List.mem_map.1 hd
      have := hx k ((List.dropWhile_suffix _).subset hk); omega)
    rw [List.length_map] at this
    exact this
  have := dg_length_le hs _ _ hv
  omega
theorem text_facts {os : List Int} (hs : 2 ≤ as.length) (hs2 : as.length ≤ 58) (hnd : as.Nodup) (h33 : ∀ k ∈ as, 33 ≤ k) (hos : PySem.W.KBa.In os) (hol : os.length ≤ 8) : Txt as os (encodeL as (os ++ hashL (hashL os))) := by
  have hx : ∀ k ∈ os ++ hashL (hashL os), 0 ≤ k ∧ k < 256 := by
    intro k hk
    rcases List.mem_append.1 hk with h | h
    · exact hos k h
    · exact hashL_in _ k h
  have hm := enc_mem (as := as) (xs := os ++ hashL (hashL os)) hs
  have hd := dec_enc hnd hs hx
  have hl := enc_len (as := as) hs hx
  rw [List.length_append, hashL_len] at hl
  refine ⟨?_, by omega, hm, fun k hk => h33 k (hm k hk), hd, ?_⟩
  · have := decodeL_len hm hs hs2
    rw [hd, List.length_append, hashL_len] at this
    omega
  · rw [valS_enc hnd hs hx]
    exact sum_dvd fun k hk => (hos k hk).1
include hnd in
theorem valS_dw {ks : List Int} (h0 : 0 < as.length) (h : ∀ k ∈ ks, k ∈ as) : valS as (ks.dropWhile (fun x => x == sg as 0)) = valS as ks := by
  unfold valS
  have e : (ks.dropWhile (fun x => x == sg as 0)).map (fun k => as.idxOf k) = (ks.map fun k => as.idxOf k).dropWhile isZ := by
    rw [List.dropWhile_map]
    congr 1
    refine dw_congr fun k hk => ?_
    have := sg_zero hnd (List.idxOf_lt_length_of_mem (h k hk)) h0
    rw [sg_idx (h k hk)] at this
    exact this
  rw [e, valD_dropZ]
include hnd in
theorem sound_dvd {ks : List Int} (h0 : 0 < as.length) (h : ∀ k ∈ ks, k ∈ as) (hS : Sound (decodeL as ks)) : 4294705157 ∣ valS as ks := by
  have hge : ∀ k ∈ decodeL as ks, 0 ≤ k := by
    intro k hk
    unfold decodeL at hk
    rcases List.mem_append.1 hk with q | q
    · rw [(List.mem_replicate.1 q).2]; omega
    · exact (digI_in _ k q).1
  have hv : bvN (decodeL as ks) = valS as ks := by
    rw [bvN_val hge]
    unfold decodeL digI
    rw [List.map_append, List.map_replicate, List.map_map]
    have e : (dg 256 (valS as (ks.dropWhile (fun x => x == sg as 0)))).map (Int.toNat ∘ fun (d : Nat) => (d : Int)) = dg 256 (valS as (ks.dropWhile (fun x => x == sg as 0))) :=
      (List.map_congr_left fun d _ => Int.toNat_natCast d).trans (List.map_id _)
    rw [e]
    show valD 256 (List.replicate _ 0 ++ _) = _
    rw [valD_rep, valD_dg (by decide), valS_dw hnd h0 h]
  unfold Sound at hS
  have e : decodeL as ks = (decodeL as ks).take ((decodeL as ks).length - 4) ++ hashL (hashL ((decodeL as ks).take ((decodeL as ks).length - 4))) := by
    rw [← hS, List.take_append_drop]
  rw [← hv, e]
  exact sum_dvd fun k hk => hge k (List.mem_of_mem_take hk)
end
end Mine
end
section
-- part B8
set_option maxRecDepth 100000
open PySem PySem.W PyProof.Rows PySem.Spec PySem.Calls
namespace Mine
noncomputable section
section
variable {prog : Program} {w : World} {A : Around} {E : Value → Shared → Prop} {s : Shared} {h₀ : Heap} {L : Addr} {m : Str → Option Value} {news : List (Addr × Obj)} {env : Env}
def WorthSrc (prog : Program) (w : World) (A : Around) (h₀ : Heap) (L : Addr) (m : Str → Option Value) (wn y : Str) (cl : List (Str × Addr)) (Q : Flow → Shared → Prop) (xv : Value) (s₁ : Shared) : Prop :=
  ∃ (bs : Array UInt8) (t : Tok) (news : List (Addr × Obj)) (as tx : List Int) (c D : Addr) (o od : Obj), xv = .bytes bs t ∧ A.handled = none ∧ Fr h₀ L s₁.heap m ∧ News h₀ L s₁.heap news ∧ KBw.bInts bs = tx ∧ tx.length ≤ 1000 ∧ (∀ k ∈ tx, k ∈ as) ∧
    cl.lookup wn = some c ∧ (c, o) ∈ news ∧ o.data = .cell (some (.ref D)) ∧ (D, od) ∈ news ∧ MapIs prog w as od ∧
    (∀ D h tk ys, Fr h₀ L h (fun z => if z = y then some (.ref D) else m z) → News h₀ L h ((D, LCg.lst ys) :: news) → LCg.Off1 D news → IntsAre ys (tx.map fun k => ((as.idxOf k : Nat) : Int)) → Q .next { s₁ with heap := h, toks := tk })
theorem bytes_st {I : Addr} {b : Array UInt8} {t : Tok} : ∀ i (h h' : Heap) (o : Obj) (nw : List (Addr × Obj)), KBw.IsBytesIter h I b t i → h.get? I = some o → h'.get? I = some o → (∀ b o, h₀.get? b = some o → h'.get? b = some o) → News h₀ L h' nw → True → KBw.IsBytesIter h' I b t i :=
  fun i h h' o nw st e e' _ _ _ => by
    obtain ⟨o', q, r⟩ := st
    rw [e] at q; cases q
    exact ⟨o, e', r⟩
theorem worths_comp {iter : Expr} {wn x y : Str} {p1 p2 p3 px py : Pos} {scope : Scope} {cl : List (Str × Addr)} {pos spos : Pos} {Q : Flow → Shared → Prop} (_F₀ : Fr h₀ L s.heap m) (hLe : env.locals = L)
    (hsw : swapsWith (.ListComp (.Subscript (.Name wn p1) (.Name x p2) p3) [⟨.Name x px, iter, [], 0⟩] scope pos) (some (.Name y py)) spos.line env = pure true)
    (hclos : closureFor scope env = pure cl) (hcell : ∀ z ∈ scope.names, z.2 ≠ .cell) (hkind : scope.kind = .function)
    (hnames : ∀ z ∈ scope.names, z.2 = .local → scope.names.lookup z.1 = some .local) (hx : scope.names.lookup x = some .local)
    (hy : env.kindOf y = some .local) (hp : (env.scope.kind == .class || (env.scope.kind == .module && env.locals != env.globals)) = false)
    (hkw : ∀ C, (compEnvC scope cl C env).kindOf wn = some .cell) (hkx : ∀ C, (compEnvC scope cl C env).kindOf x = some .local)
    (hdx : (x == ("__debug__" : Str)) = false) (hdw : (wn == ("__debug__" : Str)) = false)
    (h : wpAny (model prog w) A (eval iter env) (WorthSrc prog w A h₀ L m wn y cl Q) E s)
    (hs : ∀ x, foldedSetIterable iter env x = pure x := by intro _; rfl) :
    wpAny (model prog w) A (exec (.Assign [.Name y py] (.ListComp (.Subscript (.Name wn p1) (.Name x p2) p3) [⟨.Name x px, iter, [], 0⟩] scope pos) spos) env) Q E s := by
  subst hLe
  rw [exec_Assign_Name_used _ _ _ _ hsw]
  refine wpAny_bind (wpAny_standAt (wpAny_bind ?_))
  show wpAny _ A (do let _ ← comprehension (.ListComp (.Subscript (.Name wn p1) (.Name x p2) p3) [⟨.Name x px, iter, [], 0⟩] scope pos) scope env _ (newList []) false (eval iter env) (some (assign (.Name y py) env))) _ _ s
  refine wpAny_bind (wpAny_mono (wpAny_comprehension_free (use := some (assign (.Name y py) env)) (Q := fun _ s' => Q .next s') rfl hs hclos hkind hnames
    (wpAny_mono h (fun xv s₁ h₁ => ?_) fun _ _ e => e)) (fun _ s' hq => wpAny_pure (wpAny_pure hq)) fun _ _ e => e)
  obtain ⟨bs, t, news, as, tx, c, M, o, od, rfl, hh, F, N, hb, hl, hin, hc, hm, hd, hM, hMap, fin⟩ := h₁
  refine KBw.pyIter_bytes ?_
  have hsize : bs.size = tx.length := by rw [← hb, KBw.ints_length]
  have rest : ∀ s₂ : Shared, LCg.CompRest prog w A h₀ env.locals m env (.Subscript (.Name wn p1) (.Name x p2) p3) x scope cl s₂ (fun _ => True) (fun i v => ∃ c u, bs[i]? = some c ∧ v = .int (c.toNat : Int) u)
      (fun ys news' => news' = news ∧ IntsAre ys (tx.map fun k => ((as.idxOf k : Nat) : Int))) bs.size 0 [] news := by
    intro s₂
    refine kcf_rest (ks := tx) (fun k => ((as.idxOf k : Nat) : Int)) hsize.symm (fun i v _ hv => ?_) (fun k t' I oI C oC D m₂ ys h tk E' hk hC hx' F' N' off ne mk => ?_) ?_
    · obtain ⟨c', u, hc', rfl⟩ := hv
      exact ⟨_, u, by rw [← hb]; exact KBw.ints_get hc', rfl⟩
    · have up : ∀ p ∈ news, p ∈ (I, oI) :: (C, oC) :: (D, LCg.lst ys) :: news := fun p hp => List.mem_cons_of_mem _ (List.mem_cons_of_mem _ (List.mem_cons_of_mem _ hp))
      have eC : h.get? C = some oC := (N' (C, oC) (List.mem_cons_of_mem _ List.mem_cons_self)).1
      refine Subscript_ ?_
      refine ldCellK (c := c) (v := .ref M) hc ⟨o, (N' _ (up _ hm)).1, hd⟩ ?_ hkind (hkw C) hdw
      refine ldVarK (m := m₂) (v := .int k t') (hC.ns eC) hx' ?_ hkind (hkx C) hdx
      refine map_in N' (up _ hM) hMap (hin k hk) (fun t'' k' => ?_) (by with_unfolding_all rfl) (by intro _; with_unfolding_all rfl)
      exact LCg.CompEnd.intro F' N' news (fun _ hp => hp) off trivial ⟨rfl, _, rfl⟩
    · show ∀ ys, _ → _
      exact fun ys hy => ⟨rfl, hy⟩
  refine LCg.block_U (KBw.walks hh _ bs t) (by rw [hsize, sizeLine_eq]; omega) (fun i h st => by obtain ⟨o, e, _⟩ := st; exact ⟨o, e⟩) bytes_st hcell hkind hx ⟨_, Heap.get?_push_size _ rfl, rfl, rfl⟩ (fun b hb => ?_)
      (F.keeps fun _ _ e => Heap.get?_push_of_some _ e) (N.grown fun _ _ e => Heap.get?_push_of_some _ e) (Nat.ne_of_lt F.ns.lt) (next_is_new F) (fun p hp => Nat.ne_of_lt (Heap.lt_size (N p hp).1)) trivial (rest _) ?_
  · rw [List.mem_singleton.mp hb]
    show s₁.heap.objs.size < (s₁.heap.push _).objs.size
    rw [Heap.size_push]; exact Nat.lt_succ_self _
  · intro D C h' tk m' ys news' F' N' o1 hn hC₀ hD₀ hCL hDL hCD offC fin'
    obtain ⟨rfl, hys⟩ := fin'
    show wpAny _ A (assign (.Name y py) env (.ref D)) _ _ _
    refine wpAny_assign_Name (wpAny_storeName_local hy F'.ns (fun h₂ hn₂ hs₂ => ?_) hp)
    have hL₀ : h₀.get? env.locals = none := Heap.get?_none_of_le F'.above
    have F₂ : Fr h₀ env.locals h₂ (fun z => if z = y then some (.ref D) else m z) := ⟨hn₂, fun b o e => hs₂.extBut b o (fun q => by rw [q, hL₀] at e; cases e) (F'.keep b o e), F'.above⟩
    refine ⟨m', hn.sameBut hs₂ hCL, fun h'' hs'' => fin D h'' _ ys (F₂.change hs'' hCL hC₀) (fun p hp => ?_) o1 hys⟩
    have z : h₂.get? p.1 = some p.2 := hs₂.extBut _ _ (N' p hp).2.1 (N' p hp).1
    refine ⟨hs''.extBut _ _ ?_ z, (N' p hp).2⟩
    rcases List.mem_cons.mp hp with rfl | hp
    · exact Ne.symm hCD
    · exact offC p hp
theorem worth_src {wn y : Str} {cl : List (Str × Addr)} {Q : Flow → Shared → Prop} {s₁ : Shared} {bs : Array UInt8} {t : Tok} {as tx : List Int} {c D : Addr} {o od : Obj} (hh : A.handled = none) (F : Fr h₀ L s₁.heap m) (N : News h₀ L s₁.heap news) (hb : KBw.bInts bs = tx) (hl : tx.length ≤ 1000) (hin : ∀ k ∈ tx, k ∈ as)
    (hc : cl.lookup wn = some c) (hm : (c, o) ∈ news) (hd : o.data = .cell (some (.ref D))) (hM : (D, od) ∈ news) (hMap : MapIs prog w as od)
    (fin : ∀ D h tk ys, Fr h₀ L h (fun z => if z = y then some (.ref D) else m z) → News h₀ L h ((D, LCg.lst ys) :: news) → LCg.Off1 D news → IntsAre ys (tx.map fun k => ((as.idxOf k : Nat) : Int)) → Q .next { s₁ with heap := h, toks := tk }) :
    WorthSrc prog w A h₀ L m wn y cl Q (.bytes bs t) s₁ := ⟨bs, t, news, as, tx, c, D, o, od, rfl, hh, F, N, hb, hl, hin, hc, hm, hd, hM, hMap, fin⟩
end
end
end Mine
end
section
-- part P12
open PySem PySem.W
namespace Mine
def iw (as : List Int) (k : Int) : Int := ((as.idxOf k : Nat) : Int)
/-- the worths while the window is turned -/
structure Win (as tx : List Int) (p r : Int) (us : List Int) : Prop where
  len : us.length = tx.length
  rng : ∀ u ∈ us, 0 ≤ u ∧ u < (as.length : Int)
  out : ∀ i : Nat, ((i : Int) < p ∨ p + r ≤ (i : Int)) → us[i]? = (tx.map (iw as))[i]?
  ne : us[p.toNat]? ≠ (tx.map (iw as))[p.toNat]?
section
variable {as tx us : List Int} {p r : Int}
theorem turn_ne {n : Nat} {d t : Int} (hn : 2 ≤ n) (h0 : 0 ≤ d) (h1 : d < n) : 0 ≤ (d + 1 + t.fmod ((n : Int) - 1)).fmod n ∧ (d + 1 + t.fmod ((n : Int) - 1)).fmod n < n ∧ (d + 1 + t.fmod ((n : Int) - 1)).fmod n ≠ d := by
  have a : 0 ≤ t.fmod ((n : Int) - 1) := Int.fmod_nonneg_of_pos _ (by omega)
  have b : t.fmod ((n : Int) - 1) < (n : Int) - 1 := Int.fmod_lt_of_pos _ (by omega)
  generalize t.fmod ((n : Int) - 1) = e at *
  rw [Int.fmod_eq_emod_of_nonneg _ (by omega)]
  rcases Int.lt_or_le (d + 1 + e) n with h | h
  · rw [Int.emod_eq_of_lt (by omega) h]; omega
  · have : (d + 1 + e) % n = d + 1 + e - n := by
      rw [← Int.sub_emod_right, Int.emod_eq_of_lt (by omega) (by omega)]
    omega
theorem iw_rng {k : Int} (h : k ∈ as) : 0 ≤ iw as k ∧ iw as k < (as.length : Int) := by
  unfold iw
  have := List.idxOf_lt_length_of_mem h
  omega
theorem iw_all (h : ∀ k ∈ tx, k ∈ as) : ∀ u ∈ tx.map (iw as), 0 ≤ u ∧ u < (as.length : Int) := by
  intro u hu
  obtain ⟨k, hk, rfl⟩ := List.mem_map.1 hu
  exact iw_rng (h k hk)
theorem win_start {v : Int} (hp : 0 ≤ p) (hp2 : p < tx.length) (hr : 0 < r) (h : ∀ k ∈ tx, k ∈ as) (h0 : 0 ≤ v) (h1 : v < as.length) (hv : v ≠ (tx.map (iw as)).getD p.toNat 0) :
    Win as tx p r ((tx.map (iw as)).set p.toNat v) := by
  have hl : p.toNat < (tx.map (iw as)).length := by rw [List.length_map]; omega
  refine ⟨by rw [List.length_set, List.length_map], fun u hu => ?_, fun i hi => ?_, ?_⟩
  · rcases List.mem_or_eq_of_mem_set hu with q | q
    · exact iw_all h u q
    · subst q; exact ⟨h0, h1⟩
  · rw [List.getElem?_set_ne (by omega)]
  · rw [List.getElem?_set_self hl]
    intro q
    rw [List.getD_eq_getElem?_getD, ← q] at hv
    exact hv rfl
theorem win_store {v : Int} {i : Nat} (H : Win as tx p r us) (hp : 0 ≤ p) (hi : p < i) (hi2 : (i : Int) < p + r) (h0 : 0 ≤ v) (h1 : v < as.length) : Win as tx p r (us.set i v) := by
  refine ⟨by rw [List.length_set]; exact H.len, fun u hu => ?_, fun j hj => ?_, ?_⟩
  · rcases List.mem_or_eq_of_mem_set hu with q | q
    · exact H.rng u q
    · subst q; exact ⟨h0, h1⟩
  · rw [List.getElem?_set_ne (by omega)]; exact H.out j hj
  · rw [List.getElem?_set_ne (by omega)]; exact H.ne
theorem sg_iw (hnd : as.Nodup) {k : Int} (h : k ∈ as) : sg as (iw as k).toNat = k := by unfold iw; rw [Int.toNat_natCast]; exact sg_idx h
theorem map_nat (h : ∀ u ∈ us, 0 ≤ u ∧ u < (as.length : Int)) : ∀ d ∈ us.map Int.toNat, d < as.length := by
  intro d hd
  obtain ⟨u, hu, rfl⟩ := List.mem_map.1 hd
  have := h u hu
  omega
theorem vals (hnd : as.Nodup) (h : ∀ u ∈ us, 0 ≤ u ∧ u < (as.length : Int)) : valS as (us.map fun u => as.getD u.toNat 0) = valD as.length (us.map Int.toNat) := by
  have := valS_map (as := as) hnd (map_nat h)
  rw [List.map_map] at this
  exact this
theorem mem_map (h : ∀ u ∈ us, 0 ≤ u ∧ u < (as.length : Int)) : ∀ k ∈ us.map (fun u => as.getD u.toNat 0), k ∈ as := by
  intro k hk
  obtain ⟨u, hu, rfl⟩ := List.mem_map.1 hk
  exact sg_mem (d := u.toNat) (by have := h u hu; omega)
theorem three {α : Type} (l : List α) {p e : Nat} (h : p ≤ e) : l = l.take p ++ ((l.drop p).take (e - p) ++ l.drop e) := by
  have : l.drop e = (l.drop p).drop (e - p) := by rw [List.drop_drop]; congr 1; omega
  rw [this, List.take_append_drop, List.take_append_drop]
theorem window_law {n mo : Nat} {os : List Int} (hX : Txt as os tx) (hn : as.length = n) (hnd : as.Nodup) (hs : 2 ≤ n) (hs2 : n ≤ 58) (hmo : n ^ mo < 4294705157) (hp : 0 ≤ p) (hp2 : p < tx.length) (hr : 0 < r) (hr2 : r ≤ mo) (H : Win as tx p r us) :
    ¬ Sound (decodeL as (us.map fun u => as.getD u.toNat 0)) := by
  intro hS
  subst hn
  have hw := sound_dvd hnd (by omega) (mem_map H.rng) hS
  rw [vals hnd H.rng] at hw
  have hv := hX.val
  unfold valS at hv
  have rng0 := map_nat (iw_all hX.mem)
  have e0 : tx.map (fun k => as.idxOf k) = (tx.map (iw as)).map Int.toNat := by
    rw [List.map_map]; refine List.map_congr_left fun k _ => ?_
    show _ = (iw as k).toNat
    unfold iw; rw [Int.toNat_natCast]
  rw [e0] at hv
  have hlen := H.len
  have hout := H.out
  have hne := H.ne
  have rng1 := map_nat H.rng
  have inj : us[p.toNat]?.map Int.toNat ≠ (tx.map (iw as))[p.toNat]?.map Int.toNat := by
    intro q
    apply hne
    have l1 : p.toNat < us.length := by omega
    have l0 : p.toNat < (tx.map (iw as)).length := by rw [List.length_map]; omega
    rw [List.getElem?_eq_getElem l1, List.getElem?_eq_getElem l0] at q ⊢
    have := H.rng _ (List.getElem_mem l1)
    have := iw_all hX.mem _ (List.getElem_mem l0)
    simp only [Option.map_some, Option.some.injEq] at q ⊢
    omega
  have hl0 : ((tx.map (iw as)).map Int.toNat).length = tx.length := by simp
  have hl1 : (us.map Int.toNat).length = tx.length := by simp [hlen]
  have ho : ∀ i : Nat, ((i : Int) < p ∨ p + r ≤ (i : Int)) → (us.map Int.toNat)[i]? = ((tx.map (iw as)).map Int.toNat)[i]? := fun i hi => by
    rw [List.getElem?_map, List.getElem?_map (l := tx.map (iw as)), hout i hi]
  have hne' : (us.map Int.toNat)[p.toNat]? ≠ ((tx.map (iw as)).map Int.toNat)[p.toNat]? := by
    rw [List.getElem?_map, List.getElem?_map (l := tx.map (iw as))]; exact inj
  generalize (tx.map (iw as)).map Int.toNat = d0 at *
  generalize us.map Int.toNat = d1 at *
  have hpe : p.toNat ≤ p.toNat + r.toNat := by omega
  rw [three d0 hpe] at hv
  rw [three d1 hpe] at hw
  have t1 : d1.take p.toNat = d0.take p.toNat := by
    refine List.ext_getElem? fun i => ?_
    rw [List.getElem?_take, List.getElem?_take]
    split
    · exact ho i (by omega)
    · rfl
  have t2 : d1.drop (p.toNat + r.toNat) = d0.drop (p.toNat + r.toNat) := by
    refine List.ext_getElem? fun i => ?_
    rw [List.getElem?_drop, List.getElem?_drop]
    exact ho _ (by omega)
  rw [t1, t2] at hw
  refine window_core hs hs2 ?_ ?_ ?_ ?_ ?_ hv hw
  · simp only [List.length_take, List.length_drop]; omega
  · exact fun d hd => rng0 d (List.mem_of_mem_drop (List.mem_of_mem_take hd))
  · exact fun d hd => rng1 d (List.mem_of_mem_drop (List.mem_of_mem_take hd))
  · intro q
    apply hne'
    have q' := congrArg (fun l => l[0]?) q
    simp only [List.getElem?_take, List.getElem?_drop] at q'
    rw [if_pos (by omega), if_pos (by omega)] at q'
    exact q'.symm
  · refine Nat.lt_of_le_of_lt (Nat.pow_le_pow_right (by omega) ?_) hmo
    rw [List.length_take]
    omega
theorem win_first {n : Nat} {t : Int} (hX : ∀ k ∈ tx, k ∈ as) (hn : as.length = n) (hn2 : 2 ≤ n) (hp : 0 ≤ p) (hp2 : p < tx.length) (hr : 1 ≤ r) :
    Win as tx p r ((tx.map fun k => ((as.idxOf k : Nat) : Int)).set p.toNat (((tx.map fun k => ((as.idxOf k : Nat) : Int)).getD p.toNat 0 + 1 + t.fmod ((n : Int) - 1)).fmod (n : Int))) := by
  subst hn
  have hl : p.toNat < (tx.map (iw as)).length := by rw [List.length_map]; omega
  have hd : 0 ≤ (tx.map (iw as)).getD p.toNat 0 ∧ (tx.map (iw as)).getD p.toNat 0 < (as.length : Int) := by
    rw [List.getD_eq_getElem?_getD, List.getElem?_eq_getElem hl]
    exact iw_all hX _ (List.getElem_mem hl)
  have h := turn_ne (t := t) hn2 hd.1 hd.2
  exact win_start hp hp2 hr hX h.1 h.2.1 h.2.2
theorem win_idx {len k pl re : Int} {j : Nat} (e : k = pl + 1 + (j : Int)) (h : j < ((if len < pl + re then len else pl + re) - (pl + 1)).toNat) : pl < k ∧ k < len ∧ k < pl + re := by
  split at h <;> omega
theorem win_turn {n : Nat} {e k : Int} (H : Win as tx p r us) (hp : 0 ≤ p ∧ p < tx.length) (hk : p < k ∧ k < tx.length ∧ k < p + r) (hn : as.length = n) (hn2 : 2 ≤ n) : Win as tx p r (us.set k.toNat (e.fmod (n : Int))) := by
  subst hn
  exact win_store H hp.1 (by omega) (by omega) (Int.fmod_nonneg_of_pos _ (by omega)) (Int.fmod_lt_of_pos _ (by omega))
end
end Mine
end
section
-- part P13
set_option maxRecDepth 100000
open PySem PySem.W PyProof.Rows PySem.Calls
namespace Mine
theorem ints_in {al : Array UInt8} {as : List Int} (h : KBw.bInts al = as) : ∀ k ∈ as, 0 ≤ k ∧ k < 256 := by
  intro k hk
  subst h
  obtain ⟨c, _, rfl⟩ := List.mem_map.1 hk
  exact ⟨Int.natCast_nonneg _, by have := c.toNat_lt; omega⟩
section
variable {prog : Program} {w : World} {A : Around} {E : Value → Shared → Prop} {s : Shared}
theorem win_item {value slice : Expr} {as tx us : List Int} {p r i : Int} {b : Array UInt8} {t ui : Tok} {Q : Value → Shared → Prop} (hm : i ∈ us) (H : Win as tx p r us) (hb : KBw.bInts b = as) (hs2 : as.length ≤ 58)
    (h : ∀ t' k, Q (.int (as.getD i.toNat 0) t') { s with toks := k })
    (hs : subscripted slice false (.bytes b t) (.int i ui) = operate [.bytes b t, .int i ui] (getItem (.bytes b t) (.int i ui)) := by with_unfolding_all rfl)
    (ht : ∀ r, letTemporaryGo value (.bytes b t) r = pure () := by intro _; with_unfolding_all rfl) : wpAny (model prog w) A (subscriptTail value slice (.bytes b t) (.int i ui)) Q E s :=
  KBw.item_K hb (by omega) (H.rng i hm).1 (H.rng i hm).2 (fun t' k _ _ => h t' k) hs ht
end
theorem win_33 {as tx us : List Int} {p r : Int} (H : Win as tx p r us) (h33 : ∀ k ∈ as, 33 ≤ k) : ∀ k ∈ us.map (fun u => as.getD u.toNat 0), 33 ≤ k := fun k hk => h33 k (mem_map H.rng k hk)
theorem win_150 {as tx us os : List Int} {p r : Int} (H : Win as tx p r us) (hX : Txt as os tx) : (us.map (fun u => as.getD u.toNat 0)).length ≤ 150 := by
  rw [List.length_map, H.len]; exact Nat.le_trans hX.len (by decide)
theorem win_small {as tx us os : List Int} {p r : Int} (H : Win as tx p r us) (hX : Txt as os tx) : (us.map (fun u => as.getD u.toNat 0)).length ≤ 16777216 := Nat.le_trans (win_150 H hX) (by decide)
theorem window_law2 {as tx us os : List Int} {p r : Int} {n mo : Nat} (H : Win as tx p r us) (hX : Txt as os tx) (hn : as.length = n) (hnd : as.Nodup) (hs : 2 ≤ n) (hs2 : n ≤ 58) (hmo : 1 ≤ mo ∧ mo ≤ 32 ∧ n ^ mo < 4294705157) (hp : 0 ≤ p ∧ p < tx.length) (hr : 1 ≤ r ∧ r ≤ mo) :
    ¬ Sound (decodeL as (us.map fun u => as.getD u.toNat 0)) := window_law hX hn hnd hs hs2 hmo.2.2 hp.1 hp.2 (by omega) hr.2 H
theorem reach_b {n mo : Nat} (x : Int) (h : 1 ≤ mo ∧ mo ≤ 32 ∧ n ^ mo < 4294705157) : 1 ≤ 1 + (x.fdiv 100).fmod (mo : Int) ∧ 1 + (x.fdiv 100).fmod (mo : Int) ≤ mo := by
  have a := Int.fmod_nonneg_of_pos (x.fdiv 100) (b := (mo : Int)) (by omega)
  have b := Int.fmod_lt_of_pos (x.fdiv 100) (b := (mo : Int)) (by omega)
  omega
theorem win_in {as tx us : List Int} {p r : Int} {b : Array UInt8} (H : Win as tx p r us) (hb : KBw.bInts b = as) : KBa.In (us.map fun u => as.getD u.toNat 0) := by
  intro k hk
  exact ints_in hb k (mem_map H.rng k hk)
end Mine
end
section
-- part P14
set_option maxRecDepth 100000
open PySem PySem.W PyProof.Rows PySem.Calls
namespace Mine
theorem two_of {vs : List Value} {ns : List Int} {x y : Int} {l : Nat} (h : IntsAre vs ns) (hp : ns.Perm [x.fmod (l : Int), y.fmod (l : Int)]) (ho : ns.Pairwise (fun a b => a ≤ b)) (hl : 0 < l) :
    ∃ (a b : Int) (ta tb : Tok), ns = [a, b] ∧ vs = [.int a ta, .int b tb] ∧ 0 ≤ a ∧ a ≤ b ∧ b < l := by
  have hlen := hp.length_eq
  cases h with
  | nil => cases hlen
  | cons a ta h =>
    cases h with
    | nil => cases hlen
    | cons b tb h =>
      cases h with
      | cons c tc h => cases hlen
      | nil =>
        refine ⟨a, b, ta, tb, rfl, rfl, ?_, ?_, ?_⟩
        · have : a ∈ [x.fmod (l : Int), y.fmod (l : Int)] := hp.subset (List.mem_cons_self)
          have h1 := Int.fmod_nonneg_of_pos x (b := (l : Int)) (by omega)
          have h2 := Int.fmod_nonneg_of_pos y (b := (l : Int)) (by omega)
          simp only [List.mem_cons, List.not_mem_nil, or_false] at this
          omega
        · simp only [List.pairwise_cons, List.mem_singleton, forall_eq] at ho
          exact ho.1
        · have : b ∈ [x.fmod (l : Int), y.fmod (l : Int)] := hp.subset (List.mem_cons_of_mem _ List.mem_cons_self)
          have h1 := Int.fmod_lt_of_pos x (b := (l : Int)) (by omega)
          have h2 := Int.fmod_lt_of_pos y (b := (l : Int)) (by omega)
          simp only [List.mem_cons, List.not_mem_nil, or_false] at this
          omega
/-- two signs of a text exchanged -/
def swapL (tx : List Int) (i j : Nat) : List Int := tx.take i ++ (tx.drop j).take 1 ++ (tx.drop (i + 1)).take (j - (i + 1)) ++ (tx.drop i).take 1 ++ tx.drop (j + 1)
theorem split_two {tx : List Int} {i j : Nat} (hi : i < j) (hj : j < tx.length) : ∃ pre mid suf a b, tx = pre ++ (a :: (mid ++ (b :: suf))) ∧ swapL tx i j = pre ++ (b :: (mid ++ (a :: suf))) ∧ a = tx.getD i 0 ∧ b = tx.getD j 0 ∧ mid.length + 1 ≤ tx.length := by
  have hil : i < tx.length := by omega
  refine ⟨tx.take i, (tx.drop (i + 1)).take (j - (i + 1)), tx.drop (j + 1), tx[i], tx[j], ?_, ?_, ?_, ?_, ?_⟩
  · have e1 : tx.drop i = tx[i] :: tx.drop (i + 1) := List.drop_eq_getElem_cons hil
    have e2 : tx.drop j = tx[j] :: tx.drop (j + 1) := List.drop_eq_getElem_cons hj
    have e3 : tx.drop j = (tx.drop (i + 1)).drop (j - (i + 1)) := by rw [List.drop_drop]; congr 1; omega
    rw [← e2, e3, List.take_append_drop, ← e1, List.take_append_drop]
  · have e1 : tx.drop i = tx[i] :: tx.drop (i + 1) := List.drop_eq_getElem_cons hil
    have e2 : tx.drop j = tx[j] :: tx.drop (j + 1) := List.drop_eq_getElem_cons hj
    have t1 : (tx.drop i).take 1 = [tx[i]] := by rw [e1]; rfl
    have t2 : (tx.drop j).take 1 = [tx[j]] := by rw [e2]; rfl
    unfold swapL
    rw [t1, t2]
    simp
  · rw [List.getD_eq_getElem?_getD, List.getElem?_eq_getElem hil]; rfl
  · rw [List.getD_eq_getElem?_getD, List.getElem?_eq_getElem hj]; rfl
  · rw [List.length_take, List.length_drop]; omega
theorem swap_law {as tx os : List Int} {n : Nat} {i j : Nat} (hX : Txt as os tx) (hn : as.length = n) (hnd : as.Nodup) (hs : 2 ≤ n) (hs2 : n ≤ 58) (hi : i ≤ j) (hj : j < tx.length) (hne : tx.getD i 0 ≠ tx.getD j 0) :
    ¬ Sound (decodeL as (swapL tx i j)) := by
  intro hS
  subst hn
  have hij : i < j := by
    rcases Nat.lt_or_ge i j with h | h
    · exact h
    · have : i = j := by omega
      subst this; exact absurd rfl hne
  obtain ⟨pre, mid, suf, a, b, e1, e2, ea, eb, hm⟩ := split_two hij hj
  have hmem := hX.mem
  have hlen := hX.len
  have hv := hX.val
  rw [e2] at hS
  rw [← ea, ← eb] at hne
  rw [e1] at hmem hv
  have ha : a ∈ as := hmem a (by simp)
  have hb : b ∈ as := hmem b (by simp)
  have hmem2 : ∀ k ∈ pre ++ (b :: (mid ++ (a :: suf))), k ∈ as := by
    intro k hk
    apply hmem
    simp only [List.mem_append, List.mem_cons] at hk ⊢
    rcases hk with h | h | h | h | h
    · exact .inl h
    · exact .inr (.inr (.inr (.inl h)))
    · exact .inr (.inr (.inl h))
    · exact .inr (.inl h)
    · exact .inr (.inr (.inr (.inr h)))
  have hw := sound_dvd hnd (by omega) hmem2 hS
  unfold valS at hv hw
  rw [List.map_append, List.map_cons, List.map_append, List.map_cons] at hv hw
  refine swap_core hs hs2 (List.idxOf_lt_length_of_mem ha) (List.idxOf_lt_length_of_mem hb) (fun q => hne ?_) (by rw [List.length_map]; omega) hv hw
  rw [← sg_idx ha, ← sg_idx hb, q]
theorem swap_mem {as tx os : List Int} {i j : Nat} (hX : Txt as os tx) : ∀ k ∈ swapL tx i j, k ∈ tx := by
  intro k hk
  unfold swapL at hk
  simp only [List.mem_append] at hk
  rcases hk with (((h | h) | h) | h) | h
  · exact List.mem_of_mem_take h
  · exact List.mem_of_mem_drop (List.mem_of_mem_take h)
  · exact List.mem_of_mem_drop (List.mem_of_mem_take h)
  · exact List.mem_of_mem_drop (List.mem_of_mem_take h)
  · exact List.mem_of_mem_drop h
theorem swap_len {as tx os : List Int} {i j : Nat} (hX : Txt as os tx) (hi : i ≤ j) (hj : j < tx.length) : (swapL tx i j).length ≤ 150 := by
  have := hX.len
  unfold swapL
  simp only [List.length_append, List.length_take, List.length_drop]
  omega
end Mine
end
section
-- part P15
set_option maxRecDepth 100000
open PySem PySem.W PyProof.Rows PySem.Calls
namespace Mine
/-- bytes made of pieces of a text -/
structure Pc (tx : List Int) (b : Array UInt8) (l : List Int) (n : Nat) : Prop where
  eq : KBw.bInts b = l
  len : l.length ≤ n * tx.length
section
variable {tx l l' : List Int} {b c : Array UInt8} {n n' x y : Nat}
theorem Pc.td (h : KBw.bInts b = List.take x (List.drop y tx)) : Pc tx b (List.take x (List.drop y tx)) 1 := ⟨h, by rw [List.length_take, List.length_drop]; omega⟩
theorem Pc.tk (h : KBw.bInts b = List.take x tx) : Pc tx b (List.take x tx) 1 := ⟨h, by rw [List.length_take]; omega⟩
theorem Pc.dr (h : KBw.bInts b = List.drop x tx) : Pc tx b (List.drop x tx) 1 := ⟨h, by rw [List.length_drop]; omega⟩
variable {prog : Program} {w : World} {A : Around} {E : Value → Shared → Prop} {s : Shared} {t u : Tok} {as os : List Int}
theorem add_P {Q : Value → Shared → Prop} (hX : Txt as os tx) (hb : Pc tx b l n) (hc : Pc tx c l' n') (hn : n + n' ≤ 1000) (h : ∀ t' k, Pc tx (b ++ c) (l ++ l') (n + n') → Q (.bytes (b ++ c) t') { s with toks := k }) :
    wpAny (model prog w) A (binaryOp .Add (.bytes b t) (.bytes c u)) Q E s := by
  have h1 := hX.len
  have h2 := hb.len
  have h3 := hc.len
  have e : (n + n') * tx.length = n * tx.length + n' * tx.length := Nat.add_mul _ _ _
  have h4 : (n + n') * tx.length ≤ 1000 * 100 := Nat.mul_le_mul hn h1
  exact KBa.add_K hb.eq hc.eq (by omega) fun t' k q => h t' k ⟨q, by rw [List.length_append]; omega⟩
end
theorem swap_form {tx : List Int} {v : Array UInt8} {n : Nat} {i j : Int} (h0 : 0 ≤ i) (h1 : i ≤ j) (h2 : j < tx.length)
    (h : Pc tx v (List.take (clipAt tx.length i) tx ++ List.take (clipAt tx.length (j + 1) - clipAt tx.length j) (List.drop (clipAt tx.length j) tx) ++
      List.take (clipAt tx.length j - clipAt tx.length (i + 1)) (List.drop (clipAt tx.length (i + 1)) tx) ++
      List.take (clipAt tx.length (i + 1) - clipAt tx.length i) (List.drop (clipAt tx.length i) tx) ++
      List.take (tx.length - clipAt tx.length (j + 1)) (List.drop (clipAt tx.length (j + 1)) tx)) n) : KBw.bInts v = swapL tx i.toNat j.toNat := by
  rw [h.eq]
  have a : clipAt tx.length i = i.toNat := by unfold clipAt; omega
  have b : clipAt tx.length j = j.toNat := by unfold clipAt; omega
  have c : clipAt tx.length (i + 1) = i.toNat + 1 := by unfold clipAt; omega
  have d : clipAt tx.length (j + 1) = j.toNat + 1 := by unfold clipAt; omega
  rw [a, b, c, d]
  unfold swapL
  have e : List.take (tx.length - (j.toNat + 1)) (List.drop (j.toNat + 1) tx) = List.drop (j.toNat + 1) tx := List.take_of_length_le (by rw [List.length_drop]; omega)
  rw [e, Nat.add_sub_cancel_left, Nat.add_sub_cancel_left]
theorem swap_facts {as tx os : List Int} {n : Nat} {i j : Int} (hX : Txt as os tx) (hn : as.length = n) (hnd : as.Nodup) (hs : 2 ≤ n) (hs2 : n ≤ 58) (h0 : 0 ≤ i) (h1 : i ≤ j) (h2 : j < tx.length) (hne : ¬ tx.getD i.toNat 0 = tx.getD j.toNat 0) :
    (swapL tx i.toNat j.toNat).length ≤ 150 ∧ (∀ k ∈ swapL tx i.toNat j.toNat, k ∈ as) ∧ (∀ k ∈ swapL tx i.toNat j.toNat, 33 ≤ k) ∧ ¬ Sound (decodeL as (swapL tx i.toNat j.toNat)) :=
  ⟨swap_len hX (by omega) (by omega), fun k hk => hX.mem k (swap_mem hX k hk), fun k hk => hX.ge k (swap_mem hX k hk), swap_law hX hn hnd hs hs2 (by omega) (by omega) hne⟩
theorem off1_all {D : Addr} : ∀ {l : List (Addr × Obj)}, LCg.Off1 D l → ∀ p ∈ l, p.1 ≠ D
  | [], _ => fun _ h => nomatch h
  | q :: r, h => fun p hp => by
    rcases List.mem_cons.1 hp with rfl | hp
    · exact h.1
    · exact off1_all h.2 p hp
theorem all_app {D : Addr} {l own : List (Addr × Obj)} (h : ∀ p ∈ l, p.1 ≠ D) (h' : ∀ p ∈ own, p.1 ≠ D) : ∀ p ∈ l ++ own, p.1 ≠ D := fun p hp => (List.mem_append.1 hp).elim (h p) (h' p)
end Mine
end
section
-- part W8
namespace Mine
def Stop (P : Prop) : Prop := P
theorem stopped {P : Prop} (h : Stop P) : P := h
end Mine
open PySem PySem.W PyProof.Rows PySem.Spec PySem.Calls
set_option Elab.async false
set_option maxRecDepth 100000
set_option maxHeartbeats 4000000
set_option pp.deepTerms false
set_option linter.unusedVariables false
namespace Mine
local macro_rules | `(tactic| k_room) => `(tactic| ktr_room)
local macro_rules | `(tactic| k_units) => `(tactic| ktr_units)
local macro_rules | `(tactic| cell_enter) => `(tactic| (refine' code_def ?k1 ?k2 ?k3 ?k4 ?k5 ?kA ?kF ?kK ?k6 ?k7 ?k8 ?k9 ?kB ?_ ?c2 ?c3 ?c4 ?c5; (case kA => exact rfl); (case kF => exact rfl); (case kK => assumption); (case k1 => k_asm); (case k2 => k_asm); (case k3 => k_asm); (case k4 => k_asm); (case k5 => k_asm); (case k6 => k_is); (case k7 => k_is); (case k8 => ktr_room); (case k9 => first | exact BindsTo.of_eq rfl | exact binds_K (by k_in) rfl (by k_is) rfl rfl rfl | (refine' kp_binds ?kx ?ke; (case kx => k_in); (case ke => exact fun _ => rfl))); (case c5 => decide); (case kB => exact locs rfl); (case c2 => exact rfl); (case c3 => exact rfl); (case c4 => exact rfl); k_whole; intro g' L' h' FG' F' N' B' X' T'; (try dsimp only); (try k_lift B'); (try k_fold)))
local macro_rules | `(tactic| walk_at "callWith ref nil") => `(tactic| (k_here; kfb_any; k_dflt (refine' callWith_boundKW ?kfbN ?kfbM ?kfbH ?_; (case kfbN => k_asm); (case kfbM => k_mem); (case kfbH => rfl); k_whole)))
local macro_rules | `(tactic| walk_at "getMethod bytes") => `(tactic| (k_here; first | (with_reducible refine meth_lstrip ?_) | (with_reducible refine meth_rstrip ?_)))
local macro_rules | `(tactic| walk_at "call builtin:bytes.rstrip") => `(tactic| (k_here; refine rstrip_K (by assumption) (by assumption) ?_; intro _ _))
local macro_rules | `(tactic| walk_at "compareOp NotIn bytes bytes") => `(tactic| (k_here; refine' notIn_K ?nF ?nN ?nH ?nb ?nc ?nn ?_; (case nF => k_asm); (case nN => k_asm); (case nH => exact rfl); (case nb => assumption); (case nc => exact (rfl : KBw.bInts #[32] = [32])); (case nn => assumption); intro hN' _ FN' NN'; (try k_sweep)))
local macro_rules | `(tactic| walk_at "eval DictComp Name Name cons") => `(tactic| (k_here; k_dflt (refine' enum_map ?e1 ?e2 ?e3 ?e4 ?e5 ?e6 ?e7 ?e8 ?e9 ?e10 ?e11 ?eF ?eN ?eB ?_; (case eB => assumption); (case e1 => exact rfl); (case eF => k_asm); (case eN => k_asm); (case e2 => with_unfolding_all rfl); (case e3 => decide); (case e4 => with_unfolding_all rfl); (case e5 => decide); (case e6 => with_unfolding_all rfl); (case e7 => with_unfolding_all rfl); (case e8 => decide); (case e9 => decide); (case e10 => decide); (case e11 => intro _; with_unfolding_all rfl))))
local macro_rules | `(tactic| walk_at "call type:enumerate") => `(tactic| (k_here; k_dflt (refine' enum_call ?e1 ?e2 ?e3 ?e4 ?e5 ?_; (case e1 => k_asm); (case e2 => k_asm); (case e3 => assumption); (case e4 => assumption); (case e5 => omega); intro eD eo eh etk eFr eNews eLt eMap; (try k_lt eLt); (try dsimp only); (try k_fold); (try k_sweep))))
local macro_rules | `(tactic| k_all) => `(tactic| first | exact off_lt (Nat.le_refl _) (by assumption) | exact off_lt (Nat.le_succ _) (by assumption) | exact off_allLt (Nat.le_refl _) (by assumption) | exact off_allLt (Nat.le_succ _) (by assumption))
local macro_rules | `(tactic| walk_at "subscriptTail Name Name ref int") => `(tactic| (k_here; (with_reducible show wpAny _ _ (subscriptTail (Expr.Name _ _) _ (Value.ref _) (Value.int _ _)) _ _ _); k_dflt (refine' map_in ?m1 ?m2 ?m3 ?m4 ?_; (case m1 => k_asm); (case m2 => k_mem); (case m3 => assumption); (case m4 => first | assumption | exact mem_mid (by assumption) (by assumption) | exact mem_of (by assumption) (by assumption)); k_whole; intro _ _)))
local macro_rules | `(tactic| walk_at "pyIter bytes") => `(tactic| k_extra "pyIter bytes")
local macro_rules | `(tactic| k_all) => `(tactic| first | (with_reducible assumption) | ((rename (∀ p ∈ _, Prod.fst p ≠ _) => h9); exact all_app h9 (OwnOff.ne (by assumption) (by k_memK))))
local macro_rules | `(tactic| walk_at "binaryOp Add bytes bytes") => `(tactic| (k_here; (with_reducible show wpAny _ _ (binaryOp Operator.Add (Value.bytes _ _) (Value.bytes _ _)) _ _ _); refine add_P (by assumption) (by first | (with_reducible assumption) | exact Pc.td (by with_reducible assumption) | exact Pc.tk (by with_reducible assumption) | exact Pc.dr (by with_reducible assumption)) (by first | (with_reducible assumption) | exact Pc.td (by with_reducible assumption) | exact Pc.tk (by with_reducible assumption) | exact Pc.dr (by with_reducible assumption)) (by decide) ?_; intro _ _ pcA))
local macro_rules | `(tactic| walk_at "call ref") => `(tactic| (k_here; (with_reducible show wpAny _ _ (call (Value.ref 77) _ _) _ _ _); k_dflt (refine' decchk_tells _ _ _ _ _ _ _ _ ?p0 ?p1 ?p2 ?p3 ?p4 ?p5 ?p6 ?p7 ?p8 ?p9 ?p10 _ _ _ _ _ _ _ _ _ _ _ _ _ _ _ _ _ _ _ _ _ ?c1 ?c2 ?c3 ?c4 ?c5 ?cK ?cd ?cu ?_; (case p0 => assumption); (case p1 => exact Nat.le_trans (Txt.len (by assumption)) (by decide)); (case p2 => assumption); (case p3 => assumption); (case p4 => assumption); (case p5 => assumption); (case p6 => assumption); (case p7 => assumption); (case p8 => exact Txt.mem (by assumption)); (case p9 => exact Txt.ge (by assumption)); (case p10 => exact Txt.dec (by assumption)); (case c1 => k_asm); (case c2 => k_asm); (case c3 => k_asm); (case c4 => k_asm); (case c5 => k_asm); (case cK => first | exact rfl | assumption); (case cd => ktr_room); (case cu => ktr_units); intro vR hR tR ⟨rR, tkR, eR, bR⟩ FR NR; subst eR; (try dsimp only); (try k_fold); (try k_sweep))))
local macro_rules | `(tactic| walk_at "call ref") => `(tactic| (k_here; (with_reducible show wpAny _ _ (call (Value.ref 68) _ _) _ _ _); k_dflt (refine' encchk_tells _ _ _ _ _ _ _ ?p0 ?p1 ?p2 ?p3 ?p4 _ _ _ _ _ _ _ _ _ _ _ _ _ _ _ _ _ _ _ _ _ ?c1 ?c2 ?c3 ?c4 ?c5 ?cK ?cd ?cu ?_; (case p0 => assumption); (case p1 => omega); (case p2 => assumption); (case p3 => assumption); (case p4 => assumption); (case c1 => k_asm); (case c2 => k_asm); (case c3 => k_asm); (case c4 => k_asm); (case c5 => k_asm); (case cK => first | exact rfl | assumption); (case cd => ktr_room); (case cu => ktr_units); intro vR hR tR ⟨rR, tkR, eR, bR⟩ FR NR; subst eR; (try dsimp only); (try k_fold); (try k_sweep))))
local macro_rules | `(tactic| walk_at "call ref") => `(tactic| (k_here; (with_reducible show wpAny _ _ (call (Value.ref 92) _ _) _ _ _); k_dflt (refine' refused_tells _ _ _ _ _ _ _ ?p0 ?p1 ?p2 ?p3 ?p4 ?p5 ?p6 ?p7 ?p8 ?p9 ?p10 _ _ _ _ _ _ _ _ _ _ _ _ _ _ _ _ _ _ _ ?c1 ?c2 ?c3 ?c4 ?c5 ?cK ?cd ?cu ?_; (case p0 => assumption); (case p1 => first | assumption | exact win_150 (by assumption) (by assumption)); (case p2 => assumption); (case p3 => assumption); (case p4 => assumption); (case p5 => assumption); (case p6 => assumption); (case p7 => assumption); (case p8 => first | assumption | exact mem_map (Win.rng (by assumption))); (case p9 => first | assumption | exact win_33 (by assumption) (by assumption)); (case p10 => first | assumption | exact window_law2 (by assumption) (by assumption) (by assumption) (by assumption) (by assumption) (by assumption) (by assumption) (by assumption) (by assumption)); (case c1 => k_asm); (case c2 => k_asm); (case c3 => k_asm); (case c4 => k_asm); (case c5 => k_asm); (case cK => first | exact rfl | assumption); (case cd => ktr_room); (case cu => ktr_units); intro vR hR tR eR FR NR; (replace eR : _ = Value.bool true := eR); subst eR; (try dsimp only); (try k_fold); (try k_sweep))))
local macro_rules | `(tactic| walk_at "subscriptTail Name Name bytes int") => `(tactic| (k_here; (with_reducible show wpAny _ _ (subscriptTail _ _ (Value.bytes _ _) (Value.int _ _)) _ _ _); refine win_item (by assumption) (by assumption) (by assumption) (by assumption) ?_; intro _ _))
local macro_rules | `(tactic| walk_at "call type:bytes") => `(tactic| (k_here; (with_reducible show wpAny _ _ (call (Value.type "bytes") [Value.ref _]) _ _ _); k_dflt (refine' KBa.make_K ?kbaF ?kbaN ?kbah ?kbal ?kbai ?kbar ?kban ?_; (case kbar => exact win_in (by assumption) (by assumption)); (case kbaF => k_asm); (case kbaN => k_asm); (case kbah => rfl); (case kbal => kba_isList); (case kbai => kba_listInts); (case kban => exact win_small (by assumption) (by assumption))); intro _ _ _ F' N' kbaIn; (have kbaB := KBa.ints_make kbaIn)))

local macro_rules | `(tactic| walk_at "binaryOp Pow int int") => `(tactic| (k_here; (with_reducible show wpAny _ _ (binaryOp Operator.Pow (Value.int (Nat.cast _) _) _) _ _ _); k_dflt (refine pow_K2 (by assumption) (by assumption) (by assumption) ?_; intro _ _)))
local macro_rules | `(tactic| walk_at "CompEnd") => `(tactic| ((goal_has PySem.W.KCiEl); refine end_same (by assumption) (by assumption) (by (simp only [LCg.Off3, and_true]; assumption)) (by trivial) ?_))
local macro_rules | `(tactic| walk_at "CompEnd") => `(tactic| ((goal_has PySem.W.KCiNo); refine end_same (by assumption) (by assumption) (by (simp only [LCg.Off3, and_true]; assumption)) (by trivial) ?_))
local macro_rules | `(tactic| walk_at "KCiEl") => `(tactic| exact most_el (by assumption) (by with_unfolding_all rfl) (by with_unfolding_all rfl))
local macro_rules | `(tactic| walk_at "KCiNo") => `(tactic| exact most_no (by assumption) (by with_unfolding_all rfl))
local macro_rules | `(tactic| walk_at "CompSrcT") => `(tactic| (k_here; k_dflt ((refine LCt.CompSrcT.range (by rfl) (by k_asm) (by k_asm) (by assumption) (by decide) (by first | exact rangeSize_nat _ _ | rfl) (by exact Nat.le_of_ble_eq_true rfl) ?_); intro g'; (refine' most_range ?mk (fun k' t' I' oI' C' oC' D' m' ys' l' h' tk' E' hlo' hhi' hI' hC' hx' F' N' off' ne' => ?_) ?_); (case mk => assumption); (all_goals (try (simp only [LCg.Off3, and_true] at off'))); (all_goals (try ((show KPfMark → _); intro hMark'))); kcf_last)))
local macro_rules | `(tactic| walk_at "exec Assign cons ListComp") => `(tactic| (k_here; (with_reducible show wpAny _ _ (exec (Stmt.Assign _ (Expr.ListComp (Expr.Subscript (Expr.Name _ _) (Expr.Name _ _) _) _ _ _) _) _) _ _ _); k_dflt (refine' worths_comp ?c1 ?c2 ?c3 ?c4 ?c5 ?c6 ?c7 ?c8 ?c9 ?ca ?cb ?cc ?cd ?ce ?_ ?cf; (case c1 => k_asm); (case c2 => rfl); (case c3 => with_unfolding_all rfl); (case c4 => with_unfolding_all rfl); (case c5 => decide); (case c6 => rfl); (case c7 => decide); (case c8 => rfl); (case c9 => rfl); (case ca => rfl); (case cb => intro _; rfl); (case cc => intro _; rfl); (case cd => decide); (case ce => decide); (case cf => intro _; rfl))))
local macro_rules | `(tactic| walk_at "WorthSrc") => `(tactic| k_dflt (refine' worth_src ?p1 ?p2 ?p3 ?p4 ?p5 ?p6 ?p7 ?p8 ?p9 ?pa ?pb ?_; (case p1 => rfl); (case p2 => k_asm); (case p3 => k_asm); (case p4 => assumption); (case p5 => omega); (case p6 => exact Txt.mem (by assumption)); (case p7 => exact rfl); (case p8 => k_mem); (case p9 => assumption); (case pa => k_mem); (case pb => assumption); intro wD wh wtk wys wF wN wOff wI; (have wOff0 := off1_all wOff); (try simp only [LCg.Off1, and_true] at wOff); (try dsimp only); (try k_fold); (try k_sweep)))
local macro_rules | `(tactic| walk_at "execs cons") => `(tactic| k_extra "execs cons")
local macro_rules | `(tactic| walk_at "CompSrc") => `(tactic| (k_here; k_dflt (refine' pairs_src ?p1 ?p2 ?p3 ?p4 ?p5 ?p6 ?p7 ?p8 ?p9 ?pa ?_ ?q1 ?q2 ?q3 ?q4 ?q5 ?q6 ?q7 ?q8; (case p1 => rfl); (case p2 => k_asm); (case p3 => k_asm); (case p4 => assumption); (case p6 => assumption); (case p5 => omega); (case p7 => omega); (case p8 => exact rfl); (case p9 => k_mem); (case pa => assumption); (case q1 => rfl); (case q2 => rfl); (case q3 => rfl); (case q4 => intro _; rfl); (case q5 => intro _; rfl); (case q6 => decide); (case q7 => decide); (case q8 => decide); intro pD ph ptk pys pF pN pOff pP; (try simp only [LCg.Off1, and_true] at pOff); (try dsimp only); (try k_fold))))
local macro_rules | `(tactic| walk_at "call type:dict") => `(tactic| (k_here; k_dflt (refine' dict_call ?p1 ?p2 ?p3 ?p4 ?p5 ?p6 ?p7 ?_; (case p1 => exact rfl); (case p2 => k_asm); (case p3 => k_asm); (case p4 => k_mem); (case p5 => assumption); (case p6 => assumption); (case p7 => omega); intro eD eo eh etk eFr eNews eLt eMap; (try k_lt eLt); (try dsimp only); (try k_fold); (try k_sweep))))
set_option maxHeartbeats 0
local macro_rules | `(tactic| walk_at "assign Tuple cons ref") => `(tactic| k_extra "assign Tuple cons ref")
local macro_rules | `(tactic| walk_at "call ref") => `(tactic| k_extra "call ref")
theorem law_holds : PySem.Challenge.rw_fe0043_01.Holds := Mine.hd (by
  k_go0
  all_goals try k_fold
  k_with_none
  k_with "execs cons" => ((with_reducible show wpAny _ _ (execs (Stmt.Assign [Expr.Name (Str.ofString "size") _] _ _ :: _) _) _ _ _); refine stopped ?_)
  k_steps
  rename IntsAre _ (List.map _ _) => hD8
  obtain ⟨ds, hds, hdl, hdb⟩ := draw_facts hD8 (by intro k; split <;> exact fmod_in _)
  clear hD8
  rename (List.length _ = List.length (List.map _ _)) => hT8
  clear hT8
  have hdl2 := hds.length
  have hd0 := get18 hdl hdb 0
  have hd1 := get18 hdl hdb 1
  unfold Stop
  k_with_none
  k_with "execs cons" => ((with_reducible show wpAny _ _ (execs (Stmt.Assign [Expr.Name (Str.ofString "signs") _] _ _ :: _) _) _ _ _); refine stopped ?_)
  k_steps
  rename (Obj.data _ = Data.cell (some (Value.int (2 + Int.fmod _ _) _))) => hS8
  obtain ⟨n, hn2, hn58, hn⟩ := size_fact hS8
  clear hS8
  unfold Stop
  k_with_none
  k_with "execs cons" => ((with_reducible show wpAny _ _ (execs (Stmt.Assign [Expr.Name (Str.ofString "worth") _] _ _ :: _) _) _ _ _); refine stopped ?_)
  k_steps
  rename KBa.In _ => hI8
  rename (Obj.data _ = Data.cell (some (Value.bytes _ _))) => hS8
  obtain ⟨al, as, hal, has, hlen, hnd, h33, hne⟩ := signs_fact hn58 hd1.1 hS8 hI8
  clear hS8 hI8
  rename IntsAre _ (List.map _ _) => hI8
  clear hI8
  rename (List.length _ = List.length (List.map _ _)) => hT8
  clear hT8
  rename (0 ≤ List.sum _ ∧ _) => hI8
  clear hI8
  have hs2 : 2 ≤ as.length := by omega
  have hs58 : as.length ≤ 58 := by omega
  unfold Stop
  k_with_none
  k_with "execs cons" => ((with_reducible show wpAny _ _ (execs (Stmt.Assign [Expr.Name (Str.ofString "octets") _] _ _ :: _) _) _ _ _); refine stopped ?_)
  k_steps
  unfold Stop
  k_with_none
  k_with "execs cons" => ((with_reducible show wpAny _ _ (execs (Stmt.Assign [Expr.Name (Str.ofString "text") _] _ _ :: _) _) _ _ _); refine stopped ?_)
  k_steps
  rename KBa.In _ => hIO
  have hob := KBa.ints_make hIO
  have hol := octets_fact (x := ds.getD 1 0) hdl
  rename IntsAre _ (List.map _ _) => hT8
  clear hT8
  rename (List.length _ = List.length (List.map _ _)) => hT8
  clear hT8
  rename (0 ≤ List.sum _ ∧ _) => hT8
  clear hT8
  generalize hX : byteArr (List.map (fun k' : Int => if ¬k'.fmod 3 = 0 then k'.fmod 256 else 0) (List.take (min (3 + (ds.getD 1 0).fmod 8).toNat ds.length - 2) (List.drop 2 ds))) = ob at *
  generalize hY : (List.map (fun k' : Int => if ¬k'.fmod 3 = 0 then k'.fmod 256 else 0) (List.take (min (3 + (ds.getD 1 0).fmod 8).toNat ds.length - 2) (List.drop 2 ds))) = os at *
  clear hX hY
  repeat (rename IntsAre _ (List.take _ _) => h8; clear h8)
  repeat (rename (List.length (List.take _ _) = _) => h8; clear h8)
  repeat (rename (List.length (List.take _ _) ≤ _) => h8; clear h8)
  repeat (rename (_ = List.length (List.take _ _)) => h8; clear h8)
  unfold Stop
  k_with_none
  k_with "execs cons" => ((with_reducible show wpAny _ _ (execs (Stmt.If _ _ _ _ :: _) _) _ _ _); refine stopped ?_)
  k_steps
  rename (KBw.bInts _ = encodeL _ _) => hI8
  rename (Array UInt8) => tb
  have hX := text_facts hs2 hs58 hnd h33 hIO hol
  have htl := hX.len
  have htp := hX.pos
  have hnm : NMark n := hn58
  generalize encodeL as (os ++ hashL (hashL os)) = tx at *
  unfold Stop
  k_with_none
  k_with "execs cons" => ((with_reducible show wpAny _ _ (execs (Stmt.Assign [Expr.Name (Str.ofString "most") _] _ _ :: _) _) _ _ _); refine stopped ?_)
  k_steps
  · exact (bytes_ne (by assumption) (by assumption) (by assumption)).elim
  unfold Stop
  k_with_none
  k_with "execs cons" => ((with_reducible show wpAny _ _ (execs (Stmt.For _ _ _ _ _ :: _) _) _ _ _); refine stopped ?_)
  k_steps
  rename IntsAre _ (List.foldl _ _ _) => hT8
  clear hT8
  have hml := most_len hn2 hn58
  generalize (List.foldl (Gm n) [] (rangeKs 1 (33 - 1 : Int).toNat)).length = mo at *
  unfold Stop
  k_with_none
  k_with "execs cons" => ((with_reducible show wpAny _ _ (execs (Stmt.Assign [Expr.Name (Str.ofString "worths") _] _ _ :: _) _) _ _ _); refine stopped ?_)
  k_steps
  have hpl0 := place_b (ds.getD (10 + 0 : Int).toNat 0) htp
  generalize (ds.getD (10 + 0 : Int).toNat 0).fmod (tx.length : Int) = pl0 at *
  have hre0 := reach_b (ds.getD (10 + 0 : Int).toNat 0) hml
  generalize 1 + ((ds.getD (10 + 0 : Int).toNat 0).fdiv 100).fmod (mo : Int) = re0 at *
  unfold Stop
  k_with_none
  k_with "execs cons" => ((with_reducible show wpAny _ _ (execs (Stmt.For _ _ _ _ _ :: _) _) _ _ _); refine stopped ?_)
  k_steps
  unfold Stop
  rename IntsAre (List.set _ _ _) _ => hi8
  rename (List.sum (List.set _ _ _) = _) => hs8
  clear hs8
  rename (List.length (List.set _ _ _) = _) => hl8
  have hW := win_first (t := ds.getD (13 + 0 : Int).toNat 0) (Txt.mem hX) hlen hn2 hpl0.1 hpl0.2 hre0.1
  generalize ((List.map (fun k => ((as.idxOf k : Nat) : Int)) tx).set pl0.toNat (((List.map (fun k => ((as.idxOf k : Nat) : Int)) tx).getD pl0.toNat 0 + 1 + (ds.getD (13 + 0 : Int).toNat 0).fmod ((n : Int) - 1)).fmod (n : Int))) = us at *
  generalize (List.set _ pl0.toNat _) = vs at *
  have hul := hW.len
  clear hl8
  k_with_none
  k_with "pyIter ref" => refine stopped ?_
  k_steps
  unfold Stop
  k_with_none
  k_with "state" => assumption
  k_state (fun (pre : List Int) (us : List Int) => Win as tx pl0 re0 us) "worths"
  · rename Win _ _ _ _ _ => kV
    have hfl := kV.len
    have hkN : pl0 < kN ∧ kN < tx.length ∧ kN < pl0 + re0 := win_idx (by assumption) (by assumption)
    have hW2 := fun e => win_turn (e := e) kV hpl0 hkN hlen hn2
    k_with_none
    k_with "state" => exact hW2 _
    k_steps
  try dsimp only
  rename Win _ _ _ _ _ => kV
  have hfl := kV.len
  rename IntsAre _ _ => kF8
  k_with_none
  k_with "execs cons" => ((with_reducible show wpAny _ _ (execs (Stmt.Assign [Expr.Name (Str.ofString "worths") _] _ _ :: _) _) _ _ _); refine stopped ?_)
  k_steps
  clear hW kV hfl hul hi8 kF8
  repeat (rename IntsAre _ (List.map _ _) => h8; clear h8)
  repeat (rename (List.length _ = List.length _) => h8; clear h8)
  repeat (rename (KBw.bInts (byteArr _) = _) => h8; clear h8)
  repeat (rename KBa.In (List.map _ _) => h8; clear h8)
  have hpl1 := place_b (ds.getD (10 + 1 : Int).toNat 0) htp
  generalize (ds.getD (10 + 1 : Int).toNat 0).fmod (tx.length : Int) = pl1 at *
  have hre1 := reach_b (ds.getD (10 + 1 : Int).toNat 0) hml
  generalize 1 + ((ds.getD (10 + 1 : Int).toNat 0).fdiv 100).fmod (mo : Int) = re1 at *
  unfold Stop
  k_with_none
  k_with "execs cons" => ((with_reducible show wpAny _ _ (execs (Stmt.For _ _ _ _ _ :: _) _) _ _ _); refine stopped ?_)
  k_steps
  unfold Stop
  rename IntsAre (List.set _ _ _) _ => hi8
  rename (List.sum (List.set _ _ _) = _) => hs8
  clear hs8
  rename (List.length (List.set _ _ _) = _) => hl8
  have hW := win_first (t := ds.getD (13 + 1 : Int).toNat 0) (Txt.mem hX) hlen hn2 hpl1.1 hpl1.2 hre1.1
  generalize ((List.map (fun k => ((as.idxOf k : Nat) : Int)) tx).set pl1.toNat (((List.map (fun k => ((as.idxOf k : Nat) : Int)) tx).getD pl1.toNat 0 + 1 + (ds.getD (13 + 1 : Int).toNat 0).fmod ((n : Int) - 1)).fmod (n : Int))) = us at *
  generalize (List.set _ pl1.toNat _) = vs at *
  have hul := hW.len
  clear hl8
  k_with_none
  k_with "pyIter ref" => refine stopped ?_
  k_steps
  unfold Stop
  k_with_none
  k_with "state" => assumption
  k_state (fun (pre : List Int) (us : List Int) => Win as tx pl1 re1 us) "worths"
  · rename Win _ _ _ _ _ => kV
    have hfl := kV.len
    have hkN : pl1 < kN ∧ kN < tx.length ∧ kN < pl1 + re1 := win_idx (by assumption) (by assumption)
    have hW2 := fun e => win_turn (e := e) kV hpl1 hkN hlen hn2
    k_with_none
    k_with "state" => exact hW2 _
    k_steps
  try dsimp only
  rename Win _ _ _ _ _ => kV
  have hfl := kV.len
  rename IntsAre _ _ => kF8
  k_with_none
  k_with "execs cons" => ((with_reducible show wpAny _ _ (execs (Stmt.Assign [Expr.Name (Str.ofString "worths") _] _ _ :: _) _) _ _ _); refine stopped ?_)
  k_steps
  clear hW kV hfl hul hi8 kF8
  repeat (rename IntsAre _ (List.map _ _) => h8; clear h8)
  repeat (rename (List.length _ = List.length _) => h8; clear h8)
  repeat (rename (KBw.bInts (byteArr _) = _) => h8; clear h8)
  repeat (rename KBa.In (List.map _ _) => h8; clear h8)
  have hpl2 := place_b (ds.getD (10 + 2 : Int).toNat 0) htp
  generalize (ds.getD (10 + 2 : Int).toNat 0).fmod (tx.length : Int) = pl2 at *
  have hre2 := reach_b (ds.getD (10 + 2 : Int).toNat 0) hml
  generalize 1 + ((ds.getD (10 + 2 : Int).toNat 0).fdiv 100).fmod (mo : Int) = re2 at *
  unfold Stop
  k_with_none
  k_with "execs cons" => ((with_reducible show wpAny _ _ (execs (Stmt.For _ _ _ _ _ :: _) _) _ _ _); refine stopped ?_)
  k_steps
  unfold Stop
  rename IntsAre (List.set _ _ _) _ => hi8
  rename (List.sum (List.set _ _ _) = _) => hs8
  clear hs8
  rename (List.length (List.set _ _ _) = _) => hl8
  have hW := win_first (t := ds.getD (13 + 2 : Int).toNat 0) (Txt.mem hX) hlen hn2 hpl2.1 hpl2.2 hre2.1
  generalize ((List.map (fun k => ((as.idxOf k : Nat) : Int)) tx).set pl2.toNat (((List.map (fun k => ((as.idxOf k : Nat) : Int)) tx).getD pl2.toNat 0 + 1 + (ds.getD (13 + 2 : Int).toNat 0).fmod ((n : Int) - 1)).fmod (n : Int))) = us at *
  generalize (List.set _ pl2.toNat _) = vs at *
  have hul := hW.len
  clear hl8
  k_with_none
  k_with "pyIter ref" => refine stopped ?_
  k_steps
  unfold Stop
  k_with_none
  k_with "state" => assumption
  k_state (fun (pre : List Int) (us : List Int) => Win as tx pl2 re2 us) "worths"
  · rename Win _ _ _ _ _ => kV
    have hfl := kV.len
    have hkN : pl2 < kN ∧ kN < tx.length ∧ kN < pl2 + re2 := win_idx (by assumption) (by assumption)
    have hW2 := fun e => win_turn (e := e) kV hpl2 hkN hlen hn2
    k_with_none
    k_with "state" => exact hW2 _
    k_steps
  try dsimp only
  rename Win _ _ _ _ _ => kV
  have hfl := kV.len
  rename IntsAre _ _ => kF8
  k_with_none
  k_with "assign Tuple cons ref" => refine stopped ?_
  k_steps
  unfold Stop
  rename List.Perm _ _ => hp8
  clear hp8
  rename List.Perm _ _ => hp8
  rename List.Pairwise _ _ => ho8
  rename IntsAre _ _ => hi8
  obtain ⟨i1, i2, q1, q2, e1, e2, h01, h12, h2l⟩ := two_of hi8 hp8 ho8 htp
  subst e1 e2
  clear hp8 ho8 hi8 hW kV hfl hul kF8
  repeat (rename IntsAre _ (List.map _ _) => h8; clear h8)
  repeat (rename (List.length _ = List.length _) => h8; clear h8)
  k_with_none
  k_with "call ref" => refine stopped ?_
  k_steps
  unfold Stop
  have hsv := swap_form h01 h12 h2l (by assumption)
  obtain ⟨hsl, hsm, hs3, hsb⟩ := swap_facts hX hlen hnd hn2 hn58 h01 h12 h2l (by assumption)
  k_with_none
  k_steps)

end Mine
end
theorem PySem.Challenge.cw_fe0043_01_holds : PySem.Challenge.rw_fe0043_01.Holds := by
  exact Mine.law_holds
