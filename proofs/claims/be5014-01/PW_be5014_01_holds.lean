import PyProof.Rows.All
import Wide.All
import OpenK.AllK
import Wide.FinOn
import PySem.Challenge.RW_be5014_01
set_option Elab.async false

namespace Mine
section
open PySem PySem.W PyProof.Rows
set_option maxRecDepth 100000 in
set_option maxHeartbeats 8000000 in
open_top hd for PySem.Challenge.rw_be5014_01

end
end Mine

namespace Mine
section
open PySem PySem.W PySem.Calls PyProof.Rows PySem.Builtin PySem.Builtin._codecs
def utf8B (x : PySem.Str) : Array UInt8 := x.cps.foldl (fun acc y => acc ++ (PySem.Str.utf8Of y).toArray) #[]
theorem enc_tree (x : PySem.Str) (t u : Tok) : «str.encode» ⟨[.str x t, .str (PySem.Str.ofString "utf-8") u], []⟩ = (do ret (← encodeRoad "str.encode" (.str x t) x (PySem.Str.ofString "utf-8") none)) := by kernel_rfl
theorem two_turn {σ : Type} (n : Nat) (f : Nat → σ → Sem (ForInStep σ)) (s0 s1 : σ) (h0 : n = 0 → s0 = s1) (h1 : ∀ i, 0 < n → f i s0 = pure (.yield s1)) (h2 : ∀ i, f i s1 = pure (.done s1)) :
    (forIn [0:n] s0 f : Sem σ) = pure s1 := by
  rw [Std.Legacy.Range.forIn_eq_forIn_range']
  have e : (([0:n] : Std.Legacy.Range).size) = n := by simp [Std.Legacy.Range.size]
  rw [e]
  cases n with
  | zero => rw [h0 rfl]; rfl
  | succ n =>
    show (forIn (0 :: List.range' 1 n 1) s0 f : Sem σ) = _
    rw [List.forIn_cons, h1 0 (Nat.succ_pos _)]
    show (forIn (List.range' 1 n 1) s1 f : Sem σ) = _
    cases n with
    | zero => rfl
    | succ n =>
      show (forIn (1 :: List.range' 2 n 1) s1 f : Sem σ) = _
      rw [List.forIn_cons, h2 1]
      rfl
theorem two_turn_bind {σ β : Type} {n : Nat} {f : Nat → σ → Sem (ForInStep σ)} {s0 : σ} {k : σ → Sem β} (s1 : σ) (h0 : n = 0 → s0 = s1) (h1 : ∀ i, 0 < n → f i s0 = pure (.yield s1)) (h2 : ∀ i, f i s1 = pure (.done s1)) :
    ((forIn [0:n] s0 f : Sem σ) >>= k) = k s1 := by
  rw [two_turn n f s0 s1 h0 h1 h2]
  rfl
theorem enc_narrow (id : String) (self : Value) (x : PySem.Str) (hx : ∀ c ∈ x.cps, PySem.Str.isSurrogate c = false) (hl : (utf8B x).size ≤ sizeLine) :
    encodeNarrow id utf8Codec none self x = pure (utf8B x) := by
  unfold encodeNarrow
  refine (two_turn_bind ((x.cps.size, utf8B x, {}) : Nat × Array UInt8 × Faults) ?_ ?_ ?_).trans rfl
  · intro h
    have h' : x.cps = #[] := Array.size_eq_zero_iff.mp h
    unfold utf8B
    rw [h']
    rfl
  · intro i h
    have hs : ¬ ((#[] : Array UInt8).size > sizeLine) := by simp
    have h' : 0 < x.cps.size := h
    have h3 : x.cps[0]? = some x.cps[0] := Array.getElem?_eq_getElem h'
    have h4 : utf8Codec.bad x.cps[0] = false := hx _ (Array.getElem_mem _)
    have h5 : x.cps.extract 0 x.cps.size = x.cps := by simp
    have h6 : Array.findIdx? utf8Codec.bad x.cps = none := by
      rw [Array.findIdx?_eq_none_iff]
      intro c hc
      exact hx c hc
    simp only [if_neg hs, h3, h4, h5, h6]
    simp only [Bool.not_false, if_true, Option.getD_none, Nat.zero_add, h5]
    rfl
  · intro i
    have hs : ¬ ((utf8B x).size > sizeLine) := by omega
    have h3 : x.cps[x.cps.size]? = none := by simp
    simp only [if_neg hs, h3]
theorem encode {prog : Program} {w : World} {A : Around} {E : Value → Shared → Prop} {s : Shared} {x : PySem.Str} {t u : Tok} {Q : Value → Shared → Prop}
    (hx : ∀ c ∈ x.cps, PySem.Str.isSurrogate c = false) (hl : (utf8B x).size ≤ sizeLine)
    (h : ∀ t' k, Q (.bytes (utf8B x) t') { s with toks := k }) :
    wpAny (model prog w) A (call (.builtin "str.encode") [.str x t, .str (PySem.Str.ofString "utf-8") u]) Q E s := by
  have g : Meets («str.encode» ⟨[.str x t, .str (PySem.Str.ofString "utf-8") u], []⟩) (fun _ R s => ∀ t' k, R (.ok (.ret (.bytes (utf8B x) t'))) { s with toks := k }) := by
    refine .of_wp fun prog w A R s hS => ?_
    rw [enc_tree, encodeRoad_utf8, enc_narrow _ _ _ hx hl]
    refine wpAny_bind ?_
    refine wpAny_bind (wpAny_pure ?_)
    refine wpAny_mkBytes ?_ hl
    exact wpAny_pure ⟨_, rfl, hS _ _⟩
  exact call_meets F.slot_str_encode (typeIs_str _ _ _) F.entry_str_encode (F.args_str_encode_2 _ _) g h

end
end Mine

namespace Mine
section
open PySem PySem.W PySem.Calls PyProof.Rows PySem.Builtin
set_option maxRecDepth 100000 in
theorem encode_meth {M : Model} {A : Around} {E : Value → Shared → Prop} {s : Shared} {pl : Sem Bool} {x : PySem.Str} {t : Tok} {Q : Value × List Value → Shared → Prop} (h : Q (.builtin "str.encode", [.str x t]) s) :
    wpAny M A (getMethod (.str x t) (PySem.Str.ofString "encode") pl) Q E s :=
  getMethod_builtin (typeIs_str _ _ _) F.plainAttrs_str F.slot_str_encode F.type_str_encode (fun _ e => nomatch e) h

/-- the little-endian value of octets -/
def le (l : List Nat) : Nat := l.foldr (fun a r => a + 256 * r) 0
theorem le_nil : le [] = 0 := rfl
theorem le_cons (a : Nat) (r : List Nat) : le (a :: r) = a + 256 * le r := rfl
theorem le_lt : ∀ xs : List Nat, (∀ a ∈ xs, a < 256) → le xs < 256 ^ xs.length
  | [], _ => by simp [le_nil]
  | a :: r, h => by
    have h1 := le_lt r fun b hb => h b (List.mem_cons_of_mem _ hb)
    have h2 := h a List.mem_cons_self
    rw [le_cons, List.length_cons, Nat.pow_succ]
    omega
def octs (b : Array UInt8) : List Nat := b.toList.map UInt8.toNat
theorem horner (l : List UInt8) : ∀ a : Nat, (l.reverse.foldl (fun (acc : Int) (b : UInt8) => acc * 256 + (b.toNat : Int)) (a : Int)) = ((le (l.map UInt8.toNat) + 256 ^ l.length * a : Nat) : Int) := by
  induction l with
  | nil => intro a; simp [le_nil]
  | cons c r ih =>
    intro a
    rw [List.reverse_cons, List.foldl_append, ih, List.foldl_cons, List.foldl_nil, List.map_cons, le_cons, List.length_cons, Nat.pow_succ]
    have e : 256 ^ r.length * 256 * a = 256 * (256 ^ r.length * a) := by
      rw [Nat.mul_comm (256 ^ r.length) 256, Nat.mul_assoc]
    rw [e]
    generalize 256 ^ r.length * a = z
    omega
theorem octs_lt (b : Array UInt8) : le (octs b) < 256 ^ b.size := by
  have h := le_lt (octs b) (by
    intro a ha
    obtain ⟨c, _, rfl⟩ := List.mem_map.mp ha
    exact c.toNat_lt)
  have e : (octs b).length = b.size := by simp [octs]
  rw [e] at h
  exact h
section
variable {prog : Program} {w : World} {M : Model} {A : Around} {E : Value → Shared → Prop} {s : Shared} {b : Array UInt8} {t u : Tok}
theorem mk_grown {n : Nat} {Q : Value → Shared → Prop} (hn : n < 256 ^ 100) (h : Q (.int (n : Int) s.toks) { s with toks := s.toks + 1 }) : wpAny M A (mkIntGrown (n : Int)) Q E s := by
  have hb : ¬ ((n : Int).natAbs.log2 ≥ bitsLine) := by
    have e : bitsLine = 134217728 := by decide
    rw [Int.natAbs_natCast, e]
    intro hge
    have hz : n ≠ 0 := by
      intro h0
      rw [h0] at hge
      exact absurd hge (by decide)
    have h1 := (Nat.le_log2 hz).mp hge
    have h2 : (256 : Nat) ^ 100 = 2 ^ 800 := by
      rw [show (256 : Nat) = 2 ^ 8 from rfl, ← Nat.pow_mul]
    have h3 : 2 ^ 800 ≤ 2 ^ 134217728 := Nat.pow_le_pow_right (by decide) (by decide)
    rw [h2] at hn
    exact absurd (Nat.le_trans h3 h1) (Nat.not_le.mpr hn)
  unfold mkIntGrown
  rw [if_neg hb]
  exact wpAny_mkInt h
theorem fromLittle {P : Fin → Shared → Prop} (hl : b.size ≤ 100) (h : P (.done (.ret (.int ((le (octs b) : Nat) : Int) s.toks))) { s with toks := s.toks + 1 }) :
    wpAny M A (Builtin.«int.from_bytes» ⟨[.type "int", .bytes b t, .str (PySem.Str.ofString "little") u], []⟩) P E s := by
  have hlt : le (octs b) < 256 ^ 100 := Nat.lt_of_lt_of_le (octs_lt b) (Nat.pow_le_pow_right (by decide) hl)
  have hv : b.toList.reverse.foldl (fun (acc : Int) (c : UInt8) => acc * 256 + (c.toNat : Int)) ((0 : Nat) : Int) = ((le (octs b) : Nat) : Int) := by
    rw [horner, Nat.mul_zero, Nat.add_zero]
    rfl
  unfold Builtin.«int.from_bytes»
  refine wpAny_bind (wpAny_of_eq (a := true) KFB.type_int ?_)
  refine KFB.if_not rfl (wpAny_bind (wpAny_of_eq (a := true) F.conv_sub_int ?_))
  refine KFB.if_not rfl (wpAny_bind (wpAny_of_eq (a := [some (.bytes b t), some (.str (PySem.Str.ofString "little") u), none]) (by kernel_rfl) ?_))
  refine wpAny_bind (wpAny_of_eq (a := PySem.Str.ofString "little") (by kernel_rfl) ?_)
  refine wpAny_bind (wpAny_of_eq (a := false) rfl ?_)
  refine wpAny_bind (wpAny_of_eq (a := true) (by kernel_rfl) ?_)
  refine wpAny_bind (wpAny_of_eq (a := b) rfl ?_)
  show wpAny _ _ (mkIntGrown (b.toList.reverse.foldl (fun (acc : Int) (c : UInt8) => acc * 256 + (c.toNat : Int)) ((0 : Nat) : Int)) >>= fun v => _) _ _ _
  rw [hv]
  refine wpAny_bind (mk_grown hlt ?_)
  exact KFB.if_so (by decide +kernel) (wpAny_bind (wpAny_pure (wpAny_pure h)))
theorem call_little {h₀ : Heap} {L x : Addr} {news : List (Addr × Obj)} {Q : Value → Shared → Prop} (N : News h₀ L s.heap news) (hm : (x, KFB.bound) ∈ news) (hl : b.size ≤ 100)
    (h : ∀ t' k, Q (.int ((le (octs b) : Nat) : Int) t') { s with toks := k }) : wpAny (model prog w) A (call (.ref x) [.bytes b t, .str (PySem.Str.ofString "little") u]) Q E s :=
  KFB.call_of (KFB.at_of N hm) (fun z => fromLittle hl z) (h _ _)
end
theorem utf8B_list (x : PySem.Str) : (utf8B x).toList = x.cps.toList.flatMap PySem.Str.utf8Of := by
  have key : ∀ (l : List Nat) (acc : Array UInt8), (l.foldl (fun acc y => acc ++ (PySem.Str.utf8Of y).toArray) acc).toList = acc.toList ++ l.flatMap PySem.Str.utf8Of := by
    intro l
    induction l with
    | nil => intro acc; simp
    | cons c r ih => intro acc; rw [List.foldl_cons, ih, List.flatMap_cons]; simp
  have e : utf8B x = x.cps.toList.foldl (fun acc y => acc ++ (PySem.Str.utf8Of y).toArray) #[] := by
    unfold utf8B
    rw [Array.foldl_toList]
  rw [e, key]
  simp
theorem utf8Of_len (c : Nat) : (PySem.Str.utf8Of c).length ≤ 4 := by
  unfold PySem.Str.utf8Of
  repeat' split
  all_goals simp
theorem utf8B_size (x : PySem.Str) : (utf8B x).size ≤ 4 * x.length := by
  have e : (utf8B x).size = (x.cps.toList.flatMap PySem.Str.utf8Of).length := by rw [← utf8B_list]; simp
  have key : ∀ l : List Nat, (l.flatMap PySem.Str.utf8Of).length ≤ 4 * l.length := by
    intro l
    induction l with
    | nil => simp
    | cons c r ih =>
      rw [List.flatMap_cons, List.length_append, List.length_cons]
      have := utf8Of_len c
      omega
  have h := key x.cps.toList
  rw [Array.length_toList] at h
  rw [e]
  exact h
/-- a text that the law builds -/
def GoodText (x : PySem.Str) : Prop := (∀ c ∈ x.cps, PySem.Str.isSurrogate c = false) ∧ x.length ≤ 20
theorem GoodText.small {x : PySem.Str} (h : GoodText x) : (utf8B x).size ≤ 100 := Nat.le_trans (utf8B_size x) (by have := h.2; omega)
theorem GoodText.fits {x : PySem.Str} (h : GoodText x) : (utf8B x).size ≤ sizeLine := by rw [sizeLine_eq]; have := h.small; omega
@[irreducible] def hashV (x : PySem.Str) : Int := ((le (octs (utf8B x)) : Nat) : Int) % 2 ^ 63
theorem hashV_eq (x : PySem.Str) : Builtin.bitAnd ((le (octs (utf8B x)) : Nat) : Int) 9223372036854775807 = hashV x := by
  unfold hashV
  exact kbt_mask _ 63

end
end Mine

namespace Mine
section
open PySem PySem.W PySem.Calls PyProof.Rows
local macro_rules | `(tactic| walk_at "getMethod str") => `(tactic| (k_here; with_reducible refine encode_meth ?_))
local macro_rules | `(tactic| walk_at "call builtin:str.encode") => `(tactic| (k_here; (refine encode (And.left (by assumption : GoodText _)) (GoodText.fits (by assumption)) ?_); intro _ _))
local macro_rules | `(tactic| walk_at "call ref") => `(tactic| (k_here; (with_reducible show wpAny _ _ (call (Value.ref _) [Value.bytes _ _, Value.str _ _]) _ _ _); k_dflt (refine call_little (by k_asm) (by k_mem) (GoodText.small (by assumption)) ?_); intro _ _))
abbrev Tell (w : World) (f : Addr) (vs : List Value) (R : Tok → Value) : Prop :=
  ∀ (mean : ExcName → Option Value) (mg mb : PySem.Str → Option Value) (news : List (Addr × Obj)), CbClaim PySem.Challenge.rw_be5014_01.row.prog w (hd.heap_39 w.params) hd.view_39 (looseW hd.view_39 []) mean mg mb f news [] True vs R
set_option maxRecDepth 100000 in
set_option maxHeartbeats 8000000 in
theorem hash_tells (w : World) (x : PySem.Str) (t : Tok) (hx : GoodText x) : Tell w 21 [.str x t] (fun t => .int (hashV x) t) := by
  unfold Tell
  dsimp only [CbClaim, CbLists, CbRet]
  w_top off
  k_fill
  intros
  rename_i hret
  refine wpAny_call ?_
  k_dflt cell_enter
  k_steps
  all_goals (rw [hashV_eq]; cb_end hret)
theorem hash_use {w : World} {x : PySem.Str} {t : Tok} {mean : ExcName → Option Value} {mg mb : PySem.Str → Option Value} {news : List (Addr × Obj)} {dp un : Nat} {gd : Option (List Code)} {cn : PySem.Str} {cs : Scope} {a : Addr} {ccd : Value} {cl : List (PySem.Str × Addr)} {outer : List Env} {A₀ : Around} {base h₀ : Heap} {L : Addr} {m : PySem.Str → Option Value} {s : Shared} {Q E : Value → Shared → Prop}
    (B : Below A₀ base outer h₀) (F : Fr h₀ L s.heap m) (X : (hd.heap_39 w.params).In h₀) (N : News h₀ L s.heap news) (T : Top hd.view_39 (looseW hd.view_39 []) mean mg mb h₀) (hk : cs.kind = .function) (hd : dp + 1 < recursionLimit) (hu : un + 8 < cLine) (hx : GoodText x)
    (hret : CbRet h₀ L m news s Q (fun t => .int (hashV x) t)) : wpAny (model PySem.Challenge.rw_be5014_01.row.prog w) (ktrTop dp un gd cn cs L a ccd cl outer) (call (.ref 21) [.str x t]) Q E s :=
  hash_tells w x t hx mean mg mb news dp un gd cn cs a ccd cl outer A₀ base h₀ L m s Q E B F X N T hk trivial hd hu hret

end
end Mine

namespace Mine
section
open PySem PySem.W PySem.Calls PyProof.Rows
def lawSign (x : Int) : Int := if x.fmod 1114112 ≥ 55296 ∧ x.fmod 1114112 < 57344 then x.fmod 1114112 - 2048 else x.fmod 1114112
set_option maxRecDepth 100000 in
set_option maxHeartbeats 8000000 in
theorem sign_tells (w : World) (x : Int) (t : Tok) (hx : PySem.Builtin.Int.intBits x ≤ 2000000) : Tell w 35 [.int x t] (fun t => .int (lawSign x) t) := by
  unfold Tell
  dsimp only [CbClaim, CbLists, CbRet]
  w_top off
  k_fill
  intros
  rename_i hret
  refine wpAny_call ?_
  k_dflt cell_enter
  k_steps
  all_goals (unfold lawSign at hret; cb_end hret)
theorem sign_use {w : World} {x : Int} {t : Tok} {mean : ExcName → Option Value} {mg mb : PySem.Str → Option Value} {news : List (Addr × Obj)} {dp un : Nat} {gd : Option (List Code)} {cn : PySem.Str} {cs : Scope} {a : Addr} {ccd : Value} {cl : List (PySem.Str × Addr)} {outer : List Env} {A₀ : Around} {base h₀ : Heap} {L : Addr} {m : PySem.Str → Option Value} {s : Shared} {Q E : Value → Shared → Prop}
    (B : Below A₀ base outer h₀) (F : Fr h₀ L s.heap m) (X : (hd.heap_39 w.params).In h₀) (N : News h₀ L s.heap news) (T : Top hd.view_39 (looseW hd.view_39 []) mean mg mb h₀) (hk : cs.kind = .function) (hd : dp + 1 < recursionLimit) (hu : un + 8 < cLine) (hx : PySem.Builtin.Int.intBits x ≤ 2000000)
    (hret : CbRet h₀ L m news s Q (fun t => .int (lawSign x) t)) : wpAny (model PySem.Challenge.rw_be5014_01.row.prog w) (ktrTop dp un gd cn cs L a ccd cl outer) (call (.ref 35) [.int x t]) Q E s :=
  sign_tells w x t hx mean mg mb news dp un gd cn cs a ccd cl outer A₀ base h₀ L m s Q E B F X N T hk trivial hd hu hret

end
end Mine

namespace Mine
section
open PySem PySem.W PySem.Calls PyProof.Rows
def lawOct (x : Int) : List Int :=
  if x < 128 then [x] else if x < 2048 then [192 + x.fdiv 64, 128 + x.fmod 64]
  else if x < 65536 then [224 + x.fdiv 4096, 128 + (x.fdiv 64).fmod 64, 128 + x.fmod 64]
  else [240 + x.fdiv 262144, 128 + (x.fdiv 4096).fmod 64, 128 + (x.fdiv 64).fmod 64, 128 + x.fmod 64]
theorem oct1 {x : Int} {a : Tok} (h : x < 128) : IntsAre [.int x a] (lawOct x) := by
  unfold lawOct
  rw [if_pos h]
  exact .cons _ _ .nil
theorem oct2 {x : Int} {a b : Tok} (h : ¬ x < 128) (h2 : x < 2048) : IntsAre [.int (192 + x.fdiv 64) a, .int (128 + x.fmod 64) b] (lawOct x) := by
  unfold lawOct
  rw [if_neg h, if_pos h2]
  exact .cons _ _ (.cons _ _ .nil)
theorem oct3 {x : Int} {a b c : Tok} (h : ¬ x < 128) (h2 : ¬ x < 2048) (h3 : x < 65536) : IntsAre [.int (224 + x.fdiv 4096) a, .int (128 + (x.fdiv 64).fmod 64) b, .int (128 + x.fmod 64) c] (lawOct x) := by
  unfold lawOct
  rw [if_neg h, if_neg h2, if_pos h3]
  exact .cons _ _ (.cons _ _ (.cons _ _ .nil))
theorem oct4 {x : Int} {a b c d : Tok} (h : ¬ x < 128) (h2 : ¬ x < 2048) (h3 : ¬ x < 65536) : IntsAre [.int (240 + x.fdiv 262144) a, .int (128 + (x.fdiv 4096).fmod 64) b, .int (128 + (x.fdiv 64).fmod 64) c, .int (128 + x.fmod 64) d] (lawOct x) := by
  unfold lawOct
  rw [if_neg h, if_neg h2, if_neg h3]
  exact .cons _ _ (.cons _ _ (.cons _ _ (.cons _ _ .nil)))
abbrev OctRet (h₀ : Heap) (L : Addr) (m : PySem.Str → Option Value) (news : List (Addr × Obj)) (s : Shared) (Q : Value → Shared → Prop) (ns : List Int) : Prop :=
  ∀ (l : Addr) (vs : List Value) (n : Nat) (h' : Heap) (tk' : Nat), IntsAre vs ns → Fr h₀ L h' m → News h₀ L h' ((l, listOf vs.toArray n) :: news) → (∀ p ∈ news, p.1 < l) → Q (.ref l) { s with heap := h', toks := tk' }
theorem oct_ret {h₀ h' : Heap} {L l : Addr} {m : PySem.Str → Option Value} {news : List (Addr × Obj)} {s : Shared} {Q : Value → Shared → Prop} {ns : List Int} {vs : List Value} {n tk' : Nat} (hret : OctRet h₀ L m news s Q ns)
    (N : News h₀ L h' ((l, listOf vs.toArray n) :: news)) (F : Fr h₀ L h' m) (l1 : ∀ p ∈ news, p.1 < l) (hi : IntsAre vs ns) : Q (.ref l) { s with heap := h', toks := tk' } := hret l vs n h' tk' hi F N l1
abbrev OctTells (w : World) (x : Int) (t : Tok) : Prop :=
  ∀ (mean : ExcName → Option Value) (mg mb : PySem.Str → Option Value) (news : List (Addr × Obj))
   (dp un : Nat) (gd : Option (List Code)) (cn : PySem.Str) (cs : Scope) (a : Addr) (ccd : Value) (cl : List (PySem.Str × Addr)) (outer : List Env) (A₀ : Around) (base h₀ : Heap) (L : Addr) (m : PySem.Str → Option Value) (s : Shared) (Q E : Value → Shared → Prop),
    Below A₀ base outer h₀ → Fr h₀ L s.heap m → (hd.heap_39 w.params).In h₀ → News h₀ L s.heap news → Top hd.view_39 (looseW hd.view_39 []) mean mg mb h₀ → cs.kind = .function → dp + 1 < recursionLimit → un + 8 < cLine →
    OctRet h₀ L m news s Q (lawOct x) → wpAny (model PySem.Challenge.rw_be5014_01.row.prog w) (ktrTop dp un gd cn cs L a ccd cl outer) (call (.ref 28) [.int x t]) Q E s
set_option maxRecDepth 100000 in
set_option maxHeartbeats 8000000 in
theorem octets_tells (w : World) (x : Int) (t : Tok) (h0 : 0 ≤ x) (h1 : x < 1114112) : OctTells w x t := by
  dsimp only [OctTells, OctRet]
  w_top off
  k_fill
  intros
  rename_i hret
  refine wpAny_call ?_
  k_dflt cell_enter
  k_steps
  all_goals (simp only [decide_eq_true_eq, decide_eq_false_iff_not] at *)
  all_goals exact oct_ret hret (by assumption) (by assumption) (by assumption) (by first
    | exact oct1 (by assumption)
    | exact oct2 (by assumption) (by assumption)
    | exact oct3 (by assumption) (by assumption) (by assumption)
    | exact oct4 (by assumption) (by assumption) (by assumption))
theorem octets_use {w : World} {x : Int} {t : Tok} {mean : ExcName → Option Value} {mg mb : PySem.Str → Option Value} {news : List (Addr × Obj)} {dp un : Nat} {gd : Option (List Code)} {cn : PySem.Str} {cs : Scope} {a : Addr} {ccd : Value} {cl : List (PySem.Str × Addr)} {outer : List Env} {A₀ : Around} {base h₀ : Heap} {L : Addr} {m : PySem.Str → Option Value} {s : Shared} {Q E : Value → Shared → Prop}
    (B : Below A₀ base outer h₀) (F : Fr h₀ L s.heap m) (X : (hd.heap_39 w.params).In h₀) (N : News h₀ L s.heap news) (T : Top hd.view_39 (looseW hd.view_39 []) mean mg mb h₀) (hk : cs.kind = .function) (hd : dp + 1 < recursionLimit) (hu : un + 8 < cLine) (h0 : 0 ≤ x) (h1 : x < 1114112)
    (hret : OctRet h₀ L m news s Q (lawOct x)) : wpAny (model PySem.Challenge.rw_be5014_01.row.prog w) (ktrTop dp un gd cn cs L a ccd cl outer) (call (.ref 28) [.int x t]) Q E s :=
  octets_tells w x t h0 h1 mean mg mb news dp un gd cn cs a ccd cl outer A₀ base h₀ L m s Q E B F X N T hk hd hu hret

end
end Mine

namespace Mine
section
set_option maxRecDepth 100000
open PySem PySem.W PySem.Calls PyProof.Rows
section
variable {prog : Program} {w : World} {A : Around} {E : Value → Shared → Prop} {s : Shared} {env : Env} {h₀ : Heap} {x : PySem.Str} {body : List Stmt} {Q : Flow → Shared → Prop}
/-- the end of a turn of a loop whose ledger may change its places -/
def TurnEnd (h₀ : Heap) (L : Addr) (J : (PySem.Str → Option Value) → List (Addr × Obj) → Prop) (o : Addr × Obj) (s₁ : Shared) (f : Flow) (s₂ : Shared) : Prop :=
  f = .next ∧ ∃ h' tk' m' nx, s₂ = { s₁ with heap := h', toks := tk' } ∧ Fr h₀ L h' m' ∧ News h₀ L h' (o :: nx) ∧ (∀ p ∈ nx, p.1 ≠ o.1) ∧ J m' nx
theorem iter_free {l : Addr} {vs : List Value} {ns : List Int} {nn : Nat} {m₀ : PySem.Str → Option Value} {news : List (Addr × Obj)} (J : Nat → (PySem.Str → Option Value) → List (Addr × Obj) → Prop)
    (hh : A.handled = none) (hl : (l, listOf vs.toArray nn) ∈ news) (hi : IntsAre vs ns) (F : Fr h₀ env.locals s.heap m₀) (N : News h₀ env.locals s.heap news) (hj : J 0 m₀ news)
    (hkeep : ∀ i m nx, J i m nx → (l, listOf vs.toArray nn) ∈ nx)
    (turn : ∀ i n t m₁ nx h tk I oI, ns[i]? = some n → (∀ p ∈ nx, p.1 ≠ I) → J i m₁ nx → Fr h₀ env.locals h (fun y => if y = x then some (.int n t) else m₁ y) → News h₀ env.locals h ((I, oI) :: nx) →
      wpAny (model prog w) A (execs body env) (TurnEnd h₀ env.locals (J (i + 1)) (I, oI) { s with heap := h, toks := tk }) E { s with heap := h, toks := tk })
    (done : ∀ m₁ nx h tk, J ns.length m₁ nx → Fr h₀ env.locals h m₁ → News h₀ env.locals h nx → Q .next { s with heap := h, toks := tk }) :
    wpAny (model prog w) A (pyIter (.ref l)) (fun it s₂ => LoopAtV prog w A h₀ env x body Q E it s₂) E s := by
  have hol : s.heap.get? l = some (listOf vs.toArray nn) := (N _ hl).1
  have hls : s.heap.IsList l vs.toArray := ⟨_, hol, rfl, nn, rfl⟩
  have hne : l ≠ s.heap.objs.size := Nat.ne_of_lt (Heap.lt_size hol)
  have hlL : l ≠ env.locals := (N _ hl).2.1
  refine wpAny_pyIter_list hls ?_
  have W := Walks.list (prog := prog) (w := w) hh s.heap.objs.size l hne vs.toArray
  have hlen : vs.toArray.size = ns.length := by simp [hi.length]
  rw [hlen] at W
  refine ⟨s.heap.objs.size, _, _, ns.length, _, _, m₀, news, J, rfl, W, ?_, ?_, ?_, ⟨⟨_, Heap.get?_push_size _ rfl, rfl, rfl⟩, hls.at fun o e => Heap.get?_push_of_some _ e⟩, F.push _, (fun p hp => ⟨Heap.get?_push_of_some _ (N p hp).1, (N p hp).2⟩), hj, ?_, ?_⟩
  · intro hm
    rcases List.mem_cons.mp hm with e | hm
    · exact absurd F.ns.lt (e ▸ Nat.lt_irrefl _)
    · exact hlL (List.mem_singleton.mp hm).symm
  · intro b hb
    rw [List.mem_singleton.mp hb]
    exact next_is_new F
  · intro p hp hI
    exact absurd (Heap.lt_size (N p hp).1) ((List.mem_singleton.mp hI) ▸ Nat.lt_irrefl _)
  · rintro i v m₁ nx s₁ own ⟨h, tk, rfl⟩ hin hP hJ hoff hown hget hfp hst F₁ N₁
    have hlt : i < ns.length := hin
    obtain ⟨t, hx⟩ := hi.get i ns[i] (by simp [hlt])
    have hv : v = .int ns[i] t := by
      have hP' : vs[i]? = some v := by simpa using hP
      rw [hx] at hP'
      exact (Option.some.inj hP').symm
    subst hv
    obtain ⟨⟨oI, hoI, _, _⟩, _⟩ := id hst
    have hIn : (s.heap.objs.size, oI) ∈ own := hfp _ List.mem_cons_self (next_is_new F) oI hoI
    have hoffI : ∀ p ∈ nx, p.1 ≠ s.heap.objs.size := fun p hp e => hoff p hp (List.mem_singleton.mpr e)
    have hlo : (l, listOf vs.toArray nn) ∈ nx := hkeep _ _ _ hJ
    have N₂ : News h₀ env.locals h ((s.heap.objs.size, oI) :: nx) := fun p hp => by
      rcases List.mem_cons.mp hp with rfl | hp
      · exact N₁ _ (List.mem_append.mpr (.inl hIn))
      · exact N₁ _ (List.mem_append.mpr (.inr hp))
    refine wpAny_mono (turn i ns[i] t m₁ nx h tk s.heap.objs.size oI (by simp [hlt]) hoffI hJ F₁ N₂) (fun f s₂ p => ?_) fun _ _ e => e
    obtain ⟨rfl, h', tk', m', nx', rfl, F', N', hoff', hJ'⟩ := p
    refine .next ⟨rfl, h', tk', m', nx', rfl, F', ?_, ?_, hJ'⟩
    · intro p hp
      rcases List.mem_append.mp hp with hp | hp
      · rcases List.mem_cons.mp (hown p hp) with e | e
        · have h1 := hget p hp
          rw [e] at h1
          have h2 : oI = p.2 := Option.some.inj (hoI.symm.trans h1)
          have h3 : p = (s.heap.objs.size, oI) := by rw [h2, ← e]
          rw [h3]
          exact N' _ List.mem_cons_self
        · have e' := List.mem_singleton.mp e
          have h1 := hget p hp
          have h0 := (N₁ _ (List.mem_append.mpr (.inr hlo))).1
          rw [e'] at h1
          have h2 : listOf vs.toArray nn = p.2 := Option.some.inj (h0.symm.trans h1)
          have h3 : p = (l, listOf vs.toArray nn) := by rw [h2, ← e']
          rw [h3]
          exact N' _ (List.mem_cons_of_mem _ (hkeep _ _ _ hJ'))
      · exact N' _ (List.mem_cons_of_mem _ hp)
    · intro p hp hb
      exact hoff' p hp (List.mem_singleton.mp hb)
  · rintro h' tk' m' nx' F' N' _ hJ
    exact done m' nx' h' tk' hJ F' N'
end

end
end Mine

namespace Mine
section
set_option maxRecDepth 100000
open PySem PySem.W PySem.Calls PyProof.Rows
section
variable {prog : Program} {w : World} {A : Around} {E : Value → Shared → Prop} {s : Shared} {env : Env} {h₀ : Heap} {x y : PySem.Str} {body : List Stmt} {Q : Flow → Shared → Prop}
/-- the end of a turn of a loop over a range that keeps one int -/
def SumEnd (h₀ : Heap) (L : Addr) (x y : PySem.Str) (m₀ : PySem.Str → Option Value) (news : List (Addr × Obj)) (own : List (Addr × Obj)) (P : Int → Prop) (s₁ : Shared) (f : Flow) (s₂ : Shared) : Prop :=
  f = .next ∧ ∃ (h' : Heap) (tk' : Nat) (a : Int) (ta : Tok) (vx : Option Value), s₂ = { s₁ with heap := h', toks := tk' } ∧ P a ∧ Fr h₀ L h' (fun z => if z = y then some (.int a ta) else if z = x then vx else m₀ z) ∧ News h₀ L h' (news ++ own)
theorem range_sum {r : Addr} {b₀ : Int} {t₀ u₀ v₀ a₁ : Tok} {a₀ : Int} {n : Nat} {m₀ : PySem.Str → Option Value} {news : List (Addr × Obj)} (P : Nat → Int → Prop) (hxy : y ≠ x)
    (hh : A.handled = none) (hr : IsRange s.heap r 0 b₀ 1 t₀ u₀ v₀) (hsmall : Builtin.Range.small 0 b₀ 1 = true) (hn : Builtin.Range.rangeSize 0 b₀ 1 = (n : Int)) (F : Fr h₀ env.locals s.heap m₀) (N : News h₀ env.locals s.heap news) (hy : m₀ y = some (.int a₀ a₁)) (hp : P 0 a₀)
    (turn : ∀ i a ta t h tk own, i < n → P i a → OwnOff own (news.map (·.1)) → Fr h₀ env.locals h (fun z => if z = x then some (.int (i : Int) t) else if z = y then some (.int a ta) else m₀ z) → News h₀ env.locals h (news ++ own) →
      wpAny (model prog w) A (execs body env) (SumEnd h₀ env.locals x y m₀ news own (P (i + 1)) { s with heap := h, toks := tk }) E { s with heap := h, toks := tk })
    (done : ∀ a ta (vx : Option Value) h tk, P n a → Fr h₀ env.locals h (fun z => if z = y then some (.int a ta) else if z = x then vx else m₀ z) → News h₀ env.locals h news → Q .next { s with heap := h, toks := tk }) :
    wpAny (model prog w) A (pyIter (.ref r)) (fun it s₂ => LoopAtV prog w A h₀ env x body Q E it s₂) E s := by
  refine kst_range (σ := Int × Tok) (fun _ => news) (fun c => [(y, .int c.1 c.2)]) (fun _ => True) [y] (fun pre c => P pre.length c.1) (a₀, a₁) hh hr hsmall hn F N trivial ?_ hp ?_ ?_
  · intro p hp'
    rw [List.mem_singleton.mp hp']
    exact hy
  · intro c pre k t u h tk own hk hlt hoff _ hP F₁ N₁
    have hk' : k = ((pre.length : Nat) : Int) := by omega
    subst hk'
    have e : (fun z => if z = x then some (Value.int ((pre.length : Nat) : Int) t) else kstB (fun z => if [y].contains z then u z else m₀ z) [(y, .int c.1 c.2)] z) = fun z => if z = x then some (Value.int ((pre.length : Nat) : Int) t) else if z = y then some (.int c.1 c.2) else m₀ z := by
      funext z
      by_cases h1 : z = x
      · rw [if_pos h1, if_pos h1]
      · rw [if_neg h1, if_neg h1]
        by_cases h2 : z = y
        · simp [kstB, h2]
        · simp [kstB, h2]
    rw [e] at F₁
    refine wpAny_mono (turn pre.length c.1 c.2 t h tk own hlt hP hoff F₁ N₁) (fun f s₂ p => ?_) fun _ _ e => e
    obtain ⟨rfl, h', tk', a', ta', vx, rfl, hP', F', N'⟩ := p
    refine ⟨h', tk', _, _, news, rfl, F', N', fun p hp => List.mem_append_left _ hp, fun p hp => List.mem_append_right _ hp, rfl, (a', ta'), rfl, trivial, ?_, ?_, ?_⟩
    · intro p hp'
      rw [List.mem_singleton.mp hp']
      exact if_pos rfl
    · intro z h1 h2 _
      have h3 : z ≠ y := h2 _ (List.mem_singleton.mpr rfl)
      show (if z = y then _ else if z = x then vx else m₀ z) = m₀ z
      rw [if_neg h3, if_neg h1]
    · show P (pre ++ [((pre.length : Nat) : Int)]).length a'
      rw [List.length_append]
      exact hP'
  · intro c u h tk _ hP F₁ N₁
    rw [rangeKs_length] at hP
    refine done c.1 c.2 (u x) h tk hP ?_ N₁
    have e : (fun z => if z = x then u z else kstB (fun z => if [y].contains z then u z else m₀ z) [(y, .int c.1 c.2)] z) = fun z => if z = y then some (.int c.1 c.2) else if z = x then u x else m₀ z := by
      funext z
      by_cases h2 : z = y
      · rw [if_pos h2, h2, if_neg hxy]
        simp [kstB]
      · rw [if_neg h2]
        by_cases h1 : z = x
        · rw [if_pos h1, if_pos h1, h1]
        · rw [if_neg h1, if_neg h1]
          simp [kstB, h2]
    rw [e] at F₁
    exact F₁
end

end
end Mine

namespace Mine
section
set_option maxRecDepth 100000
open PySem PySem.W PySem.Calls PyProof.Rows
/-- the little-endian value of ints -/
def leI (l : List Int) : Int := l.foldr (fun a r => a + 256 * r) 0
theorem leI_nil : leI [] = 0 := rfl
theorem leI_cons (a : Int) (r : List Int) : leI (a :: r) = a + 256 * leI r := rfl
theorem leI_append (xs ys : List Int) : leI (xs ++ ys) = leI xs + 256 ^ xs.length * leI ys := by
  induction xs with
  | nil => simp [leI_nil]
  | cons a r ih =>
    rw [List.cons_append, leI_cons, ih, leI_cons, List.length_cons, Int.pow_succ, Int.mul_add, ← Int.mul_assoc, Int.mul_comm 256 (256 ^ r.length)]
    omega
theorem leI_step {os : List Int} {i : Nat} (h : i < os.length) : leI (os.take (i + 1)) = leI (os.take i) + os.getD i 0 * 256 ^ i := by
  have h1 : os.take (i + 1) = os.take i ++ [os[i]] := by
    rw [List.take_add_one, List.getElem?_eq_getElem h]
    rfl
  have h2 : os.getD i 0 = os[i] := by
    rw [List.getD_eq_getElem?_getD, List.getElem?_eq_getElem h]
    rfl
  have h3 : (os.take i).length = i := by rw [List.length_take]; omega
  rw [h1, leI_append, h3, h2, leI_cons, leI_nil, Int.mul_zero, Int.add_zero, Int.mul_comm]
section
variable {prog : Program} {w : World} {A : Around} {E : Value → Shared → Prop} {s : Shared} {env : Env} {h₀ : Heap} {x y : PySem.Str} {body : List Stmt} {Q : Flow → Shared → Prop}
def LeEnd (h₀ : Heap) (L : Addr) (x y : PySem.Str) (m₀ : PySem.Str → Option Value) (news : List (Addr × Obj)) (own : List (Addr × Obj)) (os : List Int) (i : Nat) (s₁ : Shared) (f : Flow) (s₂ : Shared) : Prop :=
  SumEnd h₀ L x y m₀ news own (fun a => a = leI (os.take (i + 1))) s₁ f s₂
theorem LeEnd.intro {L : Addr} {m₀ m' : PySem.Str → Option Value} {news own : List (Addr × Obj)} {os : List Int} {i : Nat} {s₁ : Shared} {h' : Heap} {tk' : Nat} {a : Int} {ta : Tok} {vx : Option Value} (F : Fr h₀ L h' m') (N : News h₀ L h' (news ++ own))
    (em : m' = fun z => if z = y then some (.int a ta) else if z = x then vx else m₀ z) (hP : a = leI (os.take (i + 1))) : LeEnd h₀ L x y m₀ news own os i s₁ .next { s₁ with heap := h', toks := tk' } := by
  subst em
  exact ⟨rfl, h', tk', a, ta, vx, rfl, hP, F, N⟩
theorem le_map {A B C : Option Value} {m₀ : PySem.Str → Option Value} : (fun z => if z = y then A else if z = x then B else if z = y then C else m₀ z) = fun z => if z = y then A else if z = x then B else m₀ z := by
  funext z
  by_cases h1 : z = y
  · simp only [h1, if_true]
  · simp only [h1, if_false]
theorem range_le {r : Addr} {os : List Int} {t₀ u₀ v₀ a₁ : Tok} {m₀ : PySem.Str → Option Value} {news : List (Addr × Obj)} (hxy : y ≠ x)
    (hh : A.handled = none) (hr : IsRange s.heap r 0 ((os.length : Nat) : Int) 1 t₀ u₀ v₀) (hos : os.length ≤ 100) (F : Fr h₀ env.locals s.heap m₀) (N : News h₀ env.locals s.heap news) (hy : m₀ y = some (.int 0 a₁))
    (turn : ∀ (i : Nat) a ta t h tk own, i < os.length → (0 : Int) ≤ (i : Int) → (i : Int) < os.length → (i : Int) ≤ 100 → a = leI (os.take i) → OwnOff own (news.map (·.1)) → Fr h₀ env.locals h (fun z => if z = x then some (.int (i : Int) t) else if z = y then some (.int a ta) else m₀ z) → News h₀ env.locals h (news ++ own) →
      wpAny (model prog w) A (execs body env) (LeEnd h₀ env.locals x y m₀ news own os i { s with heap := h, toks := tk }) E { s with heap := h, toks := tk })
    (done : ∀ a ta (vx : Option Value) h tk, a = leI os → Fr h₀ env.locals h (fun z => if z = y then some (.int a ta) else if z = x then vx else m₀ z) → News h₀ env.locals h news → Q .next { s with heap := h, toks := tk }) :
    wpAny (model prog w) A (pyIter (.ref r)) (fun it s₂ => LoopAtV prog w A h₀ env x body Q E it s₂) E s := by
  refine range_sum (fun i a => a = leI (os.take i)) hxy hh hr (small_one (by omega) (by omega) (by omega) (by omega)) ((rangeSize_nat _ _).trans (by simp)) (n := os.length) F N hy rfl ?_ ?_
  · intro i a ta t h tk own hi hP hoff F₁ N₁
    exact turn i a ta t h tk own hi (by omega) (by omega) (by omega) hP hoff F₁ N₁
  · intro a ta vx h tk hP F₁ N₁
    rw [List.take_length] at hP
    exact done a ta vx h tk hP F₁ N₁
end

end
end Mine

namespace Mine
section
open PySem PySem.W PySem.Calls PyProof.Rows
abbrev LTells (w : World) (f : Addr) (ns : List Int) (kd ku : Nat) (R : Tok → Value) : Prop :=
  ∀ (mean : ExcName → Option Value) (mg mb : PySem.Str → Option Value) (news : List (Addr × Obj)) (l : Addr) (vs : List Value) (nn : Nat)
   (dp un : Nat) (gd : Option (List Code)) (cn : PySem.Str) (cs : Scope) (a : Addr) (ccd : Value) (cl : List (PySem.Str × Addr)) (outer : List Env) (A₀ : Around) (base h₀ : Heap) (L : Addr) (m : PySem.Str → Option Value) (s : Shared) (Q E : Value → Shared → Prop),
    Below A₀ base outer h₀ → Fr h₀ L s.heap m → (hd.heap_39 w.params).In h₀ → News h₀ L s.heap news → Top hd.view_39 (looseW hd.view_39 []) mean mg mb h₀ → cs.kind = .function → dp + kd < recursionLimit → un + ku < cLine →
    (l, listOf vs.toArray nn) ∈ news → IntsAre vs ns →
    CbRet h₀ L m news s Q R → wpAny (model PySem.Challenge.rw_be5014_01.row.prog w) (ktrTop dp un gd cn cs L a ccd cl outer) (call (.ref f) [.ref l]) Q E s
local macro_rules | `(tactic| walk_at "call ref") => `(tactic| (k_here; (with_reducible show wpAny _ _ (call (Value.ref 28) [Value.int _ _]) _ _ _); k_dflt (refine' octets_use ?k1 ?k2 ?k3 ?k4 ?k5 ?kK ?kd ?ku ?o0 ?o1 ?_; (case k1 => k_asm); (case k2 => k_asm); (case k3 => k_asm); (case k4 => k_asm); (case k5 => k_asm); (case kK => first | exact rfl | assumption); (case kd => ktr_room); (case ku => ktr_units); (case o0 => omega); (case o1 => omega); intro lN vsN nN h' tk' iN F' N' l1)))
def Stop (P : Prop) : Prop := P
theorem stop_here {P : Prop} (h : Stop P) : P := h
local macro_rules | `(tactic| walk_at "pyIter ref") => `(tactic| ((rename IsRange _ _ _ _ _ _ _ _ => R9); refine stop_here ?_))
def numV (ns : List Int) : Int := (leI (ns.flatMap lawOct)) % 2 ^ 63
theorem numV_eq (ns : List Int) : (leI (ns.flatMap lawOct)).fmod (2 ^ Int.toNat 63) = numV ns := by
  unfold numV
  exact Int.fmod_eq_emod_of_nonneg _ (by decide)
theorem lawOct_octet {x : Int} (h0 : 0 ≤ x) (h1 : x < 1114112) : ∀ o ∈ lawOct x, 0 ≤ o ∧ o < 256 := by
  have hm : x.fmod 64 = x % 64 := Int.fmod_eq_emod_of_nonneg x (by decide)
  have hd1 : x.fdiv 64 = x / 64 := Int.fdiv_eq_ediv_of_nonneg x (by decide)
  have hd2 : x.fdiv 4096 = x / 4096 := Int.fdiv_eq_ediv_of_nonneg x (by decide)
  have hd3 : x.fdiv 262144 = x / 262144 := Int.fdiv_eq_ediv_of_nonneg x (by decide)
  have hm1 : (x / 64).fmod 64 = x / 64 % 64 := Int.fmod_eq_emod_of_nonneg _ (by decide)
  have hm2 : (x / 4096).fmod 64 = x / 4096 % 64 := Int.fmod_eq_emod_of_nonneg _ (by decide)
  unfold lawOct
  rw [hm, hd1, hd2, hd3, hm1, hm2]
  intro o ho
  split at ho
  · simp only [List.mem_cons, List.not_mem_nil, or_false] at ho; omega
  split at ho
  · simp only [List.mem_cons, List.not_mem_nil, or_false] at ho; omega
  split at ho
  · simp only [List.mem_cons, List.not_mem_nil, or_false] at ho; omega
  · simp only [List.mem_cons, List.not_mem_nil, or_false] at ho; omega
theorem flat_octet (ns : List Int) (h0 : ∀ x ∈ ns, 0 ≤ x ∧ x < 1114112) : ∀ o ∈ ns.flatMap lawOct, 0 ≤ o ∧ o < 256 := by
  intro o ho
  obtain ⟨x, hx, hxo⟩ := List.mem_flatMap.mp ho
  exact lawOct_octet (h0 x hx).1 (h0 x hx).2 o hxo
theorem octet_bits {os : List Int} (h : ∀ o ∈ os, 0 ≤ o ∧ o < 256) (k : Nat) : PySem.Builtin.Int.intBits (os.getD k 0) ≤ 64 := by
  have hb : 0 ≤ os.getD k 0 ∧ os.getD k 0 < 256 := by
    rw [List.getD_eq_getElem?_getD]
    cases hk : os[k]? with
    | none => exact ⟨by decide, by decide⟩
    | some o => exact h o (List.mem_of_getElem? hk)
  exact intBits_le_64 (by omega) (by omega)
theorem lawOct_len (x : Int) : (lawOct x).length ≤ 4 := by
  unfold lawOct
  repeat' split
  all_goals simp
theorem flat_len : ∀ ns : List Int, (ns.flatMap lawOct).length ≤ 4 * ns.length
  | [] => by simp
  | n :: r => by
    rw [List.flatMap_cons, List.length_append, List.length_cons]
    have := lawOct_len n
    have := flat_len r
    omega
set_option maxRecDepth 100000 in
set_option maxHeartbeats 8000000 in
theorem number_tells (w : World) (ns : List Int) (h0 : ∀ x ∈ ns, 0 ≤ x ∧ x < 1114112) (hn : ns.length ≤ 20) : LTells w 42 ns 2 16 (fun t => .int (numV ns) t) := by
  dsimp only [LTells, CbRet]
  w_top off
  k_fill
  intro mean mg mb news l vs nn
  intros
  rename_i hm hi hret
  refine wpAny_call ?_
  k_dflt cell_enter
  k_steps
  refine iter_free (nn := nn) (fun i m' nx => ∃ lo vs' n', nx = (lo, listOf vs'.toArray n') :: news ∧ IntsAre vs' ((ns.take i).flatMap lawOct) ∧ m' (PySem.Str.ofString "octets") = some (.ref lo)) rfl ?hl (by assumption) (by assumption) (by assumption) ?J0 ?keep ?turn ?done
  case hl => exact List.mem_cons_of_mem _ (by assumption)
  case J0 => exact ⟨_, [], 0, rfl, .nil, rfl⟩
  case keep =>
    rintro i m' nx ⟨lo, vs', n', rfl, _, _⟩
    exact List.mem_cons_of_mem _ (by assumption)
  case turn =>
    rintro i n t m₁ nx h tk I oI hin hoff ⟨lo, vs', n', rfl, hvs, hmo⟩ F₁ N₁
    have hb := h0 n (List.mem_of_getElem? hin)
    have e : (fun y => if y = PySem.Str.ofString "sign" then some (Value.int n t) else m₁ y) = fun y => if y = PySem.Str.ofString "sign" then some (Value.int n t) else if y = PySem.Str.ofString "octets" then some (.ref lo) else m₁ y := by
      funext y
      by_cases h1 : y = PySem.Str.ofString "sign"
      · rw [if_pos h1, if_pos h1]
      · rw [if_neg h1, if_neg h1]
        by_cases h2 : y = PySem.Str.ofString "octets"
        · rw [if_pos h2, h2, hmo]
        · rw [if_neg h2]
    rw [e] at F₁
    clear e
    k_steps
    refine' kmk_add_ints (vs := vs') (ns := (ns.take i).flatMap lawOct) ?F ?N ?a ?b ?i ?j ?_ ?z
    case F => assumption
    case N => assumption
    case a => kmk_list
    case b => kmk_list
    case i => assumption
    case j => assumption
    case z =>
      rw [sizeLine_eq]
      have := flat_len (ns.take i)
      have := lawOct_len n
      have : (ns.take i).length ≤ ns.length := List.length_take_le' i ns
      omega
    intro D us h'' F' N' l1 hI
    k_steps
    rename Fr _ _ _ _ => Fz
    rename News _ _ _ _ => Nz
    refine ⟨rfl, _, _, _, (D, listOf us.toArray 0) :: news, rfl, Fz, ?_, ?_, D, us, 0, rfl, ?_, if_pos rfl⟩
    · intro p hp
      rcases List.mem_cons.mp hp with rfl | hp
      · exact Nz _ (.tail _ (.tail _ (.head _)))
      · rcases List.mem_cons.mp hp with rfl | hp
        · exact Nz _ (.head _)
        · exact Nz _ (.tail _ (.tail _ (.tail _ (.tail _ hp))))
    · intro p hp
      rcases List.mem_cons.mp hp with rfl | hp
      · exact (Nat.ne_of_lt (l1 (I, oI) (.tail _ (.head _)))).symm
      · exact hoff p (.tail _ hp)
    · rw [List.take_add_one, hin, List.flatMap_append]
      simpa using hI
  case done =>
    rintro m₁ nx h tk ⟨lo, vs', n', rfl, hvs, hmo⟩ F₁ N₁
    rw [List.take_length] at hvs
    have e : m₁ = fun y => if y = PySem.Str.ofString "octets" then some (.ref lo) else m₁ y := by
      funext y
      by_cases h2 : y = PySem.Str.ofString "octets"
      · rw [if_pos h2, h2, hmo]
      · rw [if_neg h2]
    rw [e] at F₁
    clear e
    have hL := flat_len ns
    have hO8 := flat_octet ns h0
    generalize hO : ns.flatMap lawOct = os at hvs hL hO8
    k_steps
    unfold Stop
    rename IsRange _ _ _ _ _ _ _ _ => R9
    refine' range_le (x := PySem.Str.ofString "k") (y := PySem.Str.ofString "number") (by decide) (by rfl) R9 (by omega) ?fF ?fN ?fy ?turn ?done
    case fF => k_asm
    case fN => k_asm
    case fy => rfl
    case turn =>
      intro i9 a9 ta9 t9 h9 tk9 own9 hi9 hz9 hl9 hc9 hP9 hoff9 F9 N9
      k_steps
      refine mul_int ?_ (IntMulOk.of_left (octet_bits hO8 _))
      k_steps
      rename Fr _ _ _ _ => Fz
      rename News _ _ _ _ => Nz
      refine LeEnd.intro Fz Nz le_map ?_
      rw [leI_step hi9, hP9]
      rfl
    case done =>
      intro a9 ta9 vx9 h9 tk9 hP9 F9 N9
      k_steps
      rw [hP9, ← hO, numV_eq]
      cb_end hret
theorem number_use {w : World} {ns : List Int} {l : Addr} {vs : List Value} {nn : Nat} {mean : ExcName → Option Value} {mg mb : PySem.Str → Option Value} {news : List (Addr × Obj)} {dp un : Nat} {gd : Option (List Code)} {cn : PySem.Str} {cs : Scope} {a : Addr} {ccd : Value} {cl : List (PySem.Str × Addr)} {outer : List Env} {A₀ : Around} {base h₀ : Heap} {L : Addr} {m : PySem.Str → Option Value} {s : Shared} {Q E : Value → Shared → Prop}
    (B : Below A₀ base outer h₀) (F : Fr h₀ L s.heap m) (X : (hd.heap_39 w.params).In h₀) (N : News h₀ L s.heap news) (T : Top hd.view_39 (looseW hd.view_39 []) mean mg mb h₀) (hk : cs.kind = .function) (hd : dp + 2 < recursionLimit) (hu : un + 16 < cLine) (hm : (l, listOf vs.toArray nn) ∈ news) (hi : IntsAre vs ns) (h0 : ∀ x ∈ ns, 0 ≤ x ∧ x < 1114112) (hn : ns.length ≤ 20)
    (hret : CbRet h₀ L m news s Q (fun t => .int (numV ns) t)) : wpAny (model PySem.Challenge.rw_be5014_01.row.prog w) (ktrTop dp un gd cn cs L a ccd cl outer) (call (.ref 42) [.ref l]) Q E s :=
  number_tells w ns h0 hn mean mg mb news l vs nn dp un gd cn cs a ccd cl outer A₀ base h₀ L m s Q E B F X N T hk hd hu hm hi hret

end
end Mine

namespace Mine
section
open PySem PySem.W PySem.Calls PyProof.Rows
def Sign (x : Int) : Prop := 0 ≤ x ∧ x < 1114112 ∧ ¬ (55296 ≤ x ∧ x < 57344)
theorem le_cast (l : List Nat) : ((le l : Nat) : Int) = leI (l.map fun n : Nat => (n : Int)) := by
  induction l with
  | nil => rfl
  | cons a r ih =>
    rw [List.map_cons, leI_cons, ← ih, le_cons]
    omega
theorem u8 {n : Nat} (h : n < 256) : (n.toUInt8).toNat = n := by
  show (UInt8.ofNat n).toNat = n
  rw [UInt8.toNat_ofNat']
  omega
theorem oct_utf8 {x : Int} (h0 : 0 ≤ x) (h1 : x < 1114112) : ((PySem.Str.utf8Of x.toNat).map fun b => ((b.toNat : Nat) : Int)) = lawOct x := by
  obtain ⟨n, rfl⟩ := Int.eq_ofNat_of_zero_le h0
  have hn : n < 1114112 := by omega
  have hm : (n : Int).fmod 64 = ((n % 64 : Nat) : Int) := by rw [Int.fmod_eq_emod_of_nonneg _ (by decide)]; omega
  have hd1 : (n : Int).fdiv 64 = ((n / 64 : Nat) : Int) := by rw [Int.fdiv_eq_ediv_of_nonneg _ (by decide)]; omega
  have hd2 : (n : Int).fdiv 4096 = ((n / 4096 : Nat) : Int) := by rw [Int.fdiv_eq_ediv_of_nonneg _ (by decide)]; omega
  have hd3 : (n : Int).fdiv 262144 = ((n / 262144 : Nat) : Int) := by rw [Int.fdiv_eq_ediv_of_nonneg _ (by decide)]; omega
  have hm1 : ((n / 64 : Nat) : Int).fmod 64 = ((n / 64 % 64 : Nat) : Int) := by rw [Int.fmod_eq_emod_of_nonneg _ (by decide)]; omega
  have hm2 : ((n / 4096 : Nat) : Int).fmod 64 = ((n / 4096 % 64 : Nat) : Int) := by rw [Int.fmod_eq_emod_of_nonneg _ (by decide)]; omega
  unfold lawOct PySem.Str.utf8Of
  rw [hm, hd1, hd2, hd3, hm1, hm2, Int.toNat_natCast]
  by_cases c1 : n < 128
  · have d1 : (n : Int) < 128 := by omega
    rw [if_pos c1, if_pos d1]
    simp only [List.map_cons, List.map_nil, u8 (show n < 256 by omega)]
  have d1 : ¬ (n : Int) < 128 := by omega
  rw [if_neg c1, if_neg d1]
  by_cases c2 : n < 2048
  · have d2 : (n : Int) < 2048 := by omega
    rw [if_pos c2, if_pos d2]
    simp only [List.map_cons, List.map_nil, u8 (show 192 + n / 64 < 256 by omega), u8 (show 128 + n % 64 < 256 by omega), Int.natCast_add]
    rfl
  have d2 : ¬ (n : Int) < 2048 := by omega
  rw [if_neg c2, if_neg d2]
  by_cases c3 : n < 65536
  · have d3 : (n : Int) < 65536 := by omega
    rw [if_pos c3, if_pos d3]
    simp only [List.map_cons, List.map_nil, u8 (show 224 + n / 4096 < 256 by omega), u8 (show 128 + n / 64 % 64 < 256 by omega), u8 (show 128 + n % 64 < 256 by omega), Int.natCast_add]
    rfl
  have d3 : ¬ (n : Int) < 65536 := by omega
  rw [if_neg c3, if_neg d3]
  simp only [List.map_cons, List.map_nil, u8 (show 240 + n / 262144 < 256 by omega), u8 (show 128 + n / 4096 % 64 < 256 by omega), u8 (show 128 + n / 64 % 64 < 256 by omega), u8 (show 128 + n % 64 < 256 by omega), Int.natCast_add]
  rfl
theorem join_cps (ns : List Int) : (PySem.Txt.join (PySem.Str.ofString "") (ns.map fun k => PySem.Str.mk #[k.toNat])).cps.toList = ns.map Int.toNat := by
  show (Builtin.Str.glued (PySem.Str.ofString "") _).cps.toList = _
  rw [StrLaws.glued_eq_join]
  have e0 : PySem.Str.ofString "" = PySem.Str.mk #[] := by decide +kernel
  rw [e0]
  have key : ∀ l : List Int, (PySem.Str.join (PySem.Str.mk #[]) (l.map fun k => PySem.Str.mk #[k.toNat])).cps.toList = l.map Int.toNat := by
    intro l
    induction l with
    | nil => rfl
    | cons a r ih =>
      cases r with
      | nil => rfl
      | cons b r' =>
        show (PySem.Str.mk #[a.toNat] ++ PySem.Str.mk #[] ++ PySem.Str.join (PySem.Str.mk #[]) ((b :: r').map fun k => PySem.Str.mk #[k.toNat])).cps.toList = _
        rw [PySem.Str.cps_append, PySem.Str.cps_append, Array.toList_append, Array.toList_append, ih]
        rfl
  exact key ns
theorem join_good {ns : List Int} (h : ∀ x ∈ ns, Sign x) (hn : ns.length ≤ 20) : GoodText (PySem.Txt.join (PySem.Str.ofString "") (ns.map fun k => PySem.Str.mk #[k.toNat])) := by
  have hc := join_cps ns
  constructor
  · intro c hcm
    have hcm' := Array.mem_def.mp hcm
    rw [hc] at hcm'
    obtain ⟨x, hx, rfl⟩ := List.mem_map.mp hcm'
    obtain ⟨s0, s1, s2⟩ := h x hx
    unfold PySem.Str.isSurrogate
    rw [Bool.and_eq_false_iff, decide_eq_false_iff_not, decide_eq_false_iff_not]
    omega
  · have hl : (PySem.Txt.join (PySem.Str.ofString "") (ns.map fun k => PySem.Str.mk #[k.toNat])).length = ns.length := by
      show (PySem.Txt.join _ _).cps.size = _
      rw [← Array.length_toList, hc, List.length_map]
    rw [hl]
    exact hn
theorem hash_num {ns : List Int} (h : ∀ x ∈ ns, Sign x) : hashV (PySem.Txt.join (PySem.Str.ofString "") (ns.map fun k => PySem.Str.mk #[k.toNat])) = numV ns := by
  unfold hashV numV
  rw [le_cast]
  unfold octs
  rw [utf8B_list, join_cps]
  have e : (((ns.map Int.toNat).flatMap PySem.Str.utf8Of).map UInt8.toNat).map (fun n : Nat => (n : Int)) = ns.flatMap lawOct := by
    induction ns with
    | nil => rfl
    | cons a r ih =>
      have ih' := ih fun x hx => h x (List.mem_cons_of_mem _ hx)
      obtain ⟨s0, s1, _⟩ := h a List.mem_cons_self
      rw [List.map_cons, List.flatMap_cons, List.map_append, List.map_append, ih', List.flatMap_cons, ← oct_utf8 s0 s1, List.map_map]
      rfl
  rw [e]
theorem hashV_lo (x : PySem.Str) : 0 ≤ hashV x := by
  unfold hashV
  exact Int.emod_nonneg _ (by decide)
theorem hashV_hi (x : PySem.Str) : hashV x < 9223372036854775808 := by
  unfold hashV
  exact Int.emod_lt_of_pos _ (by decide)

end
end Mine

namespace Mine
section
open PySem PySem.W PySem.Calls PyProof.Rows
local macro_rules | `(tactic| walk_at "call ref") => `(tactic| (k_here; (with_reducible show wpAny _ _ (call (Value.ref 21) [Value.str _ _]) _ _ _); k_dflt (refine' hash_use ?k1 ?k2 ?k3 ?k4 ?k5 ?kK ?kd ?ku ?kx ?_; (case k1 => k_asm); (case k2 => k_asm); (case k3 => k_asm); (case k4 => k_asm); (case k5 => k_asm); (case kK => first | exact rfl | assumption); (case kd => ktr_room); (case ku => ktr_units); (case kx => assumption); intro t9 h9 tk9 F9 N9)))
local macro_rules | `(tactic| walk_at "call ref") => `(tactic| ((with_reducible show wpAny _ _ (call (Value.ref 42) [Value.ref _]) _ _ _); refine stop_here ?_))
local macro_rules | `(tactic| walk_at "eval ListComp") => `(tactic| (k_here; k_dflt (refine LCg.ListComp_U (F₀ := by k_asm) (by with_unfolding_all rfl) (by decide) (by rfl) (by decide) (by rfl) ?_)))
local macro_rules | `(tactic| walk_at "CompSrc") => `(tactic| (refine stop_here ?_))
set_option maxRecDepth 100000 in
set_option maxHeartbeats 8000000 in
theorem holds_tells (w : World) (ns : List Int) (h0 : ∀ x ∈ ns, Sign x) (hn : ns.length ≤ 20) : LTells w 47 ns 3 24 (fun _ => .bool true) := by
  dsimp only [LTells, CbRet]
  w_top off
  k_fill
  intro mean mg mb news l vs nn
  intros
  rename_i hm hi hret
  refine wpAny_call ?_
  k_dflt cell_enter
  k_steps
  unfold Stop
  k_dflt (refine LCg.CompSrc.ledger (by rfl) (by k_asm) (by k_asm) (by assumption) ?hsz ?hrest)
  case hsz =>
    have := IntsAre.length (by assumption : IntsAre vs ns)
    rw [sizeLine_eq, List.size_toArray]
    omega
  case hrest =>
    intro g'
    refine kct_list (vs := vs) (ns := ns) (fun k => PySem.Str.mk #[k.toNat]) (by assumption) ?turn ?fin
    case turn =>
      intro k t I oI C oC D m₂ ys h tk E' hk hC hx F N off ne mk
      obtain ⟨hb0, hb1, _⟩ := h0 k hk
      k_steps
      refine LCg.CompEnd.intro F N news (fun p hp => hp) off (.inr ⟨_, by assumption, rfl, _, rfl⟩) ⟨rfl, _, rfl⟩
    case fin =>
      unfold KPfDone
      intro ys hc hl
      have hG := join_good h0 hn
      have h0' : ∀ x ∈ ns, 0 ≤ x ∧ x < 1114112 := fun x hx => ⟨(h0 x hx).1, (h0 x hx).2.1⟩
      k_steps
      unfold Stop
      refine' number_use (vs := vs) (nn := nn) (ns := ns) ?k1 ?k2 ?k3 ?k4 ?k5 ?kK ?kd ?ku ?km ?ki ?k0 ?kn ?_
      case k1 => k_asm
      case k2 => k_asm
      case k3 => k_asm
      case k4 => k_asm
      case k5 => k_asm
      case kK => first | exact rfl | assumption
      case kd => ktr_room
      case ku => ktr_units
      case km => exact List.mem_cons_of_mem _ (by assumption)
      case ki => assumption
      case k0 => assumption
      case kn => assumption
      intro t9 h9 tk9 F9 N9
      have hE := hash_num h0
      have hlo := hashV_lo (PySem.Txt.join (PySem.Str.ofString "") (ns.map fun k => PySem.Str.mk #[k.toNat]))
      have hhi := hashV_hi (PySem.Txt.join (PySem.Str.ofString "") (ns.map fun k => PySem.Str.mk #[k.toNat]))
      k_steps
      all_goals cb_end hret
theorem holds_use {w : World} {ns : List Int} {l : Addr} {vs : List Value} {nn : Nat} {mean : ExcName → Option Value} {mg mb : PySem.Str → Option Value} {news : List (Addr × Obj)} {dp un : Nat} {gd : Option (List Code)} {cn : PySem.Str} {cs : Scope} {a : Addr} {ccd : Value} {cl : List (PySem.Str × Addr)} {outer : List Env} {A₀ : Around} {base h₀ : Heap} {L : Addr} {m : PySem.Str → Option Value} {s : Shared} {Q E : Value → Shared → Prop}
    (B : Below A₀ base outer h₀) (F : Fr h₀ L s.heap m) (X : (hd.heap_39 w.params).In h₀) (N : News h₀ L s.heap news) (T : Top hd.view_39 (looseW hd.view_39 []) mean mg mb h₀) (hk : cs.kind = .function) (hd : dp + 3 < recursionLimit) (hu : un + 24 < cLine) (hm : (l, listOf vs.toArray nn) ∈ news) (hi : IntsAre vs ns) (h0 : ∀ x ∈ ns, Sign x) (hn : ns.length ≤ 20)
    (hret : CbRet h₀ L m news s Q (fun _ => .bool true)) : wpAny (model PySem.Challenge.rw_be5014_01.row.prog w) (ktrTop dp un gd cn cs L a ccd cl outer) (call (.ref 47) [.ref l]) Q E s :=
  holds_tells w ns h0 hn mean mg mb news l vs nn dp un gd cn cs a ccd cl outer A₀ base h₀ L m s Q E B F X N T hk hd hu hm hi hret

end
end Mine

namespace Mine
section
set_option maxRecDepth 100000
open PySem PySem.W PySem.Calls PyProof.Rows
section
variable {prog : Program} {w : World} {A : Around} {E : Value → Shared → Prop} {s : Shared} {env : Env} {h₀ : Heap} {L : Addr} {body : List Stmt} {Q : Flow → Shared → Prop}
/-- the ledger between the rounds: the numbers, the place's cell, the numbers' cell -/
abbrev Led (l : Addr) (vs : List Value) (nn : Nat) (c2 : Addr) (oA : Obj) (c1 : Addr) (oN : Obj) : List (Addr × Obj) := [(l, listOf vs.toArray nn), (c2, oA), (c1, oN)]
theorem led_gen {h : Heap} {l c1 c2 : Addr} {vs : List Value} {ns : List Int} {nn : Nat} {oA oN : Obj} (N : News h₀ L h (Led l vs nn c2 oA c1 oN)) (hi : IntsAre vs ns) (hl : ns.length ≤ 60) (hb : ∀ x ∈ ns, PySem.Builtin.Int.intBits x ≤ 1048576) :
    ∃ (vs' : List Value) (ns' : List Int) (nn' : Nat), News h₀ L h (Led l vs' nn' c2 oA c1 oN) ∧ IntsAre vs' ns' ∧ ns'.length ≤ 60 ∧ ∀ x ∈ ns', PySem.Builtin.Int.intBits x ≤ 1048576 := ⟨vs, ns, nn, N, hi, hl, hb⟩
def RoundEnd (h₀ : Heap) (L : Addr) (s : Shared) (l : Addr) (vs : List Value) (nn : Nat) (c2 c1 : Addr) (oN : Obj) (rd : Int) (f : Flow) (s₂ : Shared) : Prop :=
  f = .next ∧ ∃ (h' : Heap) (tk' : Nat) (m' : PySem.Str → Option Value) (p : Int) (ta tr : Tok) (oA : Obj), s₂ = { s with heap := h', toks := tk' } ∧ Fr h₀ L h' m' ∧ News h₀ L h' (Led l vs nn c2 oA c1 oN) ∧ oA.data = Data.cell (some (.int p ta)) ∧
    0 ≤ p ∧ p ≤ 5 * (rd + 1) ∧ rd < 12 ∧ m' (PySem.Str.ofString "rounds") = some (.int (rd + 1) tr)
theorem RoundEnd.intro {l c1 c2 : Addr} {vs : List Value} {nn : Nat} {oA oN : Obj} {all : List (Addr × Obj)} {m' : PySem.Str → Option Value} {h' : Heap} {tk' : Nat} {p x rd : Int} {ta tr : Tok}
    (F : Fr h₀ L h' m') (N : News h₀ L h' all) (sub : ∀ q ∈ Led l vs nn c2 oA c1 oN, q ∈ all) (hA : oA.data = Data.cell (some (.int (p + (x.fmod 5 + 1)) ta))) (h1 : 0 ≤ p) (h2 : p ≤ 5 * rd) (h3 : rd < 12) (hr : m' (PySem.Str.ofString "rounds") = some (.int (rd + 1) tr)) :
    RoundEnd h₀ L s l vs nn c2 c1 oN rd .next { s with heap := h', toks := tk' } := by
  have f0 : 0 ≤ x.fmod 5 := Int.fmod_nonneg_of_pos x (by decide)
  have f1 : x.fmod 5 < 5 := Int.fmod_lt_of_pos x (by decide)
  exact ⟨rfl, h', tk', m', _, ta, tr, oA, rfl, F, fun q hq => N q (sub q hq), hA, by omega, by omega, h3, hr⟩
theorem while_rounds {test : PySem.Expr} {pos : Pos} {l c1 c2 : Addr} {vs : List Value} {nn : Nat} {oA oN : Obj} {m₀ : PySem.Str → Option Value} {t0 t1 : Tok}
    (F : Fr h₀ L s.heap m₀) (N : News h₀ L s.heap (Led l vs nn c2 oA c1 oN)) (hA : oA.data = Data.cell (some (.int 0 t0))) (hr : m₀ (PySem.Str.ofString "rounds") = some (.int 0 t1))
    (turn : ∀ (p rd : Int) (ta tr : Tok) (oA : Obj) (u : PySem.Str → Option Value) h tk, 0 ≤ p → p ≤ 5 * rd → 0 ≤ rd → rd ≤ 12 → oA.data = Data.cell (some (.int p ta)) →
      Fr h₀ L h (fun y => if y = PySem.Str.ofString "rounds" then some (.int rd tr) else u y) → News h₀ L h (Led l vs nn c2 oA c1 oN) →
      wpAny (model prog w) A (isTrue test env (eval test env)) (fun b s₂ =>
        if b = true then wpAny (model prog w) A (execs body env) (RoundEnd h₀ L s l vs nn c2 c1 oN rd) E s₂ else Q .next s₂) E { s with heap := h, toks := tk })
    (hE : PassesOwn (model prog w) A env E) :
    wpAny (model prog w) A (exec (.While test body [] pos) env) Q E s := by
  refine While_inv2 (fun n m nx => ∃ (p rd : Int) (ta tr : Tok) (oA : Obj), nx = Led l vs nn c2 oA c1 oN ∧ oA.data = Data.cell (some (.int p ta)) ∧ 0 ≤ p ∧ p ≤ 5 * rd ∧ 0 ≤ rd ∧ rd ≤ 12 ∧ m (PySem.Str.ofString "rounds") = some (.int rd tr) ∧ n = (12 - rd).toNat) (n₀ := 12) F N
    ⟨0, 0, t0, t1, oA, rfl, hA, by decide, by decide, by decide, by decide, hr, rfl⟩ ?_ hE
  rintro n m₁ nx h tk F₁ N₁ ⟨p, rd, ta, tr, oA, rfl, hA, h1, h2, h3, h4, hm, rfl⟩
  have em : m₁ = fun y => if y = PySem.Str.ofString "rounds" then some (.int rd tr) else m₁ y := by
    funext y
    by_cases hy : y = PySem.Str.ofString "rounds"
    · rw [if_pos hy, hy, hm]
    · rw [if_neg hy]
  rw [em] at F₁
  refine wpAny_mono (turn p rd ta tr oA m₁ h tk h1 h2 h3 h4 hA F₁ N₁) (fun b s₂ q => ?_) fun _ _ x => x
  cases b with
  | false => simpa using q
  | true =>
    simp only [if_true] at q ⊢
    refine wpAny_mono q (fun f s₃ r => ?_) fun _ _ x => x
    obtain ⟨rfl, h', tk', m', p', ta', tr', oA', rfl, F', N', hA', g1, g2, g3, g4⟩ := r
    exact ⟨h', tk', m', _, (12 - (rd + 1)).toNat, rfl, F', N', by omega, p', rd + 1, ta', tr', oA', rfl, hA', g1, g2, by omega, by omega, g4, rfl⟩
end

end
end Mine

namespace Mine
section
set_option maxRecDepth 100000
open PySem PySem.W PySem.Calls PyProof.Rows
theorem slice_gen {ws : List Value} {ns : List Int} {p x : Int} (hS : IntsAre ws (List.take (min (p + (x.fmod 5 + 1)).toNat ns.length - p.toNat) (List.drop p.toNat ns))) (h0 : 0 ≤ p) (hb : ∀ x ∈ ns, PySem.Builtin.Int.intBits x ≤ 1048576) :
    ∃ ks : List Int, IntsAre ws ks ∧ ks.length ≤ 5 ∧ ∀ y ∈ ks, PySem.Builtin.Int.intBits y ≤ 1048576 := by
  refine ⟨_, hS, ?_, fun y hy => hb y (List.mem_of_mem_drop (List.mem_of_mem_take hy))⟩
  have f0 : 0 ≤ x.fmod 5 := Int.fmod_nonneg_of_pos x (by decide)
  have f1 : x.fmod 5 < 5 := Int.fmod_lt_of_pos x (by decide)
  rw [List.length_take, List.length_drop]
  omega
theorem lawSign_sign (x : Int) : Sign (lawSign x) := by
  have f0 : 0 ≤ x.fmod 1114112 := Int.fmod_nonneg_of_pos x (by decide)
  have f1 : x.fmod 1114112 < 1114112 := Int.fmod_lt_of_pos x (by decide)
  unfold lawSign Sign
  split <;> omega
theorem map_sign {α : Type} (l : List α) (f : α → Int) : ∀ x ∈ l.map (fun a => lawSign (f a)), Sign x := by
  intro x hx
  obtain ⟨a, _, rfl⟩ := List.mem_map.mp hx
  exact lawSign_sign _
theorem map_sign1 (l : List Int) : ∀ x ∈ l.map lawSign, Sign x := map_sign l fun a => a
theorem all_app {xs ys : List Int} (h : ∀ x ∈ xs, Sign x) (k : ∀ x ∈ ys, Sign x) : ∀ x ∈ xs ++ ys, Sign x := fun x hx => (List.mem_append.mp hx).elim (h x) (k x)
theorem add7_bits {x : Int} (h : PySem.Builtin.Int.intBits x ≤ 1048576) : PySem.Builtin.Int.intBits (x + 7) ≤ 2000000 :=
  Nat.le_trans (PySem.intBits_add_le h (n := 64) (PySem.intBits_le_64 (by decide) (by decide))) (by decide)
theorem div3_bits {ns : List Int} (h : ∀ x ∈ ns, PySem.Builtin.Int.intBits x ≤ 1048576) (k : Nat) : PySem.Builtin.Int.intBits ((ns.getD k 0).fdiv 3) ≤ 2000000 := by
  have hb : PySem.Builtin.Int.intBits (ns.getD k 0) ≤ 1048576 := by
    rw [List.getD_eq_getElem?_getD]
    cases hk : ns[k]? with
    | none => decide
    | some o => exact h o (List.mem_of_getElem? hk)
  exact Nat.le_trans (PySem.intBits_le_of_natAbs (PySem.natAbs_fdiv_le _ 3) hb) (by decide)

end
end Mine

namespace Mine
section
open PySem PySem.W PySem.Calls PyProof.Rows
theorem good_of {x : PySem.Str} (h : (x.cps.toList.all fun c => !PySem.Str.isSurrogate c) = true) (hl : x.length ≤ 20) : GoodText x := by
  refine ⟨fun c hc => ?_, hl⟩
  have := List.all_eq_true.mp h c (Array.mem_def.mp hc)
  simpa using this
theorem gt0 : GoodText (PySem.Str.ofString "") := good_of (by decide +kernel) (by decide +kernel)
theorem gt1 : GoodText (PySem.Str.ofString "\x00\x00") := good_of (by decide +kernel) (by decide +kernel)
theorem gt2 : GoodText (PySem.Str.ofString "a") := good_of (by decide +kernel) (by decide +kernel)
theorem gt3 : GoodText (PySem.Str.ofString "aaaaaaaab") := good_of (by decide +kernel) (by decide +kernel)
theorem gt4 : GoodText (PySem.Str.ofString "aaaaaaaac") := good_of (by decide +kernel) (by decide +kernel)
theorem hv0 : hashV (PySem.Str.ofString "") = 0 := by unfold hashV; decide +kernel
theorem hv1 : hashV (PySem.Str.ofString "\x00\x00") = 0 := by unfold hashV; decide +kernel
theorem hv2 : hashV (PySem.Str.ofString "a") = 97 := by unfold hashV; decide +kernel
theorem hv3 : hashV (PySem.Str.ofString "aaaaaaaab") = 7016996765293437281 := by unfold hashV; decide +kernel
theorem hv4 : hashV (PySem.Str.ofString "aaaaaaaac") = 7016996765293437281 := by unfold hashV; decide +kernel
local macro_rules | `(tactic| walk_at "call ref") => `(tactic| (k_here; (with_reducible show wpAny _ _ (call (Value.ref 21) [Value.str _ _]) _ _ _); k_dflt (refine' hash_use ?k1 ?k2 ?k3 ?k4 ?k5 ?kK ?kd ?ku ?kx ?_; (case k1 => k_asm); (case k2 => k_asm); (case k3 => k_asm); (case k4 => k_asm); (case k5 => k_asm); (case kK => first | exact rfl | assumption); (case kd => ktr_room); (case ku => ktr_units); (case kx => first | exact gt0 | exact gt1 | exact gt2 | exact gt3 | exact gt4); intro t9 h9 tk9 F9 N9)))
local macro_rules | `(tactic| walk_at "call ref") => `(tactic| (k_here; (with_reducible show wpAny _ _ (call (Value.ref 35) [Value.int _ _]) _ _ _); k_dflt (refine' sign_use ?k1 ?k2 ?k3 ?k4 ?k5 ?kK ?kd ?ku ?kx ?_; (case k1 => k_asm); (case k2 => k_asm); (case k3 => k_asm); (case k4 => k_asm); (case k5 => k_asm); (case kK => first | exact rfl | assumption); (case kd => ktr_room); (case ku => ktr_units); (case kx => first | assumption | omega); intro t9 h9 tk9 F9 N9)))
local macro_rules | `(tactic| walk_at "call ref") => `(tactic| ((with_reducible show wpAny _ _ (call (Value.ref 47) [Value.ref _]) _ _ _); first
  | (k_dflt (refine' holds_use ?k1 ?k2 ?k3 ?k4 ?k5 ?kK ?kd ?ku ?km ?ki ?k0 ?kn ?_; (case k1 => k_asm); (case k2 => k_asm); (case k3 => k_asm); (case k4 => k_asm); (case k5 => k_asm); (case kK => first | exact rfl | assumption); (case kd => ktr_room); (case ku => ktr_units); (case km => k_mem); (case ki => first | assumption | l_ints); (case k0 => first | exact map_sign1 _ | exact all_app (map_sign _ _) (map_sign _ _)); (case kn => ((simp only [List.length_map, List.length_append, rangeKs_length]); omega)); intro t9 h9 tk9 F9 N9))
  | refine stop_here ?_))
local macro_rules | `(tactic| walk_at "CompSrc") => `(tactic| (refine stop_here ?_))
local macro_rules | `(tactic| walk_at "exec While") => `(tactic| (refine stop_here ?_))
local macro_rules | `(tactic| walk_at "exec While BoolOp cons nil") => `(tactic| (refine stop_here ?_))
set_option maxRecDepth 100000 in
set_option maxHeartbeats 8000000 in
theorem law_holds : PySem.Challenge.rw_be5014_01.Holds := hd (by
  k_go0
  (all_goals try k_fold)
  have c0 := hv0
  have c1 := hv1
  have c2 := hv2
  have c3 := hv3
  have c4 := hv4
  k_steps
  all_goals unfold Stop
  · rename Fr _ _ _ _ => Fz
    rename News _ _ _ _ => Nz
    obtain ⟨vs, ns, nn, Nw, hi, hlen, hbits⟩ := led_gen Nz (by assumption) (by rw [List.length_take]; omega) (fun x hx => PySem.intBits_le_of_item (List.mem_of_mem_take hx) (by assumption))
    clear Nz
    refine while_rounds Fz Nw (by assumption) rfl ?_ (by with_unfolding_all passes_own)
    intro p rd ta tr oA u h tk h1 h2 h3 h4 hA F1 N1
    k_steps
    unfold Stop
    rename IntsAre _ _ => hS
    obtain ⟨ks, hK, hk5, hkb⟩ := slice_gen hS h1 hbits
    k_dflt (refine LCg.CompSrc.ledger (by rfl) (by k_asm) (by k_asm) List.mem_cons_self ?hsz ?hrest)
    case hsz =>
      have := IntsAre.length hK
      rw [sizeLine_eq, List.size_toArray]
      omega
    case hrest =>
      intro g'
      refine kcf_list (ns := ks) lawSign hK ?turn ?fin
      case turn =>
        intro k t I oI C oC D m₂ ys h tk E' hk hC hx F N off ne mk
        have hbk : PySem.Builtin.Int.intBits k ≤ 2000000 := Nat.le_trans (hkb k hk) (by decide)
        k_steps
      case fin =>
        unfold KPfDone
        intro ys hys
        k_steps
        unfold Stop
        rename IntsAre _ _ => hS2
        obtain ⟨ks2, hK2, hk52, hkb2⟩ := slice_gen hS2 h1 hbits
        k_dflt (refine LCg.CompSrc.ledger (by rfl) (by k_asm) (by k_asm) List.mem_cons_self ?hsz2 ?hrest2)
        case hsz2 =>
          have := IntsAre.length hK2
          rw [sizeLine_eq, List.size_toArray]
          omega
        case hrest2 =>
          intro g2'
          refine kcf_list (ns := ks2) (fun x => lawSign (x + 7)) hK2 ?turn2 ?fin2
          case turn2 =>
            intro k t I oI C oC D m₂ ys h tk E' hk hC hx F N off ne mk
            have hbk : PySem.Builtin.Int.intBits (k + 7) ≤ 2000000 := add7_bits (hkb2 k hk)
            k_steps
          case fin2 =>
            unfold KPfDone
            intro ys2 hys2
            k_steps
            unfold Stop
            k_dflt (refine LCg.CompSrc.range (n := 4) (by rfl) (by k_asm) (by k_asm) (by assumption) (by decide) (by rfl) (by rw [sizeLine_eq]; decide) ?hrest3)
            case hrest3 =>
              intro g3'
              refine kcf_range (a := 0) (n := 4) (fun _ => lawSign ((ns.getD p.toNat 0).fdiv 3)) ?turn3 ?fin3
              case turn3 =>
                intro k t I oI C oC D m₂ ys h tk E' hlo hhi hC hx F N off ne mk
                have hbk : PySem.Builtin.Int.intBits ((ns.getD p.toNat 0).fdiv 3) ≤ 2000000 := div3_bits hbits _
                k_steps
              case fin3 =>
                unfold KPfDone
                intro ys3 hys3
                k_steps
                rename Fr _ _ _ _ => Fy
                rename News _ _ _ _ => Ny
                exact RoundEnd.intro Fy Ny (fun q hq => List.mem_cons_of_mem _ (List.mem_cons_of_mem _ (List.mem_cons_of_mem _ (List.mem_cons_of_mem _ (List.mem_cons_of_mem _ (List.mem_cons_of_mem _ hq)))))) (by assumption) h1 h2 (by assumption) rfl
  · rename Fr _ _ _ _ => Fz
    rename News _ _ _ _ => Nz
    obtain ⟨vs, ns, nn, Nw, hi, hlen, hbits⟩ := led_gen Nz (.cons 97 _ (.cons 233 _ (.cons 8364 _ (.cons 128512 _ .nil)))) (by decide) (by decide +kernel)
    clear Nz
    refine while_rounds Fz Nw (by assumption) rfl ?_ (by with_unfolding_all passes_own)
    intro p rd ta tr oA u h tk h1 h2 h3 h4 hA F1 N1
    k_steps
    unfold Stop
    rename IntsAre _ _ => hS
    obtain ⟨ks, hK, hk5, hkb⟩ := slice_gen hS h1 hbits
    k_dflt (refine LCg.CompSrc.ledger (by rfl) (by k_asm) (by k_asm) List.mem_cons_self ?hszb ?hrestb)
    case hszb =>
      have := IntsAre.length hK
      rw [sizeLine_eq, List.size_toArray]
      omega
    case hrestb =>
      intro g'
      refine kcf_list (ns := ks) lawSign hK ?turnb ?finb
      case turnb =>
        intro k t I oI C oC D m₂ ys h tk E' hk hC hx F N off ne mk
        have hbk : PySem.Builtin.Int.intBits k ≤ 2000000 := Nat.le_trans (hkb k hk) (by decide)
        k_steps
      case finb =>
        unfold KPfDone
        intro ys hys
        k_steps
        unfold Stop
        rename IntsAre _ _ => hS2
        obtain ⟨ks2, hK2, hk52, hkb2⟩ := slice_gen hS2 h1 hbits
        k_dflt (refine LCg.CompSrc.ledger (by rfl) (by k_asm) (by k_asm) List.mem_cons_self ?hsz2b ?hrest2b)
        case hsz2b =>
          have := IntsAre.length hK2
          rw [sizeLine_eq, List.size_toArray]
          omega
        case hrest2b =>
          intro g2'
          refine kcf_list (ns := ks2) (fun x => lawSign (x + 7)) hK2 ?turn2b ?fin2b
          case turn2b =>
            intro k t I oI C oC D m₂ ys h tk E' hk hC hx F N off ne mk
            have hbk : PySem.Builtin.Int.intBits (k + 7) ≤ 2000000 := add7_bits (hkb2 k hk)
            k_steps
          case fin2b =>
            unfold KPfDone
            intro ys2 hys2
            k_steps
            unfold Stop
            k_dflt (refine LCg.CompSrc.range (n := 4) (by rfl) (by k_asm) (by k_asm) (by assumption) (by decide) (by rfl) (by rw [sizeLine_eq]; decide) ?hrest3b)
            case hrest3b =>
              intro g3'
              refine kcf_range (a := 0) (n := 4) (fun _ => lawSign ((ns.getD p.toNat 0).fdiv 3)) ?turn3b ?fin3b
              case turn3b =>
                intro k t I oI C oC D m₂ ys h tk E' hlo hhi hC hx F N off ne mk
                have hbk : PySem.Builtin.Int.intBits ((ns.getD p.toNat 0).fdiv 3) ≤ 2000000 := div3_bits hbits _
                k_steps
              case fin3b =>
                unfold KPfDone
                intro ys3 hys3
                k_steps
                rename Fr _ _ _ _ => Fy
                rename News _ _ _ _ => Ny
                exact RoundEnd.intro Fy Ny (fun q hq => List.mem_cons_of_mem _ (List.mem_cons_of_mem _ (List.mem_cons_of_mem _ (List.mem_cons_of_mem _ (List.mem_cons_of_mem _ (List.mem_cons_of_mem _ hq)))))) (by assumption) h1 h2 (by assumption) rfl)

end
end Mine

open PySem PySem.W PyProof.Rows
theorem PySem.Challenge.cw_be5014_01_holds : PySem.Challenge.rw_be5014_01.Holds := by
  exact Mine.law_holds
