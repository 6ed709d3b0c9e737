import PyProof.Rows.All
import Wide.All
import OpenK.AllK
import Wide.FinOn
import Lean
import PySem.Challenge.RW_fp5008_01
open PySem PySem.W PyProof.Rows PySem.Calls
set_option Elab.async false
set_option maxRecDepth 100000
set_option maxHeartbeats 8000000
namespace Mine
/-! part Hd -/
open_top hd for PySem.Challenge.rw_fp5008_01
/-! part Pure -/
section
/-- the prime -/
def pP : Int := 57896044618658097711785492504343953926634992332820282019728792003956564819949
/-- the constant -/
def pC : Int := 48181483302151357469556550866566148933
theorem pP_pos : 0 < pP := by decide +kernel
theorem pP_lt : pP < 256 ^ 32 := by decide +kernel
/-- 32 octets of a number, greatest first -/
def dg (v : Int) : Array UInt8 := byteArr (KTBy.little 32 v).reverse
def stp (a k : Int) : Int := (a * 256 + k).fmod pP
def fold (a : Int) (b : Array UInt8) : Int := (KBw.bInts b).foldl stp a
@[irreducible] def st (b : Array UInt8) : Int := fold 1 b
def num (b : Array UInt8) : Int := KFB.value (KBw.bInts (#[1] ++ b))
@[irreducible] def dig (b : Array UInt8) : Array UInt8 := dg ((num b ^ 2 * pC).fmod pP)
def sealv (s : Int) : Array UInt8 := dg (((s * s).fmod pP * pC).fmod pP)

theorem fm (x : Int) : x.fmod pP = x % pP := Int.fmod_eq_emod_of_nonneg _ (Int.le_of_lt pP_pos)
theorem bInts_nil : KBw.bInts #[] = [] := rfl
theorem bInts_append (b c : Array UInt8) : KBw.bInts (b ++ c) = KBw.bInts b ++ KBw.bInts c := KBw.ints_app rfl rfl
theorem fold_append (a : Int) (b c : Array UInt8) : fold a (b ++ c) = fold (fold a b) c := by
  unfold fold
  rw [bInts_append, List.foldl_append]
theorem st_eq (b : Array UInt8) : st b = fold 1 b := by unfold st; rfl
theorem dig_eq (b : Array UInt8) : dig b = dg ((num b ^ 2 * pC).fmod pP) := by unfold dig; rfl
theorem st_append (b c : Array UInt8) : fold (st b) c = st (b ++ c) := by rw [st_eq, st_eq]; exact (fold_append 1 b c).symm
theorem stp_range (a k : Int) : 0 ≤ stp a k ∧ stp a k < pP := by
  unfold stp
  rw [fm]
  exact ⟨Int.emod_nonneg _ (Int.ne_of_gt pP_pos), Int.emod_lt_of_pos _ pP_pos⟩
theorem foldl_range : ∀ (l : List Int) (a : Int), 0 ≤ a → a < pP → 0 ≤ l.foldl stp a ∧ l.foldl stp a < pP
  | [], _, h0, h1 => ⟨h0, h1⟩
  | k :: r, a, _, _ => foldl_range r (stp a k) (stp_range a k).1 (stp_range a k).2
theorem st_range (b : Array UInt8) : 0 ≤ st b ∧ st b < pP := by rw [st_eq]; exact foldl_range _ 1 (by decide) (by decide +kernel)
/-- the state is the number's rest -/
theorem foldl_mod : ∀ (l : List Int) (a n : Int), a % pP = n % pP → (l.foldl stp a) % pP = (l.foldl (fun a k => a * 256 + k) n) % pP
  | [], _, _, h => h
  | k :: r, a, n, h => by
    rw [List.foldl_cons, List.foldl_cons]
    refine foldl_mod r _ _ ?_
    unfold stp
    rw [fm, Int.emod_emod_of_dvd _ (Int.dvd_refl _), Int.add_emod, Int.mul_emod, h, ← Int.mul_emod, ← Int.add_emod]
theorem st_num (b : Array UInt8) : st b % pP = num b % pP := by
  rw [st_eq]
  unfold fold num KFB.value
  rw [bInts_append]
  exact foldl_mod (KBw.bInts b) 1 1 rfl
theorem sealv_st (b : Array UInt8) : sealv (st b) = dig b := by
  rw [dig_eq]
  unfold sealv
  congr 1
  rw [fm, fm, fm]
  have h := st_num b
  have e : (num b ^ 2) % pP = (st b * st b) % pP := by
    rw [Int.pow_succ, Int.pow_succ, Int.pow_zero, Int.one_mul, Int.mul_emod, ← h, ← Int.mul_emod]
  rw [Int.mul_emod (num b ^ 2), e, ← Int.mul_emod, Int.mul_emod ((st b * st b) % pP), Int.emod_emod_of_dvd _ (Int.dvd_refl _), ← Int.mul_emod]
theorem in_little : ∀ (n : Nat) (x : Int), KBa.In (KTBy.little n x)
  | 0, _ => fun _ h => nomatch h
  | n + 1, x => by
    intro k hk
    rcases List.mem_cons.1 hk with rfl | hk
    · exact ⟨Int.emod_nonneg _ (by decide), Int.emod_lt_of_pos _ (by decide)⟩
    · exact in_little n _ k hk
theorem in_rev {l : List Int} (h : KBa.In l) : KBa.In l.reverse := fun k hk => h k (List.mem_reverse.1 hk)
theorem dg_size (v : Int) : (dg v).size = 32 := by
  unfold dg
  rw [byteArr_size, List.length_reverse, KTBy.little_length]
theorem dg_ints (v : Int) : KBw.bInts (dg v) = (KTBy.little 32 v).reverse := KBa.ints_make (in_rev (in_little 32 v))
theorem dig_size (b : Array UInt8) : (dig b).size = 32 := by rw [dig_eq]; exact dg_size _
theorem bInts_inj {b c : Array UInt8} (h : KBw.bInts b = KBw.bInts c) : b = c := by
  apply Array.ext'
  unfold KBw.bInts at h
  have hi : Function.Injective (fun c : UInt8 => ((c.toNat : Nat) : Int)) := fun x y e => UInt8.toNat_inj.1 (Int.ofNat.inj e)
  exact (List.map_inj_right (fun x y e => hi e)).1 h
theorem num_nonneg (b : Array UInt8) : 0 ≤ num b := by
  have h : num b = ((((#[1] ++ b : Array UInt8)).toList.foldl (fun (acc : Nat) (b : UInt8) => acc * 256 + b.toNat) 0 : Nat) : Int) := (KFB.fold_cast (#[1] ++ b : Array UInt8).toList 0).symm
  rw [h]
  exact Int.natCast_nonneg _
theorem value_bits {b : Array UInt8} {n : Nat} (h : b.size ≤ n) : Builtin.Int.intBits (KFB.value (KBw.bInts b)) ≤ 8 * n := by
  have e : KFB.value (KBw.bInts b) = ((b.toList.foldl (fun (acc : Nat) (b : UInt8) => acc * 256 + b.toNat) 0 : Nat) : Int) := (KFB.fold_cast b.toList 0).symm
  rw [e]
  refine intBits_le_iff.mpr ?_
  rw [Int.natAbs_natCast]
  have h1 := KFB.fold_lt b.toList 0
  rw [Nat.zero_add, Nat.one_mul, Array.length_toList] at h1
  have h2 : (256 : Nat) ^ b.size ≤ 256 ^ n := Nat.pow_le_pow_right (by decide) h
  have e2 : (2 : Nat) ^ (8 * n) = 256 ^ n := by rw [Nat.pow_mul]
  rw [e2]
  exact Nat.lt_of_lt_of_le h1 h2
end
/-! part Prim -/
section
section
variable {prog : Program} {w : World} {M : Model} {A : Around} {E : Value → Shared → Prop} {s : Shared} {h₀ : Heap} {L : Addr} {m : PySem.Str → Option Value} {news : List (Addr × Obj)}

/-- an int out of at most 2^20 octets -/
theorem mk_grown {n : Int} {Q : Value → Shared → Prop} (hn : Builtin.Int.intBits n ≤ 134217728) (h : Q (.int n s.toks) { s with toks := s.toks + 1 }) : wpAny M A (mkIntGrown n) Q E s := by
  unfold mkIntGrown
  have hl : ¬ (n.natAbs.log2 ≥ bitsLine) := by
    have hb : bitsLine = 134217728 := rfl
    unfold Builtin.Int.intBits at hn
    by_cases hz : n = 0
    · subst hz
      rw [hb]
      decide
    · have e : (n == 0) = false := by simpa using hz
      rw [e] at hn
      simp only [Bool.false_eq_true, if_false] at hn
      omega
  rw [if_neg hl]
  exact wpAny_mkInt h
theorem fb_tree {b : Array UInt8} {t u : Tok} {R : Fin → Shared → Prop} (hl : b.size ≤ 1048576) (h : R (.done (.ret (.int (KFB.value (KBw.bInts b)) s.toks))) { s with toks := s.toks + 1 }) :
    wpAny M A (Builtin.«int.from_bytes» ⟨[.type "int", .bytes b t, .str (PySem.Str.ofString "big") u], []⟩) R E s := by
  have hv : ((b.toList.foldl (fun (acc : Nat) (b : UInt8) => acc * 256 + b.toNat) 0 : Nat) : Int) = KFB.value (KBw.bInts b) := KFB.fold_cast b.toList 0
  have hbits := value_bits hl
  unfold Builtin.«int.from_bytes»
  refine wpAny_bind (wpAny_of_eq (a := true) KFB.type_int (KFB.if_not rfl ?_))
  refine wpAny_bind (wpAny_of_eq (a := true) F.conv_sub_int (KFB.if_not rfl ?_))
  refine wpAny_bind (wpAny_of_eq (a := [some (.bytes b t), some (.str (PySem.Str.ofString "big") u), none]) (by kernel_rfl) ?_)
  refine wpAny_bind (wpAny_of_eq (a := PySem.Str.ofString "big") (by kernel_rfl) ?_)
  refine wpAny_bind (wpAny_of_eq (a := false) rfl (wpAny_bind (wpAny_of_eq (a := false) (by kernel_rfl) ?_)))
  refine wpAny_bind (wpAny_of_eq (a := b) rfl ?_)
  show wpAny _ _ (mkIntGrown (b.toList.foldl (fun (acc : Int) (b : UInt8) => acc * 256 + (b.toNat : Int)) ((0 : Nat) : Int)) >>= fun v => _) _ _ _
  rw [KFB.foldI_eq, hv]
  refine wpAny_bind (mk_grown (by omega) ?_)
  exact KFB.if_so (by decide +kernel) (wpAny_bind (wpAny_pure (wpAny_pure h)))
theorem call_fb {x : Addr} {b : Array UInt8} {t u : Tok} {Q : Value → Shared → Prop} (N : News h₀ L s.heap news) (hm : (x, KFB.bound) ∈ news) (hl : b.size ≤ 1048576)
    (h : ∀ t' k, Q (.int (KFB.value (KBw.bInts b)) t') { s with toks := k }) : wpAny (model prog w) A (call (.ref x) [.bytes b t, .str (PySem.Str.ofString "big") u]) Q E s :=
  KFB.call_of (KFB.at_of N hm) (fun z => fb_tree hl z) (h _ _)

/-- 32 octets of an int that fits -/
theorem of_ints {b : Array UInt8} {x : Int} (h : KBw.bInts b = (KTBy.little 32 x).reverse) : b = dg x := bInts_inj (h.trans (dg_ints x).symm)
theorem tb_tree {x : Int} {t u v : Tok} {R : Fin → Shared → Prop} (h0 : 0 ≤ x) (h1 : x < 256 ^ 32) (h : R (.done (.ret (.bytes (dg x) s.toks))) { s with toks := s.toks + 1 }) :
    wpAny M A (Builtin.«int.to_bytes» ⟨[.int x t, .int 32 u, .str (PySem.Str.ofString "big") v], []⟩) R E s := by
  have hb : Builtin.Int.intBits x ≤ 256 := KTBy.bits_le (k := 32) rfl h0 h1
  show wpAny _ _ (Builtin.Int.intOfSelf (.int x t) >>= fun y => _) _ _ s
  refine wpAny_bind (wpAny_of_eq (a := x) rfl ?_)
  show wpAny _ _ (Builtin.Int.intBindNamed "to_bytes" ["length", "byteorder", "signed"] 0 2 [.int 32 u, .str (PySem.Str.ofString "big") v] [] >>= fun l => _) _ _ s
  refine wpAny_bind (wpAny_of_eq (a := [some (.int 32 u), some (.str (PySem.Str.ofString "big") v), none]) (by kernel_rfl) ?_)
  show wpAny _ _ (Builtin.Int.intIndex "int.to_bytes" (.int 32 u) >>= fun n => _) _ _ s
  refine wpAny_bind (wpAny_of_eq (a := (32 : Int)) rfl (KFB.if_not (by decide) ?_))
  refine wpAny_bind (wpAny_of_eq (a := PySem.Str.ofString "big") (by kernel_rfl) ?_)
  refine wpAny_bind (wpAny_of_eq (a := false) rfl (wpAny_bind (wpAny_of_eq (a := false) (by kernel_rfl) ?_)))
  refine wpAny_ite_false (by decide) (wpAny_ite_false (by decide) (wpAny_ite_false (by decide) ?_))
  refine KFB.if_not (by show (decide (x < 0) && !false) = false; rw [decide_eq_false (show ¬ x < 0 by omega)]; rfl) ?_
  refine KFB.if_not (by show (_ && decide ((Builtin.Int.intBits x : Int) > 8 * (32 : Int))) = false; rw [decide_eq_false (show ¬ ((Builtin.Int.intBits x : Int) > 8 * (32 : Int)) by omega), Bool.and_false]) ?_
  have e : (KTBy.low x (Int.toNat 32)).reverse.toArray = dg x := of_ints (by
    show (List.map (fun c : UInt8 => ((c.toNat : Nat) : Int)) (List.reverse (KTBy.low x 32))) = _
    rw [List.map_reverse, KTBy.low_ints h0 h1, ← KTBy.little_eq])
  refine wpAny_bind (m := mkBytes _) ?_
  show wpAny _ _ (mkBytes ((KTBy.low x (Int.toNat 32)).reverse.toArray)) _ _ _
  rw [e]
  exact wpAny_mkBytes (wpAny_pure h) (by rw [dg_size, sizeLine_eq]; decide)
theorem call_tb {x : Int} {t u v : Tok} {Q : Value → Shared → Prop} (h0 : 0 ≤ x) (h1 : x < 256 ^ 32) (h : ∀ t' k, Q (.bytes (dg x) t') { s with toks := k }) :
    wpAny (model prog w) A (call (.builtin "int.to_bytes") [.int x t, .int 32 u, .str (PySem.Str.ofString "big") v]) Q E s :=
  wpAny_call_entry KTBy.slot (typeIs_int s x t) KTBy.entry (tb_tree h0 h1 ⟨_, rfl, h _ _⟩) (KTBy.args _ _ _)
theorem call_tb_mod {x p : Int} {t u v : Tok} {Q : Value → Shared → Prop} (hp : p = pP) (h : ∀ t' k, Q (.bytes (dg (x.fmod pP)) t') { s with toks := k }) :
    wpAny (model prog w) A (call (.builtin "int.to_bytes") [.int (x.fmod p) t, .int 32 u, .str (PySem.Str.ofString "big") v]) Q E s := by
  subst hp
  refine call_tb ?_ ?_ h
  · rw [fm]; exact Int.emod_nonneg _ (Int.ne_of_gt pP_pos)
  · rw [fm]; exact Int.lt_trans (Int.emod_lt_of_pos _ pP_pos) pP_lt

/-- the square of an int of at most 2^24 bits, by the constant -/
theorem sq_int {a : Int} {t u : Tok} {Q : Value → Shared → Prop} (hsz : Builtin.Int.intBits a ≤ 16777216) (h : ∀ t' k, Q (.int (a ^ 2) t') { s with toks := k }) :
    wpAny (model prog w) A (binaryOp .Pow (.int a t) (.int 2 u)) Q E s :=
  pow_int (by decide) (by omega) (h _ _)
theorem mul_any {a b : Int} {t u : Tok} {Q : Value → Shared → Prop} {i j : Nat} (ha : Builtin.Int.intBits a ≤ i) (hb : Builtin.Int.intBits b ≤ j) (hij : i + j ≤ 67108864) (h : ∀ t' k, Q (.int (a * b) t') { s with toks := k }) :
    wpAny (model prog w) A (binaryOp .Mult (.int a t) (.int b u)) Q E s := by
  refine mul_int (h _ _) ?_
  unfold IntMulOk
  intro hc
  rw [Bool.and_eq_true] at hc
  have := of_decide_eq_true (show decide (((Builtin.Int.intBits a + Builtin.Int.intBits b : Nat) : Int) > 2 ^ 27) = true from hc.2)
  omega
/-- += of bytes -/
theorem noI_bytes_add : typeLookup (.type "bytes") (dunderI "add") = pure none := by rw [typeLookup_type, builtinLookup_eq_fast]; kernel_rfl
theorem iadd_bytes {b c : Array UInt8} {t u : Tok} {Q : Value → Shared → Prop} (hsz : b.size + c.size ≤ 16777216) (h : ∀ t' k, Q (.bytes (b ++ c) t') { s with toks := k }) :
    wpAny (model prog w) A (inplaceOp .Add (.bytes b t) (.bytes c u)) Q E s := by
  refine iconcat_gives (typeIs_bytes s b t) (typeIs_bytes s c u) noI_bytes_add KBy.noFill_bytes_add KBy.seq_bytes_add FB.slot_bytes_add FB.entry_bytes_add (FB.args_bytes_add_2 _ _) (KBy.gives_bytes_add (KBy.tooLong_not hsz)) ?_
  rcases Decidable.em (b.isEmpty = true) with hb | hb
  · have h' := h u s.toks
    rw [Array.isEmpty_iff.1 hb, Array.empty_append] at h'
    rw [if_pos hb]
    exact h'
  rw [if_neg hb]
  rcases Decidable.em (c.isEmpty = true) with hc | hc
  · have h' := h t s.toks
    rw [Array.isEmpty_iff.1 hc, Array.append_empty] at h'
    rw [if_pos hc]
    exact h'
  · rw [if_neg hc]
    exact ⟨by rw [Array.size_append, sizeLine_eq]; exact hsz, h _ _⟩
/-- a row cut in two is the row -/
theorem cut_app {b : Array UInt8} {k : Int} (h0 : 0 ≤ k) (h1 : k ≤ b.size) : KBy.picked b none (some k) ++ KBy.picked b (some k) none = b := by
  obtain ⟨n, rfl⟩ := Int.eq_ofNat_of_zero_le h0
  have hn : n ≤ b.size := by omega
  rw [KBc.picked_eq, KBc.picked_eq]
  simp only [Option.elim]
  rw [clipAt_nat, Nat.min_eq_left hn, List.drop_zero, Nat.sub_zero, List.take_of_length_le (l := b.toList.drop n) (by rw [List.length_drop, Array.length_toList]; exact Nat.le_refl _), List.append_toArray, List.take_append_drop, Array.toArray_toList]
theorem eq_same {b c : Array UInt8} {t u : Tok} {Q : Value → Shared → Prop} (e : b = c) (h : Q (.bool true) s) : wpAny (model prog w) A (compareOp .Eq (.bytes b t) (.bytes c u)) Q E s := by
  subst e
  refine eq_bytes ?_
  rw [beq_self_eq_true]
  exact h
theorem ne_same {b c : Array UInt8} {t u : Tok} {Q : Value → Shared → Prop} (e : b = c) (h : Q (.bool false) s) : wpAny (model prog w) A (compareOp .NotEq (.bytes b t) (.bytes c u)) Q E s := by
  subst e
  refine ne_bytes ?_
  rw [bne, beq_self_eq_true]
  exact h
end
end
/-! part Loops -/
section
def Halt (p : Prop) : Prop := p
theorem halt {p : Prop} (h : Halt p) : p := h
theorem bits_P {x : Int} (h0 : 0 ≤ x) (h1 : x < pP) : Builtin.Int.intBits x ≤ 255 := by
  refine intBits_le_iff.mpr ?_
  have hp : pP < ((2 ^ 255 : Nat) : Int) := by decide +kernel
  omega
theorem bits_fmod {x p : Int} (hp : p = pP) : Builtin.Int.intBits (x.fmod p) ≤ 255 := by
  subst hp
  rw [fm]
  exact bits_P (Int.emod_nonneg _ (Int.ne_of_gt pP_pos)) (Int.emod_lt_of_pos _ pP_pos)
/-- the octets of a number by turns, lowest first -/
def lowStep (c : List Int × Int) (_ : Int) : List Int × Int := (c.1 ++ [c.2.fmod 256], c.2.fdiv 256)
theorem foldl_low : ∀ (l : List Int) (acc : List Int) (v : Int), (l.foldl lowStep (acc, v)).1 = acc ++ KTBy.little l.length v
  | [], acc, v => by simp [KTBy.little]
  | k :: r, acc, v => by
    rw [List.foldl_cons]
    show (r.foldl lowStep (acc ++ [v.fmod 256], v.fdiv 256)).1 = _
    rw [foldl_low r, List.length_cons, KTBy.little, Int.fmod_eq_emod_of_nonneg _ (by decide), Int.fdiv_eq_ediv_of_nonneg _ (by decide), List.append_assoc]
    rfl
section
variable {prog : Program} {w : World} {A : Around} {E : Value → Shared → Prop} {s : Shared} {env : Env} {h₀ : Heap} {x y : Str} {body : List Stmt} {Q : Flow → Shared → Prop} {m₀ : Str → Option Value} {news : List (Addr × Obj)}
theorem range_low {r l : Addr} {V : Int} {tv t₀ u₀ v₀ : Tok} {n : Nat} (hh : A.handled = none) (hr : IsRange s.heap r 0 (n : Int) 1 t₀ u₀ v₀) (hsmall : Builtin.Range.small 0 (n : Int) 1 = true) (hn : Builtin.Range.rangeSize 0 (n : Int) 1 = (n : Int))
    (F : Fr h₀ env.locals s.heap m₀) (N : News h₀ env.locals s.heap ((l, listOf #[] 0) :: news)) (hv : m₀ y = some (.int V tv))
    (turn : ∀ k t low a ta vs nk h tk own, IntsAre vs low → vs.length < n → OwnOff own (l :: news.map (·.1)) → Fr h₀ env.locals h (fun z => if z = x then some (.int k t) else if z = y then some (.int a ta) else m₀ z) → News h₀ env.locals h ((l, listOf (List.toArray vs) nk) :: (news ++ own)) →
      wpAny (model prog w) A (execs body env) (InvPostN h₀ env.locals (fun m' nx => (∃ t', m' y = some (.int (a.fdiv 256) t')) ∧ (∃ vs' nk', nx = (l, listOf (List.toArray vs') nk') :: news ∧ IntsAre vs' (low ++ [a.fmod 256])) ∧ ∀ z, z ≠ x → z ≠ y → m' z = m₀ z) own (l :: news.map (·.1)) { s with heap := h, toks := tk } Q) E { s with heap := h, toks := tk })
    (done : ∀ (u : Str → Option Value) a t vs nk h tk, IntsAre vs (KTBy.little n V) → Fr h₀ env.locals h (fun z => if z = x then u z else if z = y then some (.int a t) else m₀ z) → News h₀ env.locals h ((l, listOf (List.toArray vs) nk) :: news) → Q .next { s with heap := h, toks := tk }) :
    wpAny (model prog w) A (pyIter (.ref r)) (fun it s₂ => LoopAtV prog w A h₀ env x body Q E it s₂) E s := by
  refine wpAny_pyIter_range hr hsmall ?_
  have W : Walks prog w A s.heap.objs.size [s.heap.objs.size] [s.heap.objs.size] n (fun i v => i < n ∧ ∃ t, v = .int (0 + i * 1) t)
      (fun i h => IsRangeIter h s.heap.objs.size (0 + (i : Nat) * 1) ((n : Int) - (i : Nat)) 1) := (Walks.range hh _ 0 1 n).bound
  refine loop_invN (fun i m nx => ((rangeKs 0 n).take i).length = i ∧ (∃ t, m y = some (.int (((rangeKs 0 n).take i).foldl lowStep ([], V)).2 t)) ∧ (∃ vs nk, nx = (l, listOf (List.toArray vs) nk) :: news ∧ IntsAre vs (((rangeKs 0 n).take i).foldl lowStep ([], V)).1) ∧ ∀ z, z ≠ x → z ≠ y → m z = m₀ z) W ?_ ?_ ?_ ?_ (by show IsRangeIter _ _ _ _ _; rw [hn]; simpa using Heap.get?_push_size _ rfl) (F.push _) (fun p hp => ⟨Heap.get?_push_of_some _ (N p hp).1, (N p hp).2⟩) ⟨rfl, ⟨tv, hv⟩, ⟨[], 0, rfl, IntsAre.nil⟩, fun _ _ _ => rfl⟩ ?_ ?_
  · intro hm
    exact absurd F.ns.lt ((List.mem_singleton.mp hm) ▸ Nat.lt_irrefl _)
  · intro b' hb
    rw [List.mem_singleton.mp hb]
    exact next_is_new F
  · intro p hp hI
    exact absurd (Heap.lt_size (N p hp).1) ((List.mem_singleton.mp hI) ▸ Nat.lt_irrefl _)
  · intro p hp hI
    exact absurd (Heap.lt_size (N p hp).1) ((List.mem_singleton.mp hI) ▸ Nat.lt_irrefl _)
  · rintro i v m₁ nx h tk own hin ⟨_, t, rfl⟩ _ hsep ⟨hi, ⟨ta, ha⟩, ⟨vs, nk, rfl, hI⟩, hm⟩ F₁ N₁
    rw [map_one ha hm] at F₁
    have hk : (rangeKs 0 n)[i]? = some (0 + (i : Int) * 1) := by
      unfold rangeKs
      rw [List.getElem?_map, List.getElem?_range hin]
      simp
    have hs : (rangeKs 0 n).take (i + 1) = (rangeKs 0 n).take i ++ [0 + (i : Int) * 1] := by
      rw [List.take_add_one, hk]; rfl
    have hl : vs.length < n := by
      rw [hI.length, foldl_low, List.nil_append, KTBy.little_length, hi]
      exact hin
    have hsep' : OwnOff own (l :: news.map (·.1)) := hsep
    have T := turn (0 + (i : Int) * 1) t _ _ ta vs nk h tk own hI hl hsep' F₁ N₁
    refine wpAny_mono T (fun f s₂ p => ?_) fun _ _ e => e
    have fin : ∀ {J J' : (Str → Option Value) → List (Addr × Obj) → Prop} {s₁ s₂ : Shared} {adr : List Addr}, (∀ m nx, J m nx → J' m nx) → InvEndN h₀ env.locals J own adr s₁ s₂ → InvEndN h₀ env.locals J' own adr s₁ s₂ := by
      rintro J J' s₁ s₂ adr hJ ⟨h', tk, m', news', nx, e, F', N', h1, h2, h3, h4⟩
      exact ⟨h', tk, m', news', nx, e, F', N', h1, h2, h3, hJ _ _ h4⟩
    have conv : ∀ (m : Str → Option Value) (nx : List (Addr × Obj)), ((∃ t', m y = some (.int ((((rangeKs 0 n).take i).foldl lowStep ([], V)).2.fdiv 256) t')) ∧ (∃ vs' nk', nx = (l, listOf (List.toArray vs') nk') :: news ∧ IntsAre vs' ((((rangeKs 0 n).take i).foldl lowStep ([], V)).1 ++ [(((rangeKs 0 n).take i).foldl lowStep ([], V)).2.fmod 256])) ∧ ∀ z, z ≠ x → z ≠ y → m z = m₀ z) →
        (((rangeKs 0 n).take (i + 1)).length = i + 1 ∧ (∃ t, m y = some (.int (((rangeKs 0 n).take (i + 1)).foldl lowStep ([], V)).2 t)) ∧ (∃ vs nk, nx = (l, listOf (List.toArray vs) nk) :: news ∧ IntsAre vs (((rangeKs 0 n).take (i + 1)).foldl lowStep ([], V)).1) ∧ ∀ z, z ≠ x → z ≠ y → m z = m₀ z) := by
      rintro m nx ⟨h1, h2, h3⟩
      rw [hs, List.foldl_append]
      exact ⟨by rw [List.length_append, hi]; rfl, h1, h2, h3⟩
    cases f with
    | ret v => exact p
    | brk => exact p
    | next => exact fin conv p
    | cont => exact fin conv p
  · rintro m₁ nx h tk ⟨hi, ⟨t, ha⟩, ⟨vs, nk, rfl, hI⟩, hm⟩ F₁ N₁
    rw [foldl_low, List.nil_append, hi] at hI
    refine done m₁ (((rangeKs 0 n).take n).foldl lowStep ([], V)).2 t vs nk h tk hI ?_ N₁
    rw [done_one ha hm]; exact F₁
theorem low_end {L l : Addr} {m' : Str → Option Value} {own : List (Addr × Obj)} {s₁ : Shared} {h' : Heap} {tk nk : Nat} {vs : List Value} {low : List Int} {a : Int} {t : Tok}
    (F' : Fr h₀ L h' m') (N' : News h₀ L h' ((l, listOf ((List.toArray vs).push (.int (a.fmod 256) t)) nk) :: (news ++ own))) (hI : IntsAre vs low) (hm : ∃ t', m' y = some (.int (a.fdiv 256) t')) (hz : ∀ z, z ≠ x → z ≠ y → m' z = m₀ z) :
    InvEndN h₀ L (fun m' nx => (∃ t', m' y = some (.int (a.fdiv 256) t')) ∧ (∃ vs' nk', nx = (l, listOf (List.toArray vs') nk') :: news ∧ IntsAre vs' (low ++ [a.fmod 256])) ∧ ∀ z, z ≠ x → z ≠ y → m' z = m₀ z) own (l :: news.map (·.1)) s₁ { s₁ with heap := h', toks := tk } := by
  rw [List.push_toArray] at N'
  refine InvEndN.intro (nx := (l, listOf (List.toArray (vs ++ [.int (a.fmod 256) t])) nk) :: news) F' N' ⟨hm, ⟨_, _, rfl, hI.append (IntsAre.cons _ _ IntsAre.nil)⟩, hz⟩ rfl ?_ ?_
  · intro p hp
    rcases List.mem_cons.1 hp with rfl | hp
    · exact List.mem_cons_self ..
    · exact List.mem_cons_of_mem _ (List.mem_append.2 (.inl hp))
  · exact fun p hp => List.mem_cons_of_mem _ (List.mem_append.2 (.inr hp))
end
end
/-! part Enc -/
section
/-- the tags that the law draws from -/
def tagL : List Str := [Str.ofString "TapLeaf", Str.ofString "TapBranch", Str.ofString "TapSighash", Str.ofString "TapTweak", Str.ofString "", Str.ofString "a"]
@[irreducible] def enc (x : Str) : Array UInt8 := (x.cps.toList.map Nat.toUInt8).toArray
theorem tag_cases {p : Str → Prop} {x : Str} (hx : x ∈ tagL) (h1 : p (Str.ofString "TapLeaf")) (h2 : p (Str.ofString "TapBranch")) (h3 : p (Str.ofString "TapSighash")) (h4 : p (Str.ofString "TapTweak")) (h5 : p (Str.ofString "")) (h6 : p (Str.ofString "a")) : p x := by
  unfold tagL at hx
  simp only [List.mem_cons, List.not_mem_nil, or_false] at hx
  rcases hx with rfl | rfl | rfl | rfl | rfl | rfl <;> assumption
theorem enc_size {x : Str} (hx : x ∈ tagL) : (enc x).size ≤ 16 :=
  tag_cases (p := fun x => (enc x).size ≤ 16) hx (by unfold enc; decide +kernel) (by unfold enc; decide +kernel) (by unfold enc; decide +kernel) (by unfold enc; decide +kernel) (by unfold enc; decide +kernel) (by unfold enc; decide +kernel)
open Builtin._codecs in
theorem enc_narrow {x : Str} (hx : x ∈ tagL) : ∀ t : Tok, encodeNarrow "str.encode" utf8Codec none (.str x t) x = pure (enc x) := by
  unfold enc
  exact tag_cases (p := fun x => ∀ t : Tok, encodeNarrow "str.encode" utf8Codec none (.str x t) x = pure ((x.cps.toList.map Nat.toUInt8).toArray)) hx (fun t => by kernel_rfl) (fun t => by kernel_rfl) (fun t => by kernel_rfl) (fun t => by kernel_rfl) (fun t => by kernel_rfl) (fun t => by kernel_rfl)
section
variable {prog : Program} {w : World} {M : Model} {A : Around} {E : Value → Shared → Prop} {s : Shared} {x : Str} {t : Tok}
theorem get_encode {pl : Sem Bool} {Q : Value × List Value → Shared → Prop} (h : Q (.builtin "str.encode", [.str x t]) s) : wpAny M A (getMethod (.str x t) (Str.ofString "encode") pl) Q E s :=
  getMethod_builtin (typeIs_str _ _ _) F.plainAttrs_str F.slot_str_encode F.type_str_encode (fun _ e => nomatch e) h
theorem call_encode {Q : Value → Shared → Prop} (hx : x ∈ tagL) (h : ∀ t' k, Q (.bytes (enc x) t') { s with toks := k }) : wpAny (model prog w) A (call (.builtin "str.encode") [.str x t]) Q E s := by
  refine wpAny_call_entry F.slot_str_encode rfl F.entry_str_encode ?_ (F.args_str_encode_1 _)
  rw [encode_tree, encodeRoad_utf8, enc_narrow hx]
  refine wpAny_bind (wpAny_bind (wpAny_pure ?_))
  exact wpAny_mkBytes (wpAny_pure ⟨_, rfl, h _ _⟩) (by rw [sizeLine_eq]; have := enc_size hx; omega)
end
end
/-! part C1 -/
section
noncomputable abbrev lsW : List Str := looseW hd.view_39 [Str.ofString "Sha256", Str.ofString "hashlib", Str.ofString "tagged_hash_init"]
/-- the dict of a hasher that holds a row -/
abbrev shaD (w : World) (b : Array UInt8) (t u : Tok) : Obj := dictOf [⟨PyData.keyHash w.params (Str.ofString "data"), .str (Str.ofString "data") u, .bytes b t⟩] 1
local macro_rules | `(tactic| k_room) => `(tactic| ktr_room)
local macro_rules | `(tactic| k_mem) => `(tactic| ((show Membership.mem (_ : List (Addr × Obj)) (_ : Addr × Obj)); ktr_member))
section
variable {w : World} {mean : ExcName → Option Value} {mg mb : Str → Option Value} {dp un : Nat} {gd : Option (List Code)} {cn : Str} {cs : Scope} {a : Addr} {ccd : Value} {cl : List (Str × Addr)} {outer : List Env} {A₀ : Around} {base h₀ : Heap} {L : Addr} {m : Str → Option Value} {s : Shared} {Q E : Value → Shared → Prop} {news : List (Addr × Obj)} {b c : Array UInt8} {t u : Tok}
theorem c_sha
  (B : Below A₀ base outer h₀) (F : Fr h₀ L s.heap m) (X : (hd.heap_39 w.params).In h₀) (N : News h₀ L s.heap news) (T : Top hd.view_39 lsW mean mg mb h₀) (hk : cs.kind = .function)
  (hdp : dp + 1 < recursionLimit) (hun : un + 8 < cLine)
  (ret : ∀ x d t' t'' h' tk', Fr h₀ L h' m → News h₀ L h' ((x, instObj 46 d) :: (d, shaD w b t' t'') :: news) → (∀ p ∈ news, p.1 < d) → d < x → Q (.ref x) { s with heap := h', toks := tk' }) :
  wpAny (model PySem.Challenge.rw_fp5008_01.row.prog w) (ktrTop dp un gd cn cs L a ccd cl outer) (call (.ref 46) [.bytes b t]) Q E s := by
  revert X; k_fill; intro X
  w_on
  obtain ⟨kind, names, ig, ic, more⟩ := cs
  dsimp only at hk
  subst hk
  w_strict k_steps
  rename Fr _ _ _ _ => kF
  rename News _ _ _ _ => kN
  exact ret _ _ _ _ _ _ kF kN (by assumption) (by assumption)
theorem c_sha0
  (B : Below A₀ base outer h₀) (F : Fr h₀ L s.heap m) (X : (hd.heap_39 w.params).In h₀) (N : News h₀ L s.heap news) (T : Top hd.view_39 lsW mean mg mb h₀) (hk : cs.kind = .function)
  (hdp : dp + 1 < recursionLimit) (hun : un + 8 < cLine)
  (ret : ∀ x d t' t'' h' tk', Fr h₀ L h' m → News h₀ L h' ((x, instObj 46 d) :: (d, shaD w #[] t' t'') :: news) → (∀ p ∈ news, p.1 < d) → d < x → Q (.ref x) { s with heap := h', toks := tk' }) :
  wpAny (model PySem.Challenge.rw_fp5008_01.row.prog w) (ktrTop dp un gd cn cs L a ccd cl outer) (call (.ref 46) []) Q E s := by
  revert X; k_fill; intro X
  w_on
  obtain ⟨kind, names, ig, ic, more⟩ := cs
  dsimp only at hk
  subst hk
  w_strict k_steps
  rename Fr _ _ _ _ => kF
  rename News _ _ _ _ => kN
  exact ret _ _ _ _ _ _ kF kN (by assumption) (by assumption)
local macro_rules | `(tactic| kba_size) => `(tactic| ((try dsimp only); (simp only [Array.size_append, List.size_toArray, List.length_cons, List.length_nil, dig_size]); omega))
local macro_rules | `(tactic| walk_at "binaryOp Add bytes bytes") => `(tactic| (k_here; (with_reducible show wpAny _ _ (binaryOp Operator.Add (Value.bytes _ _) (Value.bytes _ _)) _ _ _); (refine KBy.add_bytes (by kba_size) ?_); intro _ _; (try dsimp only)))
local macro_rules | `(tactic| walk_at "call ref") => `(tactic| (k_here; (with_reducible show wpAny _ _ (call (Value.ref _) [Value.bytes _ _, Value.str _ _]) _ _ _); kfb_any; k_dflt (refine call_fb (by k_asm) (by k_mem) (by kba_size) ?_); intro _ _; (try dsimp only)))
local macro_rules | `(tactic| walk_at "binaryOp Pow int int") => `(tactic| (k_here; (with_reducible show wpAny _ _ (binaryOp Operator.Pow (Value.int (KFB.value _) _) (Value.int 2 _)) _ _ _); (refine sq_int (Nat.le_trans (value_bits (n := 1048576) (by kba_size)) (by decide)) ?_); intro _ _; (try dsimp only)))
local macro_rules | `(tactic| walk_at "binaryOp Mult int int") => `(tactic| (k_here; (with_reducible show wpAny _ _ (binaryOp Operator.Mult (Value.int (HPow.hPow (KFB.value _) _) _) (Value.int _ _)) _ _ _); (refine mul_any (i := 16777217) (j := 126) (Nat.le_trans (intBits_pow_le (value_bits (n := 1048576) (by kba_size)) 2) (by decide)) (by decide +kernel) (by decide) ?_); intro _ _; (try dsimp only)))
local macro_rules | `(tactic| walk_at "call builtin:int.to_bytes") => `(tactic| (k_here; k_dflt (refine call_tb_mod (by decide +kernel) ?_); intro _ _; (try dsimp only)))
theorem c_digest {x d : Addr} {t₁ t₂ : Tok}
  (B : Below A₀ base outer h₀) (F : Fr h₀ L s.heap m) (X : (hd.heap_39 w.params).In h₀) (N : News h₀ L s.heap news) (T : Top hd.view_39 lsW mean mg mb h₀) (hk : cs.kind = .function)
  (hdp : dp + 1 < recursionLimit) (hun : un + 8 < cLine) (hx : (x, instObj 46 d) ∈ news) (hdd : (d, shaD w b t₁ t₂) ∈ news) (hb : b.size ≤ 1000000)
  (ret : ∀ t' h' tk', Fr h₀ L h' m → News h₀ L h' news → Q (.bytes (dig b) t') { s with heap := h', toks := tk' }) :
  wpAny (model PySem.Challenge.rw_fp5008_01.row.prog w) (ktrTop dp un gd cn cs L a ccd cl outer) (call (.ref 43) [.ref x]) Q E s := by
  revert X; k_fill; intro X
  w_on
  obtain ⟨kind, names, ig, ic, more⟩ := cs
  dsimp only at hk
  subst hk
  w_strict k_steps
  rename Fr _ _ _ _ => kF
  rename News _ _ _ _ => kN
  rw [dig_eq] at ret
  exact ret _ _ _ kF (fun p hp => kN p (List.mem_cons_of_mem _ hp))
end
end
/-! part C2 -/
section
local macro_rules | `(tactic| k_room) => `(tactic| ktr_room)
local macro_rules | `(tactic| k_mem) => `(tactic| ((show Membership.mem (_ : List (Addr × Obj)) (_ : Addr × Obj)); ktr_member))
local macro_rules | `(tactic| k_all) => `(tactic| assumption)
local macro_rules | `(tactic| kba_size) => `(tactic| ((try dsimp only); (simp only [Array.size_append, List.size_toArray, List.length_cons, List.length_nil, dig_size]); omega))
local macro_rules | `(tactic| walk_at "binaryOp Mult int int") => `(tactic| (k_here; (first
  | (refine mul_any (i := 255) (j := 255) (bits_P (by assumption) (by assumption)) (bits_P (by assumption) (by assumption)) (by decide) ?_)
  | (refine mul_any (i := 255) (j := 126) (bits_fmod (by decide +kernel)) (by decide +kernel) (by decide) ?_)); intro _ _; (try dsimp only)))
local macro_rules | `(tactic| walk_at "call builtin:list.append") => `(tactic| (k_here; k_dflt (refine' append_K ?k1 ?k2 ?k3 ?_ ?z; (case k1 => k_asm); (case k2 => k_asm); (case k3 => k_upd); (case z => (rw [List.size_toArray, sizeLine_eq]; omega)); k_whole); intro h' F' N'; (try k_sweep); (try dsimp only)))
local macro_rules | `(tactic| walk_at "subscriptTail Name Slice ref ref") => `(tactic| (k_here; k_dflt (refine' krv_ints ?F ?N ?l ?k ?i ?_ ?s ?t ?z; (case F => k_asm); (case N => k_asm); (case l => exact News.isList (by k_asm) (by k_mem)); (case k => exact IsPart.int _ _); (case i => assumption); (case s => with_unfolding_all rfl); (case t => kmk_pure); (case z => (rw [List.size_toArray, sizeLine_eq, IntsAre.length (by assumption), KTBy.little_length]; decide))); intro D' ws' h' F' N' l1 hI' hC'; (try dsimp only)))
local macro_rules | `(tactic| walk_at "call type:bytes") => `(tactic| (k_here; k_dflt (refine' KBa.make_K ?kbaF ?kbaN ?kbah ?kbal ?kbai ?kbar ?kban ?_; (case kbaF => k_asm); (case kbaN => k_asm); (case kbah => rfl); (case kbal => exact News.isList (by k_asm) (by k_mem)); (case kbai => assumption); (case kbar => exact in_rev (in_little _ _)); (case kban => (rw [List.length_reverse, KTBy.little_length]; decide))); intro _ _ _ F' N' kbaIn; (try dsimp only)))
section
variable {w : World} {mean : ExcName → Option Value} {mg mb : Str → Option Value} {dp un : Nat} {gd : Option (List Code)} {cn : Str} {cs : Scope} {a : Addr} {ccd : Value} {cl : List (Str × Addr)} {outer : List Env} {A₀ : Around} {base h₀ : Heap} {L : Addr} {m : Str → Option Value} {s : Shared} {Q E : Value → Shared → Prop} {news : List (Addr × Obj)} {b c : Array UInt8} {t u : Tok}
local macro_rules | `(tactic| walk_at "pyIter ref") => `(tactic| refine halt ?_)
local macro_rules | `(tactic| walk_at "InvEndN") => `(tactic| refine halt ?_)
theorem c_seal {v : Int}
  (B : Below A₀ base outer h₀) (F : Fr h₀ L s.heap m) (X : (hd.heap_39 w.params).In h₀) (N : News h₀ L s.heap news) (T : Top hd.view_39 lsW mean mg mb h₀) (hk : cs.kind = .function)
  (hdp : dp + 1 < recursionLimit) (hun : un + 8 < cLine) (h0 : 0 ≤ v) (h1 : v < pP)
  (ret : ∀ t' h' tk', Fr h₀ L h' m → News h₀ L h' news → Q (.bytes (sealv v) t') { s with heap := h', toks := tk' }) :
  wpAny (model PySem.Challenge.rw_fp5008_01.row.prog w) (ktrTop dp un gd cn cs L a ccd cl outer) (call (.ref 139) [.int v t]) Q E s := by
  revert X; k_fill; intro X
  w_on
  obtain ⟨kind, names, ig, ic, more⟩ := cs
  dsimp only at hk
  subst hk
  w_strict k_steps
  unfold Halt
  rename_i l hA l1 hB F1 N1 hC tkC t1 u1 v1 hr F2 N2 hkeep
  have hl : ∀ p ∈ news, p.1 ≠ l := fun p hp => Nat.ne_of_lt (l1 p hp)
  with_unfolding_all refine range_low (n := 32) (y := Str.ofString "value") rfl hr (by decide) (by rfl) F2 N2 (by rfl) ?_ ?_
  · intro k t low av ta vs nk hh tk own hI hlen hoff F' N'
    have hall : ∀ p ∈ news ++ own, p.1 ≠ l := fun p hp => (List.mem_append.1 hp).elim (hl p) (fun h => hoff p h l (List.mem_cons_self ..))
    clear hr F2 N2 F1 N1
    w_strict k_steps
    unfold Halt
    rename Fr _ _ _ _ => F9
    rename News _ _ _ _ => N9
    exact low_end F9 N9 hI ⟨_, rfl⟩ (by intro z h1 h2; dsimp only; rw [if_neg h2, if_neg h1, if_neg h2])
  · intro u av t vs nk hh tk hI F' N'
    clear hr F2 N2 F1 N1
    w_strict k_steps

    rename Fr _ _ _ _ => kF
    rename News _ _ _ _ => kN
    exact ret _ _ _ kF (fun p hp => kN p (by simp [hp]))
theorem c_sealst
  (B : Below A₀ base outer h₀) (F : Fr h₀ L s.heap m) (X : (hd.heap_39 w.params).In h₀) (N : News h₀ L s.heap news) (T : Top hd.view_39 lsW mean mg mb h₀) (hk : cs.kind = .function)
  (hdp : dp + 1 < recursionLimit) (hun : un + 8 < cLine)
  (ret : ∀ t' h' tk', Fr h₀ L h' m → News h₀ L h' news → Q (.bytes (dig b) t') { s with heap := h', toks := tk' }) :
  wpAny (model PySem.Challenge.rw_fp5008_01.row.prog w) (ktrTop dp un gd cn cs L a ccd cl outer) (call (.ref 139) [.int (st b) t]) Q E s := by
  rw [← sealv_st] at ret
  exact c_seal B F X N T hk hdp hun (st_range b).1 (st_range b).2 ret
end
end
/-! part C3 -/
section
local macro_rules | `(tactic| k_room) => `(tactic| ktr_room)
local macro_rules | `(tactic| k_mem) => `(tactic| ((show Membership.mem (_ : List (Addr × Obj)) (_ : Addr × Obj)); ktr_member))
local macro_rules | `(tactic| k_all) => `(tactic| assumption)
local macro_rules | `(tactic| kba_size) => `(tactic| ((try dsimp only); (simp only [Array.size_append, List.size_toArray, List.length_cons, List.length_nil, dig_size]); omega))
section
variable {w : World} {mean : ExcName → Option Value} {mg mb : Str → Option Value} {dp un : Nat} {gd : Option (List Code)} {cn : Str} {cs : Scope} {a : Addr} {ccd : Value} {cl : List (Str × Addr)} {outer : List Env} {A₀ : Around} {base h₀ : Heap} {L : Addr} {m : Str → Option Value} {s : Shared} {Q E : Value → Shared → Prop} {news : List (Addr × Obj)} {b c : Array UInt8} {t u : Tok}
local macro_rules | `(tactic| walk_at "pyIter bytes") => `(tactic| refine halt ?_)
local macro_rules | `(tactic| walk_at "InvEndN") => `(tactic| refine halt ?_)
theorem c_fold {v : Int}
  (B : Below A₀ base outer h₀) (F : Fr h₀ L s.heap m) (X : (hd.heap_39 w.params).In h₀) (N : News h₀ L s.heap news) (T : Top hd.view_39 lsW mean mg mb h₀) (hk : cs.kind = .function)
  (hdp : dp + 1 < recursionLimit) (hun : un + 8 < cLine)
  (ret : ∀ t' h' tk', Fr h₀ L h' m → News h₀ L h' news → Q (.int (fold v b) t') { s with heap := h', toks := tk' }) :
  wpAny (model PySem.Challenge.rw_fp5008_01.row.prog w) (ktrTop dp un gd cn cs L a ccd cl outer) (call (.ref 132) [.int v t, .bytes b u]) Q E s := by
  revert X; k_fill; intro X
  w_on
  obtain ⟨kind, names, ig, ic, more⟩ := cs
  dsimp only at hk
  subst hk
  w_strict k_steps
  unfold Halt
  rename Fr _ _ _ _ => F1
  rename News _ _ _ _ => N1
  with_unfolding_all refine KBw.iterBytes_acc1 (y := Str.ofString "state") stp rfl rfl F1 N1 (by rfl) ?_ ?_
  · intro k t av ta hh tk own hin h0 h1 hoff F' N'
    clear F1 N1
    w_strict k_steps
    unfold Halt
    rename Fr _ _ _ _ => F9
    rename News _ _ _ _ => N9
    refine InvEndN.intro F9 N9 ⟨rfl, ⟨_, rfl⟩, ?_⟩ rfl ?_ ?_
    · intro z h1 h2; dsimp only; rw [if_neg h2, if_neg h1, if_neg h2]
    · exact fun p hp => List.mem_append.2 (.inl hp)
    · exact fun p hp => List.mem_append.2 (.inr hp)
  · intro u t hh tk F' N'
    clear F1 N1
    w_strict k_steps
    rename Fr _ _ _ _ => kF
    rename News _ _ _ _ => kN
    exact ret _ _ _ kF kN
theorem c_st
  (B : Below A₀ base outer h₀) (F : Fr h₀ L s.heap m) (X : (hd.heap_39 w.params).In h₀) (N : News h₀ L s.heap news) (T : Top hd.view_39 lsW mean mg mb h₀) (hk : cs.kind = .function)
  (hdp : dp + 1 < recursionLimit) (hun : un + 8 < cLine)
  (ret : ∀ t' h' tk', Fr h₀ L h' m → News h₀ L h' news → Q (.int (st b) t') { s with heap := h', toks := tk' }) :
  wpAny (model PySem.Challenge.rw_fp5008_01.row.prog w) (ktrTop dp un gd cn cs L a ccd cl outer) (call (.ref 132) [.int 1 t, .bytes b u]) Q E s := by
  rw [st_eq] at ret
  exact c_fold B F X N T hk hdp hun ret
theorem c_stapp
  (B : Below A₀ base outer h₀) (F : Fr h₀ L s.heap m) (X : (hd.heap_39 w.params).In h₀) (N : News h₀ L s.heap news) (T : Top hd.view_39 lsW mean mg mb h₀) (hk : cs.kind = .function)
  (hdp : dp + 1 < recursionLimit) (hun : un + 8 < cLine)
  (ret : ∀ t' h' tk', Fr h₀ L h' m → News h₀ L h' news → Q (.int (st (b ++ c)) t') { s with heap := h', toks := tk' }) :
  wpAny (model PySem.Challenge.rw_fp5008_01.row.prog w) (ktrTop dp un gd cn cs L a ccd cl outer) (call (.ref 132) [.int (st b) t, .bytes c u]) Q E s := by
  rw [← st_append] at ret
  exact c_fold B F X N T hk hdp hun ret
end
end
/-! part C4 -/
section
local macro_rules | `(tactic| k_room) => `(tactic| ktr_room)
local macro_rules | `(tactic| k_mem) => `(tactic| ((show Membership.mem (_ : List (Addr × Obj)) (_ : Addr × Obj)); ktr_member))
local macro_rules | `(tactic| k_all) => `(tactic| assumption)
local macro_rules | `(tactic| kba_size) => `(tactic| ((try dsimp only); (simp only [Array.size_append, List.size_toArray, List.length_cons, List.length_nil, dig_size]); omega))
local macro_rules | `(tactic| walk_at "binaryOp Add bytes bytes") => `(tactic| (k_here; (with_reducible show wpAny _ _ (binaryOp Operator.Add (Value.bytes _ _) (Value.bytes _ _)) _ _ _); (refine KBy.add_bytes (by kba_size) ?_); intro _ _; (try dsimp only)))
section
variable {w : World} {mean : ExcName → Option Value} {mg mb : Str → Option Value} {dp un : Nat} {gd : Option (List Code)} {cn : Str} {cs : Scope} {a : Addr} {ccd : Value} {cl : List (Str × Addr)} {outer : List Env} {A₀ : Around} {base h₀ : Heap} {L : Addr} {m : Str → Option Value} {s : Shared} {Q E : Value → Shared → Prop} {news : List (Addr × Obj)} {b c : Array UInt8} {t u : Tok}
local macro_rules | `(tactic| walk_at "call ref") => `(tactic| (k_here; k_dflt (refine' c_sealst ?k1 ?k2 ?k3 ?k4 ?k5 ?kK ?kd ?ku  ?_; (case k1 => k_asm); (case k2 => k_asm); (case k3 => k_asm); (case k4 => k_asm); (case k5 => k_asm); (case kK => exact rfl); (case kd => ktr_room); (case ku => ktr_units);  k_whole); intro t9 h9 tk9 F' N'; (try k_sweep); (try dsimp only)))
local macro_rules | `(tactic| walk_at "call ref") => `(tactic| (k_here; k_dflt (refine' c_st ?k1 ?k2 ?k3 ?k4 ?k5 ?kK ?kd ?ku  ?_; (case k1 => k_asm); (case k2 => k_asm); (case k3 => k_asm); (case k4 => k_asm); (case k5 => k_asm); (case kK => exact rfl); (case kd => ktr_room); (case ku => ktr_units);  k_whole); intro t9 h9 tk9 F' N'; (try k_sweep); (try dsimp only)))
theorem c_plain 
  (B : Below A₀ base outer h₀) (F : Fr h₀ L s.heap m) (X : (hd.heap_39 w.params).In h₀) (N : News h₀ L s.heap news) (T : Top hd.view_39 lsW mean mg mb h₀) (hk : cs.kind = .function)
  (hdp : dp + 2 < recursionLimit) (hun : un + 16 < cLine) 
  (ret : ∀ t' h' tk', Fr h₀ L h' m → News h₀ L h' news → Q (.bytes (dig b) t') { s with heap := h', toks := tk' }) :
  wpAny (model PySem.Challenge.rw_fp5008_01.row.prog w) (ktrTop dp un gd cn cs L a ccd cl outer) (call (.ref 146) [.bytes b t]) Q E s := by
  revert X; k_fill; intro X
  w_on
  obtain ⟨kind, names, ig, ic, more⟩ := cs
  dsimp only at hk
  subst hk
  w_strict k_steps
  rename Fr _ _ _ _ => kF
  rename News _ _ _ _ => kN
  exact ret _ _ _ kF (fun p hp => kN p (by first | exact hp | exact List.mem_cons_of_mem _ hp | exact List.mem_cons_of_mem _ (List.mem_cons_of_mem _ hp) | simp [hp]))
local macro_rules | `(tactic| walk_at "call ref") => `(tactic| (k_here; k_dflt (refine' c_sha ?k1 ?k2 ?k3 ?k4 ?k5 ?kK ?kd ?ku  ?_; (case k1 => k_asm); (case k2 => k_asm); (case k3 => k_asm); (case k4 => k_asm); (case k5 => k_asm); (case kK => exact rfl); (case kd => ktr_room); (case ku => ktr_units);  k_whole); intro x' d' t9 t8 h9 tk9 F' N' l1 l2; (try k_lt l1); (try k_lt2 l2); (try k_sweep); (try dsimp only)))
local macro_rules | `(tactic| walk_at "call ref") => `(tactic| (k_here; k_dflt (refine' c_sha0 ?k1 ?k2 ?k3 ?k4 ?k5 ?kK ?kd ?ku  ?_; (case k1 => k_asm); (case k2 => k_asm); (case k3 => k_asm); (case k4 => k_asm); (case k5 => k_asm); (case kK => exact rfl); (case kd => ktr_room); (case ku => ktr_units);  k_whole); intro x' d' t9 t8 h9 tk9 F' N' l1 l2; (try k_lt l1); (try k_lt2 l2); (try k_sweep); (try dsimp only)))
theorem c_hash 
  (B : Below A₀ base outer h₀) (F : Fr h₀ L s.heap m) (X : (hd.heap_39 w.params).In h₀) (N : News h₀ L s.heap news) (T : Top hd.view_39 lsW mean mg mb h₀) (hk : cs.kind = .function)
  (hdp : dp + 2 < recursionLimit) (hun : un + 16 < cLine) 
  (ret : ∀ x d t' t'' h' tk', Fr h₀ L h' m → News h₀ L h' ((x, instObj 46 d) :: (d, shaD w (b) t' t'') :: news) → (∀ p ∈ news, p.1 < d) → d < x → Q (.ref x) { s with heap := h', toks := tk' }) :
  wpAny (model PySem.Challenge.rw_fp5008_01.row.prog w) (ktrTop dp un gd cn cs L a ccd cl outer) (call (.ref 65) [.bytes b t]) Q E s := by
  revert X; k_fill; intro X
  w_on
  obtain ⟨kind, names, ig, ic, more⟩ := cs
  dsimp only at hk
  subst hk
  w_strict k_steps
  rename Fr _ _ _ _ => kF
  rename News _ _ _ _ => kN
  exact ret _ _ _ _ _ _ kF kN (by assumption) (by assumption)
theorem c_hash0 
  (B : Below A₀ base outer h₀) (F : Fr h₀ L s.heap m) (X : (hd.heap_39 w.params).In h₀) (N : News h₀ L s.heap news) (T : Top hd.view_39 lsW mean mg mb h₀) (hk : cs.kind = .function)
  (hdp : dp + 2 < recursionLimit) (hun : un + 16 < cLine) 
  (ret : ∀ x d t' t'' h' tk', Fr h₀ L h' m → News h₀ L h' ((x, instObj 46 d) :: (d, shaD w (#[]) t' t'') :: news) → (∀ p ∈ news, p.1 < d) → d < x → Q (.ref x) { s with heap := h', toks := tk' }) :
  wpAny (model PySem.Challenge.rw_fp5008_01.row.prog w) (ktrTop dp un gd cn cs L a ccd cl outer) (call (.ref 65) []) Q E s := by
  revert X; k_fill; intro X
  w_on
  obtain ⟨kind, names, ig, ic, more⟩ := cs
  dsimp only at hk
  subst hk
  w_strict k_steps
  rename Fr _ _ _ _ => kF
  rename News _ _ _ _ => kN
  exact ret _ _ _ _ _ _ kF kN (by assumption) (by assumption)
end
end
/-! part C5 -/
section
theorem News.sub2 {h₀ h : Heap} {L : Addr} {p q r r' : Addr × Obj} {news : List (Addr × Obj)} (N : News h₀ L h (p :: q :: r :: r' :: news)) : News h₀ L h (p :: q :: news) := fun z hz => N z (by
  rcases List.mem_cons.1 hz with rfl | hz
  · exact List.mem_cons_self ..
  rcases List.mem_cons.1 hz with rfl | hz
  · exact List.mem_cons_of_mem _ (List.mem_cons_self ..)
  · exact List.mem_cons_of_mem _ (List.mem_cons_of_mem _ (List.mem_cons_of_mem _ (List.mem_cons_of_mem _ hz))))
local macro_rules | `(tactic| k_room) => `(tactic| ktr_room)
local macro_rules | `(tactic| k_mem) => `(tactic| ((show Membership.mem (_ : List (Addr × Obj)) (_ : Addr × Obj)); ktr_member))
local macro_rules | `(tactic| k_all) => `(tactic| assumption)
local macro_rules | `(tactic| kba_size) => `(tactic| ((try dsimp only); (simp only [Array.size_append, List.size_toArray, List.length_cons, List.length_nil, dig_size]); omega))
local macro_rules | `(tactic| walk_at "binaryOp Add bytes bytes") => `(tactic| (k_here; (with_reducible show wpAny _ _ (binaryOp Operator.Add (Value.bytes _ _) (Value.bytes _ _)) _ _ _); (refine KBy.add_bytes (by kba_size) ?_); intro _ _; (try dsimp only)))
local macro_rules | `(tactic| walk_at "getMethod str") => `(tactic| (k_here; (with_reducible refine get_encode ?_); (try dsimp only)))
local macro_rules | `(tactic| walk_at "call builtin:str.encode") => `(tactic| (k_here; k_dflt (refine call_encode (by assumption) ?_); intro _ _; (try dsimp only)))
local macro_rules | `(tactic| walk_at "subscriptTail") => `(tactic| (k_here; (with_reducible show wpAny _ _ (subscriptTail _ (Expr.Slice _ _ none _) (Value.bytes _ _) (Value.ref _)) _ _ _); (with_reducible rename Fr _ _ _ _ => F'); (with_reducible rename News _ _ _ _ => N'); (refine KBc.slice_K (s := ⟨_, _, _, _, _⟩) F' N' rfl (by constructor) (by constructor) (by rw [KBw.ints_length]; kba_size) ?_); intro h' _ _ F' N' _; (try k_sweep); (try dsimp only)))
section
variable {w : World} {mean : ExcName → Option Value} {mg mb : Str → Option Value} {dp un : Nat} {gd : Option (List Code)} {cn : Str} {cs : Scope} {a : Addr} {ccd : Value} {cl : List (Str × Addr)} {outer : List Env} {A₀ : Around} {base h₀ : Heap} {L : Addr} {m : Str → Option Value} {s : Shared} {Q E : Value → Shared → Prop} {news : List (Addr × Obj)} {b c : Array UInt8} {t u : Tok}
local macro_rules | `(tactic| walk_at "call ref") => `(tactic| (k_here; k_dflt (refine' c_sha ?k1 ?k2 ?k3 ?k4 ?k5 ?kK ?kd ?ku  ?_; (case k1 => k_asm); (case k2 => k_asm); (case k3 => k_asm); (case k4 => k_asm); (case k5 => k_asm); (case kK => exact rfl); (case kd => ktr_room); (case ku => ktr_units);  k_whole); intro x' d' t9 t8 h9 tk9 F' N' l1 l2; (try k_lt l1); (try k_lt2 l2); (try k_sweep); (try dsimp only)))
local macro_rules | `(tactic| walk_at "call ref") => `(tactic| (k_here; k_dflt (refine' c_sha0 ?k1 ?k2 ?k3 ?k4 ?k5 ?kK ?kd ?ku  ?_; (case k1 => k_asm); (case k2 => k_asm); (case k3 => k_asm); (case k4 => k_asm); (case k5 => k_asm); (case kK => exact rfl); (case kd => ktr_room); (case ku => ktr_units);  k_whole); intro x' d' t9 t8 h9 tk9 F' N' l1 l2; (try k_lt l1); (try k_lt2 l2); (try k_sweep); (try dsimp only)))
local macro_rules | `(tactic| walk_at "call ref") => `(tactic| (k_here; k_dflt (refine' c_hash ?k1 ?k2 ?k3 ?k4 ?k5 ?kK ?kd ?ku  ?_; (case k1 => k_asm); (case k2 => k_asm); (case k3 => k_asm); (case k4 => k_asm); (case k5 => k_asm); (case kK => exact rfl); (case kd => ktr_room); (case ku => ktr_units);  k_whole); intro x' d' t9 t8 h9 tk9 F' N' l1 l2; (try k_lt l1); (try k_lt2 l2); (try k_sweep); (try dsimp only)))
local macro_rules | `(tactic| walk_at "call ref") => `(tactic| (k_here; k_dflt (refine' c_hash0 ?k1 ?k2 ?k3 ?k4 ?k5 ?kK ?kd ?ku  ?_; (case k1 => k_asm); (case k2 => k_asm); (case k3 => k_asm); (case k4 => k_asm); (case k5 => k_asm); (case kK => exact rfl); (case kd => ktr_room); (case ku => ktr_units);  k_whole); intro x' d' t9 t8 h9 tk9 F' N' l1 l2; (try k_lt l1); (try k_lt2 l2); (try k_sweep); (try dsimp only)))
local macro_rules | `(tactic| walk_at "call ref") => `(tactic| (k_here; k_dflt (refine' c_digest ?k1 ?k2 ?k3 ?k4 ?k5 ?kK ?kd ?ku ?e0 ?e1 ?e2 ?_; (case k1 => k_asm); (case k2 => k_asm); (case k3 => k_asm); (case k4 => k_asm); (case k5 => k_asm); (case kK => exact rfl); (case kd => ktr_room); (case ku => ktr_units); (case e0 => k_mem); (case e1 => k_mem); (case e2 => kba_size); k_whole); intro t9 h9 tk9 F' N'; (try k_sweep); (try dsimp only)))
theorem c_sha256f 
  (B : Below A₀ base outer h₀) (F : Fr h₀ L s.heap m) (X : (hd.heap_39 w.params).In h₀) (N : News h₀ L s.heap news) (T : Top hd.view_39 lsW mean mg mb h₀) (hk : cs.kind = .function)
  (hdp : dp + 3 < recursionLimit) (hun : un + 24 < cLine) (hb : b.size ≤ 100000)
  (ret : ∀ t' h' tk', Fr h₀ L h' m → News h₀ L h' news → Q (.bytes (dig b) t') { s with heap := h', toks := tk' }) :
  wpAny (model PySem.Challenge.rw_fp5008_01.row.prog w) (ktrTop dp un gd cn cs L a ccd cl outer) (call (.ref 103) [.bytes b t]) Q E s := by
  revert X; k_fill; intro X
  w_on
  obtain ⟨kind, names, ig, ic, more⟩ := cs
  dsimp only at hk
  subst hk
  w_strict k_steps
  rename Fr _ _ _ _ => kF
  rename News _ _ _ _ => kN
  exact ret _ _ _ kF (fun p hp => kN p (by first | exact hp | exact List.mem_cons_of_mem _ hp | exact List.mem_cons_of_mem _ (List.mem_cons_of_mem _ hp) | simp [hp]))
theorem c_double 
  (B : Below A₀ base outer h₀) (F : Fr h₀ L s.heap m) (X : (hd.heap_39 w.params).In h₀) (N : News h₀ L s.heap news) (T : Top hd.view_39 lsW mean mg mb h₀) (hk : cs.kind = .function)
  (hdp : dp + 3 < recursionLimit) (hun : un + 24 < cLine) (hb : b.size ≤ 100000)
  (ret : ∀ t' h' tk', Fr h₀ L h' m → News h₀ L h' news → Q (.bytes (dig (dig b)) t') { s with heap := h', toks := tk' }) :
  wpAny (model PySem.Challenge.rw_fp5008_01.row.prog w) (ktrTop dp un gd cn cs L a ccd cl outer) (call (.ref 89) [.bytes b t]) Q E s := by
  revert X; k_fill; intro X
  w_on
  obtain ⟨kind, names, ig, ic, more⟩ := cs
  dsimp only at hk
  subst hk
  w_strict k_steps
  rename Fr _ _ _ _ => kF
  rename News _ _ _ _ => kN
  exact ret _ _ _ kF (fun p hp => kN p (by first | exact hp | exact List.mem_cons_of_mem _ hp | exact List.mem_cons_of_mem _ (List.mem_cons_of_mem _ hp) | simp [hp]))
theorem c_ripemd 
  (B : Below A₀ base outer h₀) (F : Fr h₀ L s.heap m) (X : (hd.heap_39 w.params).In h₀) (N : News h₀ L s.heap news) (T : Top hd.view_39 lsW mean mg mb h₀) (hk : cs.kind = .function)
  (hdp : dp + 3 < recursionLimit) (hun : un + 24 < cLine) (hb : b.size ≤ 100000)
  (ret : ∀ t' h' tk', Fr h₀ L h' m → News h₀ L h' news → Q (.bytes (KBy.picked (dig (#[114, 105, 112, 101, 109, 100, 49, 54, 48] ++ b)) none (some 20)) t') { s with heap := h', toks := tk' }) :
  wpAny (model PySem.Challenge.rw_fp5008_01.row.prog w) (ktrTop dp un gd cn cs L a ccd cl outer) (call (.ref 82) [.bytes b t]) Q E s := by
  revert X; k_fill; intro X
  w_on
  obtain ⟨kind, names, ig, ic, more⟩ := cs
  dsimp only at hk
  subst hk
  w_strict k_steps
  rename Fr _ _ _ _ => kF
  rename News _ _ _ _ => kN
  exact ret _ _ _ kF (fun p hp => kN p (by first | exact hp | exact List.mem_cons_of_mem _ hp | exact List.mem_cons_of_mem _ (List.mem_cons_of_mem _ hp) | simp [hp]))
local macro_rules | `(tactic| walk_at "call ref") => `(tactic| (k_here; k_dflt (refine' c_ripemd ?k1 ?k2 ?k3 ?k4 ?k5 ?kK ?kd ?ku ?e0 ?_; (case k1 => k_asm); (case k2 => k_asm); (case k3 => k_asm); (case k4 => k_asm); (case k5 => k_asm); (case kK => exact rfl); (case kd => ktr_room); (case ku => ktr_units); (case e0 => kba_size); k_whole); intro t9 h9 tk9 F' N'; (try k_sweep); (try dsimp only)))
theorem c_hash160 
  (B : Below A₀ base outer h₀) (F : Fr h₀ L s.heap m) (X : (hd.heap_39 w.params).In h₀) (N : News h₀ L s.heap news) (T : Top hd.view_39 lsW mean mg mb h₀) (hk : cs.kind = .function)
  (hdp : dp + 4 < recursionLimit) (hun : un + 32 < cLine) (hb : b.size ≤ 100000)
  (ret : ∀ t' h' tk', Fr h₀ L h' m → News h₀ L h' news → Q (.bytes (KBy.picked (dig (#[114, 105, 112, 101, 109, 100, 49, 54, 48] ++ dig b)) none (some 20)) t') { s with heap := h', toks := tk' }) :
  wpAny (model PySem.Challenge.rw_fp5008_01.row.prog w) (ktrTop dp un gd cn cs L a ccd cl outer) (call (.ref 96) [.bytes b t]) Q E s := by
  revert X; k_fill; intro X
  w_on
  obtain ⟨kind, names, ig, ic, more⟩ := cs
  dsimp only at hk
  subst hk
  w_strict k_steps
  rename Fr _ _ _ _ => kF
  rename News _ _ _ _ => kN
  exact ret _ _ _ kF (fun p hp => kN p (by first | exact hp | exact List.mem_cons_of_mem _ hp | exact List.mem_cons_of_mem _ (List.mem_cons_of_mem _ hp) | simp [hp]))
theorem c_tagged {g : Str}
  (B : Below A₀ base outer h₀) (F : Fr h₀ L s.heap m) (X : (hd.heap_39 w.params).In h₀) (N : News h₀ L s.heap news) (T : Top hd.view_39 lsW mean mg mb h₀) (hk : cs.kind = .function)
  (hdp : dp + 3 < recursionLimit) (hun : un + 24 < cLine) (hx : g ∈ tagL) (hb : b.size ≤ 100000)
  (ret : ∀ t' h' tk', Fr h₀ L h' m → News h₀ L h' news → Q (.bytes (dig (dig (enc g) ++ dig (enc g) ++ b)) t') { s with heap := h', toks := tk' }) :
  wpAny (model PySem.Challenge.rw_fp5008_01.row.prog w) (ktrTop dp un gd cn cs L a ccd cl outer) (call (.ref 110) [.str g t, .bytes b u]) Q E s := by
  revert X; k_fill; intro X
  w_on
  obtain ⟨kind, names, ig, ic, more⟩ := cs
  dsimp only at hk
  subst hk
  have hes := enc_size hx
  w_strict k_steps
  rename Fr _ _ _ _ => kF
  rename News _ _ _ _ => kN
  exact ret _ _ _ kF (fun p hp => kN p (by first | exact hp | exact List.mem_cons_of_mem _ hp | exact List.mem_cons_of_mem _ (List.mem_cons_of_mem _ hp) | simp [hp]))
theorem c_tinit {g : Str}
  (B : Below A₀ base outer h₀) (F : Fr h₀ L s.heap m) (X : (hd.heap_39 w.params).In h₀) (N : News h₀ L s.heap news) (T : Top hd.view_39 lsW mean mg mb h₀) (hk : cs.kind = .function)
  (hdp : dp + 3 < recursionLimit) (hun : un + 24 < cLine) (hx : g ∈ tagL) (hb : b.size ≤ 100000)
  (ret : ∀ x d t' t'' h' tk', Fr h₀ L h' m → News h₀ L h' ((x, instObj 46 d) :: (d, shaD w (dig (enc g) ++ dig (enc g) ++ b) t' t'') :: news) → (∀ p ∈ news, p.1 < d) → d < x → Q (.ref x) { s with heap := h', toks := tk' }) :
  wpAny (model PySem.Challenge.rw_fp5008_01.row.prog w) (ktrTop dp un gd cn cs L a ccd cl outer) (call (.ref 118) [.str g t, .bytes b u]) Q E s := by
  revert X; k_fill; intro X
  w_on
  obtain ⟨kind, names, ig, ic, more⟩ := cs
  dsimp only at hk
  subst hk
  have hes := enc_size hx
  w_strict k_steps
  rename Fr _ _ _ _ => kF
  rename News _ _ _ _ => kN
  refine ret _ _ _ _ _ _ kF (News.sub2 kN) ?_ (by assumption)
  first | assumption | (refine ktn_ltOf ?_; simp_all; done)
theorem c_tinit1 {g : Str}
  (B : Below A₀ base outer h₀) (F : Fr h₀ L s.heap m) (X : (hd.heap_39 w.params).In h₀) (N : News h₀ L s.heap news) (T : Top hd.view_39 lsW mean mg mb h₀) (hk : cs.kind = .function)
  (hdp : dp + 3 < recursionLimit) (hun : un + 24 < cLine) (hx : g ∈ tagL)
  (ret : ∀ x d t' t'' h' tk', Fr h₀ L h' m → News h₀ L h' ((x, instObj 46 d) :: (d, shaD w (dig (enc g) ++ dig (enc g)) t' t'') :: news) → (∀ p ∈ news, p.1 < d) → d < x → Q (.ref x) { s with heap := h', toks := tk' }) :
  wpAny (model PySem.Challenge.rw_fp5008_01.row.prog w) (ktrTop dp un gd cn cs L a ccd cl outer) (call (.ref 118) [.str g t]) Q E s := by
  revert X; k_fill; intro X
  w_on
  obtain ⟨kind, names, ig, ic, more⟩ := cs
  dsimp only at hk
  subst hk
  have hes := enc_size hx
  w_strict k_steps
  rename Fr _ _ _ _ => kF
  rename News _ _ _ _ => kN
  rw [Array.append_empty] at kN
  refine ret _ _ _ _ _ _ kF (News.sub2 kN) ?_ (by assumption)
  first | assumption | (refine ktn_ltOf ?_; simp_all; done)
end
end
/-! part C6 -/
section
local macro_rules | `(tactic| k_room) => `(tactic| ktr_room)
local macro_rules | `(tactic| k_mem) => `(tactic| ((show Membership.mem (_ : List (Addr × Obj)) (_ : Addr × Obj)); ktr_member))
local macro_rules | `(tactic| k_all) => `(tactic| assumption)
local macro_rules | `(tactic| kba_size) => `(tactic| ((try dsimp only); (simp only [Array.size_append, List.size_toArray, List.length_cons, List.length_nil, dig_size]); omega))
local macro_rules | `(tactic| walk_at "binaryOp Add bytes bytes") => `(tactic| (k_here; (with_reducible show wpAny _ _ (binaryOp Operator.Add (Value.bytes _ _) (Value.bytes _ _)) _ _ _); (refine KBy.add_bytes (by kba_size) ?_); intro _ _; (try dsimp only)))
local macro_rules | `(tactic| walk_at "getMethod str") => `(tactic| (k_here; (with_reducible refine get_encode ?_); (try dsimp only)))
local macro_rules | `(tactic| walk_at "call builtin:str.encode") => `(tactic| (k_here; k_dflt (refine call_encode (by assumption) ?_); intro _ _; (try dsimp only)))
local macro_rules | `(tactic| walk_at "subscriptTail") => `(tactic| (k_here; (with_reducible show wpAny _ _ (subscriptTail _ (Expr.Slice _ _ none _) (Value.bytes _ _) (Value.ref _)) _ _ _); (with_reducible rename Fr _ _ _ _ => F'); (with_reducible rename News _ _ _ _ => N'); (refine KBc.slice_K (s := ⟨_, _, _, _, _⟩) F' N' rfl (by constructor) (by constructor) (by rw [KBw.ints_length]; kba_size) ?_); intro h' _ _ F' N' _; (try k_sweep); (try dsimp only)))
section
variable {w : World} {mean : ExcName → Option Value} {mg mb : Str → Option Value} {dp un : Nat} {gd : Option (List Code)} {cn : Str} {cs : Scope} {a : Addr} {ccd : Value} {cl : List (Str × Addr)} {outer : List Env} {A₀ : Around} {base h₀ : Heap} {L : Addr} {m : Str → Option Value} {s : Shared} {Q E : Value → Shared → Prop} {news : List (Addr × Obj)} {b c : Array UInt8} {t u : Tok}
local macro_rules | `(tactic| walk_at "inplaceOp Add bytes bytes") => `(tactic| (k_here; (refine iadd_bytes (by kba_size) ?_); intro _ _; (try dsimp only)))
theorem c_update1 {x d : Addr} {t₁ t₂ : Tok}
  (B : Below A₀ base outer h₀) (F : Fr h₀ L s.heap m) (X : (hd.heap_39 w.params).In h₀) (N : News h₀ L s.heap ((d, shaD w b t₁ t₂) :: (x, instObj 46 d) :: news)) (T : Top hd.view_39 lsW mean mg mb h₀) (hk : cs.kind = .function)
  (hdp : dp + 1 < recursionLimit) (hun : un + 8 < cLine) (hxd : x ≠ d) (hn : ∀ p ∈ news, p.1 ≠ d) (hb : b.size + c.size ≤ 1000000)
  (ret : ∀ t' h' tk', Fr h₀ L h' m → News h₀ L h' ((d, shaD w (b ++ c) t' t₂) :: (x, instObj 46 d) :: news) → Q .none { s with heap := h', toks := tk' }) :
  wpAny (model PySem.Challenge.rw_fp5008_01.row.prog w) (ktrTop dp un gd cn cs L a ccd cl outer) (call (.ref 36) [.ref x, .bytes c u]) Q E s := by
  revert X; k_fill; intro X
  w_on
  obtain ⟨kind, names, ig, ic, more⟩ := cs
  dsimp only at hk
  subst hk
  have hall : ∀ p ∈ (x, instObj 46 d) :: news, p.1 ≠ d := List.forall_mem_cons.2 ⟨hxd, hn⟩
  w_strict k_steps
  rename Fr _ _ _ _ => kF
  rename News _ _ _ _ => kN
  exact ret _ _ _ kF kN
theorem c_update {x d : Addr} {t₁ t₂ : Tok} {g : Obj → List (Addr × Obj)}
  (B : Below A₀ base outer h₀) (F : Fr h₀ L s.heap m) (X : (hd.heap_39 w.params).In h₀) (N : News h₀ L s.heap news) (T : Top hd.view_39 lsW mean mg mb h₀) (hk : cs.kind = .function)
  (hdp : dp + 1 < recursionLimit) (hun : un + 8 < cLine) (hx : (x, instObj 46 d) ∈ news) (U : UpdF d (shaD w b t₁ t₂) news g) (hb : b.size + c.size ≤ 1000000)
  (ret : ∀ t' h' tk', Fr h₀ L h' m → News h₀ L h' (g (shaD w (b ++ c) t' t₂)) → Q .none { s with heap := h', toks := tk' }) :
  wpAny (model PySem.Challenge.rw_fp5008_01.row.prog w) (ktrTop dp un gd cn cs L a ccd cl outer) (call (.ref 36) [.ref x, .bytes c u]) Q E s := by
  obtain ⟨pre, post, rfl, hg, h1, h2⟩ := U.split
  have hxd : x ≠ d := by
    intro e
    have e1 := (N _ hx).1
    have e2 := (N (d, shaD w b t₁ t₂) (List.mem_append.2 (.inr (List.mem_cons_self ..)))).1
    dsimp only at e1 e2
    rw [e, e2] at e1
    cases e1
  have hn : ∀ p ∈ pre ++ post, p.1 ≠ d := fun p hp => (List.mem_append.1 hp).elim (h1 p) (h2 p)
  refine c_update1 (t₁ := t₁) (t₂ := t₂) (news := pre ++ post) B F X (fun p hp => ?_) T hk hdp hun hxd hn hb (fun t' h' tk' F' N' => ret t' h' tk' F' (fun p hp => ?_))
  · rcases List.mem_cons.1 hp with rfl | hp
    · exact N _ (List.mem_append.2 (.inr (List.mem_cons_self ..)))
    rcases List.mem_cons.1 hp with rfl | hp
    · exact N _ hx
    · exact N _ ((List.mem_append.1 hp).elim (fun h => List.mem_append.2 (.inl h)) fun h => List.mem_append.2 (.inr (List.mem_cons_of_mem _ h)))
  · rw [hg] at hp
    rcases List.mem_append.1 hp with hp | hp
    · exact N' p (List.mem_cons_of_mem _ (List.mem_cons_of_mem _ (List.mem_append.2 (.inl hp))))
    rcases List.mem_cons.1 hp with rfl | hp
    · exact N' _ (List.mem_cons_self ..)
    · exact N' p (List.mem_cons_of_mem _ (List.mem_cons_of_mem _ (List.mem_append.2 (.inr hp))))
theorem c_chunk {v : Int}
  (B : Below A₀ base outer h₀) (F : Fr h₀ L s.heap m) (X : (hd.heap_39 w.params).In h₀) (N : News h₀ L s.heap news) (T : Top hd.view_39 lsW mean mg mb h₀) (hk : cs.kind = .function)
  (hdp : dp + 1 < recursionLimit) (hun : un + 8 < cLine) 
  (ret : ∀ (b : Array UInt8) t' h' tk', b.size ≤ 24 → Fr h₀ L h' m → News h₀ L h' news → Q (.bytes b t') { s with heap := h', toks := tk' }) :
  wpAny (model PySem.Challenge.rw_fp5008_01.row.prog w) (ktrTop dp un gd cn cs L a ccd cl outer) (call (.ref 151) [.int v t]) Q E s := by
  revert X; k_fill; intro X
  w_on
  obtain ⟨kind, names, ig, ic, more⟩ := cs
  dsimp only at hk
  subst hk
  w_strict k_steps
  rename Fr _ _ _ _ => kF
  rename News _ _ _ _ => kN
  refine ret _ _ _ _ ?_ kF (fun p hp => kN p (List.mem_cons_of_mem _ (List.mem_cons_of_mem _ hp)))
  rw [byteArr_size, List.length_map, rangeKs_length]
  have := fmod_hi v (n := 25) (by decide)
  omega
end
end
/-! part C7 -/
section
local macro_rules | `(tactic| k_room) => `(tactic| ktr_room)
local macro_rules | `(tactic| k_mem) => `(tactic| ((show Membership.mem (_ : List (Addr × Obj)) (_ : Addr × Obj)); ktr_member))
local macro_rules | `(tactic| k_all) => `(tactic| assumption)
local macro_rules | `(tactic| kba_size) => `(tactic| ((try dsimp only); (simp only [Array.size_append, List.size_toArray, List.length_cons, List.length_nil, dig_size]); omega))
local macro_rules | `(tactic| walk_at "binaryOp Add bytes bytes") => `(tactic| (k_here; (with_reducible show wpAny _ _ (binaryOp Operator.Add (Value.bytes _ _) (Value.bytes _ _)) _ _ _); (refine KBy.add_bytes (by kba_size) ?_); intro _ _; (try dsimp only)))
local macro_rules | `(tactic| walk_at "getMethod str") => `(tactic| (k_here; (with_reducible refine get_encode ?_); (try dsimp only)))
local macro_rules | `(tactic| walk_at "call builtin:str.encode") => `(tactic| (k_here; k_dflt (refine call_encode (by assumption) ?_); intro _ _; (try dsimp only)))
local macro_rules | `(tactic| walk_at "subscriptTail") => `(tactic| (k_here; (with_reducible show wpAny _ _ (subscriptTail _ (Expr.Slice _ _ none _) (Value.bytes _ _) (Value.ref _)) _ _ _); (with_reducible rename Fr _ _ _ _ => F'); (with_reducible rename News _ _ _ _ => N'); (refine KBc.slice_K (s := ⟨_, _, _, _, _⟩) F' N' rfl (by constructor) (by constructor) (by rw [KBw.ints_length]; kba_size) ?_); intro h' _ _ F' N' _; (try k_sweep); (try dsimp only)))
local macro_rules | `(tactic| walk_at "compareOp Eq bytes bytes") => `(tactic| (k_here; (refine eq_same ?_ ?_; (first | with_reducible rfl | exact congrArg dig (cut_app (by assumption) (by assumption)))); (try dsimp only)))
local macro_rules | `(tactic| walk_at "compareOp NotEq bytes bytes") => `(tactic| (k_here; (refine ne_same ?_ ?_; (with_reducible rfl)); (try dsimp only)))
section
variable {w : World} {mean : ExcName → Option Value} {mg mb : Str → Option Value} {dp un : Nat} {gd : Option (List Code)} {cn : Str} {cs : Scope} {a : Addr} {ccd : Value} {cl : List (Str × Addr)} {outer : List Env} {A₀ : Around} {base h₀ : Heap} {L : Addr} {m : Str → Option Value} {s : Shared} {Q E : Value → Shared → Prop} {news : List (Addr × Obj)} {b c : Array UInt8} {t u : Tok}
local macro_rules | `(tactic| walk_at "call ref") => `(tactic| (k_here; k_dflt (refine' c_sha ?k1 ?k2 ?k3 ?k4 ?k5 ?kK ?kd ?ku  ?_; (case k1 => k_asm); (case k2 => k_asm); (case k3 => k_asm); (case k4 => k_asm); (case k5 => k_asm); (case kK => exact rfl); (case kd => ktr_room); (case ku => ktr_units);  k_whole); intro x' d' t9 t8 h9 tk9 F' N' l1 l2; (try k_lt l1); (try k_lt2 l2); (try k_sweep); (try dsimp only)))
local macro_rules | `(tactic| walk_at "call ref") => `(tactic| (k_here; k_dflt (refine' c_hash ?k1 ?k2 ?k3 ?k4 ?k5 ?kK ?kd ?ku  ?_; (case k1 => k_asm); (case k2 => k_asm); (case k3 => k_asm); (case k4 => k_asm); (case k5 => k_asm); (case kK => exact rfl); (case kd => ktr_room); (case ku => ktr_units);  k_whole); intro x' d' t9 t8 h9 tk9 F' N' l1 l2; (try k_lt l1); (try k_lt2 l2); (try k_sweep); (try dsimp only)))
local macro_rules | `(tactic| walk_at "call ref") => `(tactic| (k_here; k_dflt (refine' c_digest ?k1 ?k2 ?k3 ?k4 ?k5 ?kK ?kd ?ku ?e0 ?e1 ?e2 ?_; (case k1 => k_asm); (case k2 => k_asm); (case k3 => k_asm); (case k4 => k_asm); (case k5 => k_asm); (case kK => exact rfl); (case kd => ktr_room); (case ku => ktr_units); (case e0 => k_mem); (case e1 => k_mem); (case e2 => kba_size); k_whole); intro t9 h9 tk9 F' N'; (try k_sweep); (try dsimp only)))
local macro_rules | `(tactic| walk_at "call ref") => `(tactic| (k_here; k_dflt (refine' c_plain ?k1 ?k2 ?k3 ?k4 ?k5 ?kK ?kd ?ku  ?_; (case k1 => k_asm); (case k2 => k_asm); (case k3 => k_asm); (case k4 => k_asm); (case k5 => k_asm); (case kK => exact rfl); (case kd => ktr_room); (case ku => ktr_units);  k_whole); intro t9 h9 tk9 F' N'; (try k_sweep); (try dsimp only)))
local macro_rules | `(tactic| walk_at "call ref") => `(tactic| (k_here; k_dflt (refine' c_update ?k1 ?k2 ?k3 ?k4 ?k5 ?kK ?kd ?ku ?e0 ?e1 ?e2 ?_; (case k1 => k_asm); (case k2 => k_asm); (case k3 => k_asm); (case k4 => k_asm); (case k5 => k_asm); (case kK => exact rfl); (case kd => ktr_room); (case ku => ktr_units); (case e0 => k_mem); (case e1 => k_updF); (case e2 => kba_size); k_whole); intro t9 h9 tk9 F' N'; (try k_sweep); (try dsimp only)))
theorem c_whole {k : Int}
  (B : Below A₀ base outer h₀) (F : Fr h₀ L s.heap m) (X : (hd.heap_39 w.params).In h₀) (N : News h₀ L s.heap news) (T : Top hd.view_39 lsW mean mg mb h₀) (hk : cs.kind = .function)
  (hdp : dp + 3 < recursionLimit) (hun : un + 24 < cLine) (hb : b.size ≤ 100000) (hk0 : 0 ≤ k) (hk1 : k ≤ b.size)
  (ret : ∀ h' tk', Fr h₀ L h' m → News h₀ L h' news → Q (.bool true) { s with heap := h', toks := tk' }) :
  wpAny (model PySem.Challenge.rw_fp5008_01.row.prog w) (ktrTop dp un gd cn cs L a ccd cl outer) (call (.ref 158) [.bytes b t, .int k u]) Q E s := by
  revert X; k_fill; intro X
  w_on
  obtain ⟨kind, names, ig, ic, more⟩ := cs
  dsimp only at hk
  subst hk
  have hp1 := KBc.size_picked_le b none (some k)
  have hp2 := KBc.size_picked_le b (some k) none
  w_strict k_steps
  rename Fr _ _ _ _ => kF
  rename News _ _ _ _ => kN
  exact ret _ _ kF (fun p hp => kN p (by simp [hp]))
end
end
/-! part LawF -/
section
section
variable {M : Model} {A : Around} {E : Value → Shared → Prop} {s : Shared} {env : Env} {h₀ : Heap} {L : Addr} {m₀ : Str → Option Value} {st : Stmt} {rest : List Stmt} {Q : Flow → Shared → Prop}
theorem exec_then {Mid : Shared → Prop} (h1 : wpAny M A (exec st env) (fun f s' => f = .next ∧ Mid s') E s) (h2 : ∀ s', Mid s' → wpAny M A (execs rest env) Q E s') : wpAny M A (execs (st :: rest) env) Q E s :=
  wpAny_execs_cons (wpAny_mono h1 (fun f s' h => by obtain ⟨rfl, h⟩ := h; exact h2 s' h) fun _ _ e => e)
/-- the numbers are drawn -/
def MidNum (h₀ : Heap) (L : Addr) (m₀ : Str → Option Value) (s s' : Shared) : Prop :=
  ∃ (l : Addr) (vs : List Value) (ns : List Int) (k : Nat) (h : Heap) (tk : Nat), s' = { s with heap := h, toks := tk } ∧ Fr h₀ L h (fun y => if y = Str.ofString "numbers" then some (.ref l) else m₀ y) ∧ News h₀ L h [(l, listOf (List.toArray vs) k)] ∧ IntsAre vs ns ∧ 2 ≤ ns.length ∧ ns.length ≤ 17
def EndNum (h₀ : Heap) (L : Addr) (m₀ : Str → Option Value) (s : Shared) (f : Flow) (s' : Shared) : Prop := f = .next ∧ MidNum h₀ L m₀ s s'
theorem num_then (F : Fr h₀ L s.heap m₀) (h1 : wpAny M A (exec st env) (EndNum h₀ L m₀ s) E s)
    (h2 : ∀ (l : Addr) (vs : List Value) (ns : List Int) (k : Nat) (h : Heap) (tk : Nat), Fr h₀ L h (fun y => if y = Str.ofString "numbers" then some (.ref l) else m₀ y) → News h₀ L h [(l, listOf (List.toArray vs) k)] → IntsAre vs ns → 2 ≤ ns.length → ns.length ≤ 17 → wpAny M A (execs rest env) Q E { s with heap := h, toks := tk }) :
    wpAny M A (execs (st :: rest) env) Q E s := by
  refine exec_then h1 ?_
  rintro s' ⟨l, vs, ns, k, h, tk, rfl, F', N', hI, h2', h17⟩
  exact h2 l vs ns k h tk F' N' hI h2' h17
/-- where a statement leaves the frame and the ledger -/
def Cut (h₀ : Heap) (L : Addr) (P : (Str → Option Value) → List (Addr × Obj) → Prop) (s : Shared) (f : Flow) (s' : Shared) : Prop :=
  f = .next ∧ ∃ (h : Heap) (tk : Nat) (m : Str → Option Value) (news : List (Addr × Obj)), s' = { s with heap := h, toks := tk } ∧ Fr h₀ L h m ∧ News h₀ L h news ∧ P m news
theorem cut_then {P : (Str → Option Value) → List (Addr × Obj) → Prop} (h1 : wpAny M A (exec st env) (Cut h₀ L P s) E s)
    (h2 : ∀ (h : Heap) (tk : Nat) (m : Str → Option Value) (news : List (Addr × Obj)), P m news → Fr h₀ L h m → News h₀ L h news → wpAny M A (execs rest env) Q E { s with heap := h, toks := tk }) :
    wpAny M A (execs (st :: rest) env) Q E s := by
  refine exec_then h1 ?_
  rintro s' ⟨h, tk, m, news, rfl, F', N', hP⟩
  exact h2 h tk m news hP F' N'
theorem cut_end {P : (Str → Option Value) → List (Addr × Obj) → Prop} {h : Heap} {tk : Nat} {m : Str → Option Value} {news news' : List (Addr × Obj)} (F : Fr h₀ L h m) (N : News h₀ L h news') (hs : ∀ p ∈ news, p ∈ news') (hP : P m news) :
    Cut h₀ L P s .next { s with heap := h, toks := tk } := ⟨rfl, h, tk, m, news, rfl, F, fun p hp => N p (hs p hp), hP⟩
/-- an assignment to a name -/
def Asg (m₁ : Str → Option Value) (x : Str) (V : Value → List (Addr × Obj) → Prop) (m : Str → Option Value) (news : List (Addr × Obj)) : Prop := ∃ v, m = (fun y => if y = x then some v else m₁ y) ∧ V v news
theorem asg_then {m₁ : Str → Option Value} (x : Str) (V : Value → List (Addr × Obj) → Prop) (_F : Fr h₀ L s.heap m₁) (h1 : wpAny M A (exec st env) (Cut h₀ L (Asg m₁ x V) s) E s)
    (h2 : ∀ (v : Value) (h : Heap) (tk : Nat) (news : List (Addr × Obj)), V v news → Fr h₀ L h (fun y => if y = x then some v else m₁ y) → News h₀ L h news → wpAny M A (execs rest env) Q E { s with heap := h, toks := tk }) :
    wpAny M A (execs (st :: rest) env) Q E s := by
  refine cut_then h1 ?_
  rintro h tk m news ⟨v, rfl, hv⟩ F' N'
  exact h2 v h tk news hv F' N'
theorem asg_end {m₁ : Str → Option Value} {x : Str} {V : Value → List (Addr × Obj) → Prop} {h : Heap} {tk : Nat} {v : Value} {news news' : List (Addr × Obj)} (F : Fr h₀ L h (fun y => if y = x then some v else m₁ y)) (N : News h₀ L h news') (hs : ∀ p ∈ news, p ∈ news') (hV : V v news) :
    Cut h₀ L (Asg m₁ x V) s .next { s with heap := h, toks := tk } := cut_end F N hs ⟨v, rfl, hV⟩
/-- a statement that leaves all as it was -/
theorem still_then {m₁ : Str → Option Value} {news : List (Addr × Obj)} (_F : Fr h₀ L s.heap m₁) (_N : News h₀ L s.heap news) (h1 : wpAny M A (exec st env) (Cut h₀ L (fun m nx => m = m₁ ∧ nx = news) s) E s)
    (h2 : ∀ (h : Heap) (tk : Nat), Fr h₀ L h m₁ → News h₀ L h news → wpAny M A (execs rest env) Q E { s with heap := h, toks := tk }) :
    wpAny M A (execs (st :: rest) env) Q E s := by
  refine cut_then h1 ?_
  rintro h tk m nx ⟨rfl, rfl⟩ F' N'
  exact h2 h tk F' N'
/-- the draw of a turn -/
def Draw (m₁ : Str → Option Value) (nx₁ : List (Addr × Obj)) (m : Str → Option Value) (nx : List (Addr × Obj)) : Prop :=
  ∃ (d k : Int) (t t' : Tok), 0 ≤ d ∧ d < 5 ∧ 0 ≤ k ∧ k < 3 ∧ m = (fun y => if y = Str.ofString "deed" then some (.int d t) else if y = Str.ofString "which" then some (.int k t') else m₁ y) ∧ nx = nx₁
theorem draw_then {m₁ : Str → Option Value} {nx₁ : List (Addr × Obj)} (_F : Fr h₀ L s.heap m₁) (_N : News h₀ L s.heap nx₁) (h1 : wpAny M A (exec st env) (Cut h₀ L (Draw m₁ nx₁) s) E s)
    (h2 : ∀ (d k : Int) (t t' : Tok) (h : Heap) (tk : Nat), 0 ≤ d → d < 5 → 0 ≤ k → k < 3 → Fr h₀ L h (fun y => if y = Str.ofString "deed" then some (.int d t) else if y = Str.ofString "which" then some (.int k t') else m₁ y) → News h₀ L h nx₁ → wpAny M A (execs rest env) Q E { s with heap := h, toks := tk }) :
    wpAny M A (execs (st :: rest) env) Q E s := by
  refine cut_then h1 ?_
  rintro h tk m nx ⟨d, k, t, t', hd, hd', hk, hk', rfl, rfl⟩ F' N'
  exact h2 d k t t' h tk hd hd' hk hk' F' N'
theorem mid_num {l : Addr} {vs : List Value} {ns : List Int} {k : Nat} {h : Heap} {tk : Nat} {news : List (Addr × Obj)} (F : Fr h₀ L h (fun y => if y = Str.ofString "numbers" then some (.ref l) else m₀ y)) (N : News h₀ L h news) (hm : (l, listOf (List.toArray vs) k) ∈ news) (hI : IntsAre vs ns) (h2 : 2 ≤ ns.length) (h17 : ns.length ≤ 17) :
    EndNum h₀ L m₀ s .next { s with heap := h, toks := tk } :=
  ⟨rfl, l, vs, ns, k, h, tk, rfl, F, fun p hp => by rw [List.mem_singleton.1 hp]; exact N _ hm, hI, h2, h17⟩
end
/-- the ledger that the loop turns -/
abbrev led (w : World) (D R S H x0 d0 x1 d1 x2 d2 : Addr) (ws : List Value) (nD : Nat) (r0 r1 r2 : Array UInt8) (a0 a1 a2 b0 b1 b2 c0 c1 c2 e0 e1 e2 : Tok) (n1 n2 n3 : Nat) : List (Addr × Obj) :=
  [(D, listOf (List.toArray ws) nD), (H, listOf #[.ref x0, .ref x1, .ref x2] n3), (x2, instObj 46 d2), (d2, shaD w r2 c2 e2), (x1, instObj 46 d1), (d1, shaD w r1 c1 e1), (x0, instObj 46 d0), (d0, shaD w r0 c0 e0),
   (S, listOf #[.int (st r0) b0, .int (st r1) b1, .int (st r2) b2] n2), (R, listOf #[.bytes r0 a0, .bytes r1 a1, .bytes r2 a2] n1)]
abbrev adr (D R S H x0 d0 x1 d1 x2 d2 : Addr) : List Addr := [D, H, x2, d2, x1, d1, x0, d0, S, R]
/-- what holds between the turns -/
def LJ (w : World) (D R S H x0 d0 x1 d1 x2 d2 : Addr) (ws : List Value) (nD : Nat) (m₀ : Str → Option Value) (i : Nat) (m : Str → Option Value) (nx : List (Addr × Obj)) : Prop :=
  ∃ (r0 r1 r2 : Array UInt8) (a0 a1 a2 b0 b1 b2 c0 c1 c2 e0 e1 e2 : Tok) (n1 n2 n3 : Nat), nx = led w D R S H x0 d0 x1 d1 x2 d2 ws nD r0 r1 r2 a0 a1 a2 b0 b1 b2 c0 c1 c2 e0 e1 e2 n1 n2 n3 ∧
    r0.size ≤ 100 + 24 * i ∧ r1.size ≤ 100 + 24 * i ∧ r2.size ≤ 100 + 24 * i ∧
    ∀ z, z ≠ Str.ofString "number" → z ≠ Str.ofString "deed" → z ≠ Str.ofString "which" → z ≠ Str.ofString "piece" → z ≠ Str.ofString "place" → m z = m₀ z
def LJ' (w : World) (D R S H x0 d0 x1 d1 x2 d2 : Addr) (ws : List Value) (nD : Nat) (m₀ : Str → Option Value) (i : Nat) (m : Str → Option Value) (nx : List (Addr × Obj)) : Prop :=
  (D, listOf (List.toArray ws) nD) ∈ nx ∧ LJ w D R S H x0 d0 x1 d1 x2 d2 ws nD m₀ i m nx
section
variable {w w' : World} {prog : Program} {A : Around} {E : Value → Shared → Prop} {s : Shared} {env : Env} {h₀ : Heap} {body : List Stmt} {Q : Flow → Shared → Prop} {m₀ : Str → Option Value} {D R S H x0 d0 x1 d1 x2 d2 : Addr} {ws : List Value} {nD : Nat} {r0 r1 r2 : Array UInt8} {a0 a1 a2 b0 b1 b2 c0 c1 c2 e0 e1 e2 : Tok} {n1 n2 n3 : Nat} {ks : List Int}
theorem map_five {m₁ m₀ : Str → Option Value} {v : Value} (hm : ∀ z, z ≠ Str.ofString "number" → z ≠ Str.ofString "deed" → z ≠ Str.ofString "which" → z ≠ Str.ofString "piece" → z ≠ Str.ofString "place" → m₁ z = m₀ z) :
    (fun y => if y = Str.ofString "number" then some v else m₁ y) = fun y => if y = Str.ofString "number" then some v else if y = Str.ofString "deed" then m₁ y else if y = Str.ofString "which" then m₁ y else if y = Str.ofString "piece" then m₁ y else if y = Str.ofString "place" then m₁ y else m₀ y := by
  funext y
  split
  · rfl
  split
  · rfl
  split
  · rfl
  split
  · rfl
  split
  · rfl
  exact hm y (by assumption) (by assumption) (by assumption) (by assumption) (by assumption)
theorem done_five {m₁ m₀ : Str → Option Value} (hm : ∀ z, z ≠ Str.ofString "number" → z ≠ Str.ofString "deed" → z ≠ Str.ofString "which" → z ≠ Str.ofString "piece" → z ≠ Str.ofString "place" → m₁ z = m₀ z) :
    m₁ = fun y => if y = Str.ofString "number" then m₁ y else if y = Str.ofString "deed" then m₁ y else if y = Str.ofString "which" then m₁ y else if y = Str.ofString "piece" then m₁ y else if y = Str.ofString "place" then m₁ y else m₀ y := by
  funext y
  split
  · rfl
  split
  · rfl
  split
  · rfl
  split
  · rfl
  split
  · rfl
  exact hm y (by assumption) (by assumption) (by assumption) (by assumption) (by assumption)
theorem law_loop (hh : A.handled = none) (hI : IntsAre ws ks) (F : Fr h₀ env.locals s.heap m₀) (N : News h₀ env.locals s.heap (led w D R S H x0 d0 x1 d1 x2 d2 ws nD r0 r1 r2 a0 a1 a2 b0 b1 b2 c0 c1 c2 e0 e1 e2 n1 n2 n3))
    (h0 : r0.size ≤ 100) (h1 : r1.size ≤ 100) (h2 : r2.size ≤ 100)
    (turn : ∀ (i : Nat) (n : Int) (t : Tok) (r0 r1 r2 : Array UInt8) (a0 a1 a2 b0 b1 b2 c0 c1 c2 e0 e1 e2 : Tok) (n1 n2 n3 : Nat) (u : Str → Option Value) (h : Heap) (tk : Nat) (own : List (Addr × Obj)), i < ks.length →
      r0.size ≤ 100 + 24 * i → r1.size ≤ 100 + 24 * i → r2.size ≤ 100 + 24 * i → OwnOff own (adr D R S H x0 d0 x1 d1 x2 d2) →
      Fr h₀ env.locals h (fun y => if y = Str.ofString "number" then some (.int n t) else if y = Str.ofString "deed" then u y else if y = Str.ofString "which" then u y else if y = Str.ofString "piece" then u y else if y = Str.ofString "place" then u y else m₀ y) →
      News h₀ env.locals h (led w D R S H x0 d0 x1 d1 x2 d2 ws nD r0 r1 r2 a0 a1 a2 b0 b1 b2 c0 c1 c2 e0 e1 e2 n1 n2 n3 ++ own) →
      wpAny (model prog w') A (execs body env) (InvPostN h₀ env.locals (LJ' w D R S H x0 d0 x1 d1 x2 d2 ws nD m₀ (i + 1)) own (adr D R S H x0 d0 x1 d1 x2 d2) { s with heap := h, toks := tk } Q) E { s with heap := h, toks := tk })
    (done : ∀ (r0 r1 r2 : Array UInt8) (a0 a1 a2 b0 b1 b2 c0 c1 c2 e0 e1 e2 : Tok) (n1 n2 n3 : Nat) (u : Str → Option Value) (h : Heap) (tk : Nat), r0.size ≤ 100 + 24 * ks.length → r1.size ≤ 100 + 24 * ks.length → r2.size ≤ 100 + 24 * ks.length →
      Fr h₀ env.locals h (fun y => if y = Str.ofString "number" then u y else if y = Str.ofString "deed" then u y else if y = Str.ofString "which" then u y else if y = Str.ofString "piece" then u y else if y = Str.ofString "place" then u y else m₀ y) →
      News h₀ env.locals h (led w D R S H x0 d0 x1 d1 x2 d2 ws nD r0 r1 r2 a0 a1 a2 b0 b1 b2 c0 c1 c2 e0 e1 e2 n1 n2 n3) → Q .next { s with heap := h, toks := tk }) :
    wpAny (model prog w') A (pyIter (.ref D)) (fun it s₂ => LoopAtV prog w' A h₀ env (Str.ofString "number") body Q E it s₂) E s := by
  refine iter_invNL (fun i m nx => LJ w D R S H x0 d0 x1 d1 x2 d2 ws nD m₀ i m nx) hh (List.mem_cons_self ..) hI F N ⟨r0, r1, r2, a0, a1, a2, b0, b1, b2, c0, c1, c2, e0, e1, e2, n1, n2, n3, rfl, h0, h1, h2, fun _ _ _ _ _ _ => rfl⟩ ?_ ?_
  · rintro i n t m₁ news₁ h tk own hi _ hoff _ ⟨r0, r1, r2, a0, a1, a2, b0, b1, b2, c0, c1, c2, e0, e1, e2, n1, n2, n3, rfl, h0, h1, h2, hm⟩ F₁ N₁
    rw [map_five hm] at F₁
    exact turn i n t r0 r1 r2 a0 a1 a2 b0 b1 b2 c0 c1 c2 e0 e1 e2 n1 n2 n3 m₁ h tk own (List.getElem?_eq_some_iff.1 hi).1 h0 h1 h2 hoff F₁ N₁
  · rintro m₁ news₁ h tk _ ⟨r0, r1, r2, a0, a1, a2, b0, b1, b2, c0, c1, c2, e0, e1, e2, n1, n2, n3, rfl, h0, h1, h2, hm⟩ F₁ N₁
    rw [done_five hm] at F₁
    exact done r0 r1 r2 a0 a1 a2 b0 b1 b2 c0 c1 c2 e0 e1 e2 n1 n2 n3 m₁ h tk h0 h1 h2 F₁ N₁
theorem law_end {L : Addr} {i : Nat} {m' : Str → Option Value} {own news' : List (Addr × Obj)} {s₁ : Shared} {h' : Heap} {tk : Nat} (F' : Fr h₀ L h' m') (N' : News h₀ L h' news') (hs : ∀ p ∈ led w D R S H x0 d0 x1 d1 x2 d2 ws nD r0 r1 r2 a0 a1 a2 b0 b1 b2 c0 c1 c2 e0 e1 e2 n1 n2 n3, p ∈ news') (ho : ∀ p ∈ own, p ∈ news')
    (h0 : r0.size ≤ 100 + 24 * (i + 1)) (h1 : r1.size ≤ 100 + 24 * (i + 1)) (h2 : r2.size ≤ 100 + 24 * (i + 1))
    (hm : ∀ z, z ≠ Str.ofString "number" → z ≠ Str.ofString "deed" → z ≠ Str.ofString "which" → z ≠ Str.ofString "piece" → z ≠ Str.ofString "place" → m' z = m₀ z) :
    InvEndN h₀ L (LJ' w D R S H x0 d0 x1 d1 x2 d2 ws nD m₀ (i + 1)) own (adr D R S H x0 d0 x1 d1 x2 d2) s₁ { s₁ with heap := h', toks := tk } :=
  InvEndN.intro F' N' ⟨List.mem_cons_self .., r0, r1, r2, a0, a1, a2, b0, b1, b2, c0, c1, c2, e0, e1, e2, n1, n2, n3, rfl, h0, h1, h2, hm⟩ rfl hs ho
end
section
variable {prog : Program} {w : World} {A : Around} {E : Value → Shared → Prop} {s : Shared} {env : Env} {h₀ : Heap} {body : List Stmt} {Q : Flow → Shared → Prop} {m₀ : Str → Option Value} {news : List (Addr × Obj)} {x y : Str}
/-- a loop over range(3) that keeps the ledger and stores y alone -/
def Still3 (x y : Str) (m₀ : Str → Option Value) (news : List (Addr × Obj)) (m' : Str → Option Value) (nx : List (Addr × Obj)) : Prop := nx = news ∧ ∀ z, z ≠ x → z ≠ y → m' z = m₀ z
theorem range3 (x y : Str) {r : Addr} {t₀ u₀ v₀ : Tok} (hh : A.handled = none) (hr : IsRange s.heap r 0 3 1 t₀ u₀ v₀) (F : Fr h₀ env.locals s.heap m₀) (N : News h₀ env.locals s.heap news)
    (turn : ∀ (k : Int) (t : Tok) (u : Str → Option Value) (h : Heap) (tk : Nat) (own : List (Addr × Obj)), k = 0 ∨ k = 1 ∨ k = 2 → OwnOff own (news.map (·.1)) → Fr h₀ env.locals h (fun z => if z = x then some (.int k t) else if z = y then u z else m₀ z) → News h₀ env.locals h (news ++ own) →
      wpAny (model prog w) A (execs body env) (InvPostN h₀ env.locals (Still3 x y m₀ news) own (news.map (·.1)) { s with heap := h, toks := tk } Q) E { s with heap := h, toks := tk })
    (done : ∀ (u : Str → Option Value) (h : Heap) (tk : Nat), Fr h₀ env.locals h (fun z => if z = x then u z else if z = y then u z else m₀ z) → News h₀ env.locals h news → Q .next { s with heap := h, toks := tk }) :
    wpAny (model prog w) A (pyIter (.ref r)) (fun it s₂ => LoopAtV prog w A h₀ env x body Q E it s₂) E s := by
  refine iter_rangeS (σ := Unit) (n := 3) (fun _ m nx => Still3 x y m₀ news m nx) (fun _ _ => ()) () hh hr (by decide) (by rfl) F N ⟨rfl, fun _ _ _ => rfl⟩ ?_ ?_
  · rintro k t _ m₁ nx h tk own hk hoff ⟨rfl, hm⟩ F₁ N₁
    have hk' := mem_rangeKs hk
    have e : (fun z => if z = x then some (Value.int k t) else m₁ z) = fun z => if z = x then some (.int k t) else if z = y then m₁ z else m₀ z := by
      funext z
      split
      · rfl
      split
      · rfl
      exact hm z (by assumption) (by assumption)
    rw [e] at F₁
    exact turn k t m₁ h tk own (by omega) hoff F₁ N₁
  · rintro m₁ nx h tk ⟨rfl, hm⟩ F₁ N₁
    refine done m₁ h tk ?_ N₁
    have e : (fun z => if z = x then m₁ z else if z = y then m₁ z else m₀ z) = m₁ := by
      funext z
      split
      · rfl
      split
      · rfl
      exact (hm z (by assumption) (by assumption)).symm
    rw [e]
    exact F₁
theorem still_end {L : Addr} {m' : Str → Option Value} {own news' : List (Addr × Obj)} {s₁ : Shared} {h' : Heap} {tk : Nat} (F' : Fr h₀ L h' m') (N' : News h₀ L h' news') (hs : ∀ p, p ∈ news ++ own → p ∈ news') (hm : ∀ z, z ≠ x → z ≠ y → m' z = m₀ z) :
    InvEndN h₀ L (Still3 x y m₀ news) own (news.map (·.1)) s₁ { s₁ with heap := h', toks := tk } :=
  InvEndN.intro F' N' ⟨rfl, hm⟩ rfl (fun p hp => hs p (List.mem_append.2 (.inl hp))) (fun p hp => hs p (List.mem_append.2 (.inr hp)))
end
/-- the law's statements behind the first, and its scope -/
def lawParts : Option (List Stmt × Scope) := match PySem.Challenge.pw_fp5008_01.main.body.getLast? with
  | some (.FunctionDef _ _ (_ :: rest) _ _ _ scope _ _ _) => some (rest, scope)
  | _ => none
/-- the turn's statements -/
def turnParts : Option (List Stmt × Scope) := match lawParts with
  | some (rest, scope) => (match rest.getD 9 (.Pass ⟨0, 0, 0, 0⟩) with
    | .For _ _ body _ _ => some (body, scope)
    | _ => none)
  | none => none
section
variable {M : Model} {A : Around} {E : Value → Shared → Prop} {s : Shared} {env : Env} {w : World} {h₀ : Heap} {L : Addr} {m₁ : Str → Option Value} {st : Stmt} {rest : List Stmt} {Q : Flow → Shared → Prop}
/-- where the loop leaves the frame and the ledger -/
def Out (w : World) (R S H x0 d0 x1 d1 x2 d2 : Addr) (m₁ : Str → Option Value) (m : Str → Option Value) (nx : List (Addr × Obj)) : Prop :=
  ∃ (r0 r1 r2 : Array UInt8) (a0 a1 a2 b0 b1 b2 c0 c1 c2 e0 e1 e2 : Tok) (n1 n2 n3 : Nat) (u : Str → Option Value), nx = [(H, listOf #[.ref x0, .ref x1, .ref x2] n3), (x2, instObj 46 d2), (d2, shaD w r2 c2 e2), (x1, instObj 46 d1), (d1, shaD w r1 c1 e1), (x0, instObj 46 d0), (d0, shaD w r0 c0 e0),
     (S, listOf #[.int (Mine.st r0) b0, .int (Mine.st r1) b1, .int (Mine.st r2) b2] n2), (R, listOf #[.bytes r0 a0, .bytes r1 a1, .bytes r2 a2] n1)] ∧ r0.size ≤ 500 ∧ r1.size ≤ 500 ∧ r2.size ≤ 500 ∧
    m = fun y => if y = Str.ofString "number" then u y else if y = Str.ofString "deed" then u y else if y = Str.ofString "which" then u y else if y = Str.ofString "piece" then u y else if y = Str.ofString "place" then u y else m₁ y
theorem loop_then (R S H x0 d0 x1 d1 x2 d2 : Addr) (_F : Fr h₀ L s.heap m₁) (h1 : wpAny M A (exec st env) (Cut h₀ L (Out w R S H x0 d0 x1 d1 x2 d2 m₁) s) E s)
    (h2 : ∀ (r0 r1 r2 : Array UInt8) (a0 a1 a2 b0 b1 b2 c0 c1 c2 e0 e1 e2 : Tok) (n1 n2 n3 : Nat) (u : Str → Option Value) (h : Heap) (tk : Nat), r0.size ≤ 500 → r1.size ≤ 500 → r2.size ≤ 500 →
      Fr h₀ L h (fun y => if y = Str.ofString "number" then u y else if y = Str.ofString "deed" then u y else if y = Str.ofString "which" then u y else if y = Str.ofString "piece" then u y else if y = Str.ofString "place" then u y else m₁ y) →
      News h₀ L h [(H, listOf #[.ref x0, .ref x1, .ref x2] n3), (x2, instObj 46 d2), (d2, shaD w r2 c2 e2), (x1, instObj 46 d1), (d1, shaD w r1 c1 e1), (x0, instObj 46 d0), (d0, shaD w r0 c0 e0),
        (S, listOf #[.int (Mine.st r0) b0, .int (Mine.st r1) b1, .int (Mine.st r2) b2] n2), (R, listOf #[.bytes r0 a0, .bytes r1 a1, .bytes r2 a2] n1)] → wpAny M A (execs rest env) Q E { s with heap := h, toks := tk }) :
    wpAny M A (execs (st :: rest) env) Q E s := by
  refine cut_then h1 ?_
  rintro h tk m nx ⟨r0, r1, r2, a0, a1, a2, b0, b1, b2, c0, c1, c2, e0, e1, e2, n1, n2, n3, u, rfl, z0, z1, z2, rfl⟩ F' N'
  exact h2 r0 r1 r2 a0 a1 a2 b0 b1 b2 c0 c1 c2 e0 e1 e2 n1 n2 n3 u h tk z0 z1 z2 F' N'
/-- a statement that stores one name more -/
theorem two_then {news : List (Addr × Obj)} (x y : Str) (_F : Fr h₀ L s.heap m₁) (_N : News h₀ L s.heap news) (h1 : wpAny M A (exec st env) (Cut h₀ L (fun m nx => (∃ u : Str → Option Value, m = fun z => if z = x then u z else if z = y then u z else m₁ z) ∧ nx = news) s) E s)
    (h2 : ∀ (u : Str → Option Value) (h : Heap) (tk : Nat), Fr h₀ L h (fun z => if z = x then u z else if z = y then u z else m₁ z) → News h₀ L h news → wpAny M A (execs rest env) Q E { s with heap := h, toks := tk }) :
    wpAny M A (execs (st :: rest) env) Q E s := by
  refine cut_then h1 ?_
  rintro h tk m nx ⟨⟨u, rfl⟩, rfl⟩ F' N'
  exact h2 u h tk F' N'
end
theorem wh_lo (b : Array UInt8) (x : Int) : 0 ≤ x.fmod ((b.size : Int) + 1) := fmod_lo x (by omega)
theorem wh_hi (b : Array UInt8) (x : Int) : x.fmod ((b.size : Int) + 1) ≤ b.size := by
  have := fmod_hi x (n := (b.size : Int) + 1) (by omega)
  omega
theorem dig_nil : dig #[] = #[0, 0, 0, 0, 0, 0, 0, 0, 0, 0, 0, 0, 0, 0, 0, 0, 36, 63, 106, 136, 133, 163, 8, 211, 19, 25, 138, 46, 3, 112, 115, 69] := by rw [dig_eq]; decide +kernel
section
variable {prog : Program} {w : World} {A : Around} {E : Value → Shared → Prop} {s : Shared} {h₀ : Heap} {L l : Addr} {news : List (Addr × Obj)} {value slice : PySem.Expr} {t₁ t₂ t₃ t₄ t₅ t₆ u : Tok} {n : Nat} {k : Int} {Q : Value → Shared → Prop}
theorem list_item {its : List Value} {v : Value} (N : News h₀ L s.heap news) (hm : (l, listOf (List.toArray its) n) ∈ news) (h0 : 0 ≤ k) (h1 : k < 2 ^ 63) (hx : its[k.toNat]? = some v) (h : Q v s)
    (hs : subscripted slice false (.ref l) (.int k u) = operate [.ref l, .int k u] (getItem (.ref l) (.int k u)) := by with_unfolding_all rfl) :
    wpAny (model prog w) A (subscriptTail value slice (.ref l) (.int k u)) Q E s :=
  have hL := News.isList N hm
  tail_any hL.typeIs slot_list_getitem.lookup (wpAny_getItem_list hL h0 h1 (by simpa using hx) h) hs
theorem tag_item (N : News h₀ L s.heap news) (hm : (l, listOf #[.str (Str.ofString "TapLeaf") t₁, .str (Str.ofString "TapBranch") t₂, .str (Str.ofString "TapSighash") t₃, .str (Str.ofString "TapTweak") t₄, .str (Str.ofString "") t₅, .str (Str.ofString "a") t₆] n) ∈ news)
    (h0 : 0 ≤ k) (h1 : k < 6) (h : ∀ g t, g ∈ tagL → Q (.str g t) s) (hs : subscripted slice false (.ref l) (.int k u) = operate [.ref l, .int k u] (getItem (.ref l) (.int k u)) := by with_unfolding_all rfl) :
    wpAny (model prog w) A (subscriptTail value slice (.ref l) (.int k u)) Q E s := by
  have hL := News.isList N hm
  have hk : k = 0 ∨ k = 1 ∨ k = 2 ∨ k = 3 ∨ k = 4 ∨ k = 5 := by omega
  have fin : ∀ {g : Str} {t : Tok}, g ∈ tagL → (#[.str (Str.ofString "TapLeaf") t₁, .str (Str.ofString "TapBranch") t₂, .str (Str.ofString "TapSighash") t₃, .str (Str.ofString "TapTweak") t₄, .str (Str.ofString "") t₅, .str (Str.ofString "a") t₆] : Array Value)[k.toNat]? = some (.str g t) → wpAny (model prog w) A (subscriptTail value slice (.ref l) (.int k u)) Q E s :=
    fun hg hx => tail_any hL.typeIs slot_list_getitem.lookup (wpAny_getItem_list hL h0 (by omega) hx (h _ _ hg)) hs
  rcases hk with rfl | rfl | rfl | rfl | rfl | rfl
  · exact fin (g := Str.ofString "TapLeaf") (by simp [tagL]) rfl
  · exact fin (g := Str.ofString "TapBranch") (by simp [tagL]) rfl
  · exact fin (g := Str.ofString "TapSighash") (by simp [tagL]) rfl
  · exact fin (g := Str.ofString "TapTweak") (by simp [tagL]) rfl
  · exact fin (g := Str.ofString "") (by simp [tagL]) rfl
  · exact fin (g := Str.ofString "a") (by simp [tagL]) rfl
end
end
/-! part LawT -/
section
local macro_rules | `(tactic| k_room) => `(tactic| ktr_room)
local macro_rules | `(tactic| k_mem) => `(tactic| ((show Membership.mem (_ : List (Addr × Obj)) (_ : Addr × Obj)); ktr_member))
local macro_rules | `(tactic| k_all) => `(tactic| assumption)
local macro_rules | `(tactic| kba_size) => `(tactic| ((try dsimp only); (simp only [Array.size_append, List.size_toArray, List.length_cons, List.length_nil, dig_size]); omega))
local macro_rules | `(tactic| walk_at "binaryOp Add bytes bytes") => `(tactic| (k_here; (with_reducible show wpAny _ _ (binaryOp Operator.Add (Value.bytes _ _) (Value.bytes _ _)) _ _ _); (refine KBy.add_bytes (by kba_size) ?_); intro _ _; (try dsimp only)))
local macro_rules | `(tactic| walk_at "getMethod str") => `(tactic| (k_here; (with_reducible refine get_encode ?_); (try dsimp only)))
local macro_rules | `(tactic| walk_at "call builtin:str.encode") => `(tactic| (k_here; k_dflt (refine call_encode (by assumption) ?_); intro _ _; (try dsimp only)))
local macro_rules | `(tactic| walk_at "subscriptTail") => `(tactic| (k_here; (with_reducible show wpAny _ _ (subscriptTail _ (Expr.Slice _ _ none _) (Value.bytes _ _) (Value.ref _)) _ _ _); (with_reducible rename Fr _ _ _ _ => F'); (with_reducible rename News _ _ _ _ => N'); (refine KBc.slice_K (s := ⟨_, _, _, _, _⟩) F' N' rfl (by constructor) (by constructor) (by rw [KBw.ints_length]; kba_size) ?_); intro h' _ _ F' N' _; (try k_sweep); (try dsimp only)))
local macro_rules | `(tactic| walk_at "compareOp Eq bytes bytes") => `(tactic| (k_here; (refine eq_same ?_ ?_; (first | with_reducible rfl | exact congrArg dig (cut_app (by assumption) (by assumption)))); (try dsimp only)))
local macro_rules | `(tactic| walk_at "compareOp NotEq bytes bytes") => `(tactic| (k_here; (refine ne_same ?_ ?_; (with_reducible rfl)); (try dsimp only)))
local macro_rules | `(tactic| walk_at "call ref") => `(tactic| (k_here; k_dflt (refine' c_sha ?k1 ?k2 ?k3 ?k4 ?k5 ?kK ?kd ?ku  ?_; (case k1 => k_asm); (case k2 => k_asm); (case k3 => k_asm); (case k4 => k_asm); (case k5 => k_asm); (case kK => exact rfl); (case kd => ktr_room); (case ku => ktr_units);  k_whole); intro x' d' t9 t8 h9 tk9 F' N' l1 l2; (try k_lt l1); (try k_lt2 l2); (try k_sweep); (try dsimp only)))
local macro_rules | `(tactic| walk_at "call ref") => `(tactic| (k_here; k_dflt (refine' c_sha0 ?k1 ?k2 ?k3 ?k4 ?k5 ?kK ?kd ?ku  ?_; (case k1 => k_asm); (case k2 => k_asm); (case k3 => k_asm); (case k4 => k_asm); (case k5 => k_asm); (case kK => exact rfl); (case kd => ktr_room); (case ku => ktr_units);  k_whole); intro x' d' t9 t8 h9 tk9 F' N' l1 l2; (try k_lt l1); (try k_lt2 l2); (try k_sweep); (try dsimp only)))
local macro_rules | `(tactic| walk_at "call ref") => `(tactic| (k_here; k_dflt (refine' c_hash ?k1 ?k2 ?k3 ?k4 ?k5 ?kK ?kd ?ku  ?_; (case k1 => k_asm); (case k2 => k_asm); (case k3 => k_asm); (case k4 => k_asm); (case k5 => k_asm); (case kK => exact rfl); (case kd => ktr_room); (case ku => ktr_units);  k_whole); intro x' d' t9 t8 h9 tk9 F' N' l1 l2; (try k_lt l1); (try k_lt2 l2); (try k_sweep); (try dsimp only)))
local macro_rules | `(tactic| walk_at "call ref") => `(tactic| (k_here; k_dflt (refine' c_hash0 ?k1 ?k2 ?k3 ?k4 ?k5 ?kK ?kd ?ku  ?_; (case k1 => k_asm); (case k2 => k_asm); (case k3 => k_asm); (case k4 => k_asm); (case k5 => k_asm); (case kK => exact rfl); (case kd => ktr_room); (case ku => ktr_units);  k_whole); intro x' d' t9 t8 h9 tk9 F' N' l1 l2; (try k_lt l1); (try k_lt2 l2); (try k_sweep); (try dsimp only)))
local macro_rules | `(tactic| walk_at "call ref") => `(tactic| (k_here; k_dflt (refine' c_digest ?k1 ?k2 ?k3 ?k4 ?k5 ?kK ?kd ?ku ?e0 ?e1 ?e2 ?_; (case k1 => k_asm); (case k2 => k_asm); (case k3 => k_asm); (case k4 => k_asm); (case k5 => k_asm); (case kK => exact rfl); (case kd => ktr_room); (case ku => ktr_units); (case e0 => k_mem); (case e1 => k_mem); (case e2 => kba_size); k_whole); intro t9 h9 tk9 F' N'; (try k_sweep); (try dsimp only)))
local macro_rules | `(tactic| walk_at "call ref") => `(tactic| (k_here; k_dflt (refine' c_sealst ?k1 ?k2 ?k3 ?k4 ?k5 ?kK ?kd ?ku  ?_; (case k1 => k_asm); (case k2 => k_asm); (case k3 => k_asm); (case k4 => k_asm); (case k5 => k_asm); (case kK => exact rfl); (case kd => ktr_room); (case ku => ktr_units);  k_whole); intro t9 h9 tk9 F' N'; (try k_sweep); (try dsimp only)))
local macro_rules | `(tactic| walk_at "call ref") => `(tactic| (k_here; k_dflt (refine' c_st ?k1 ?k2 ?k3 ?k4 ?k5 ?kK ?kd ?ku  ?_; (case k1 => k_asm); (case k2 => k_asm); (case k3 => k_asm); (case k4 => k_asm); (case k5 => k_asm); (case kK => exact rfl); (case kd => ktr_room); (case ku => ktr_units);  k_whole); intro t9 h9 tk9 F' N'; (try k_sweep); (try dsimp only)))
local macro_rules | `(tactic| walk_at "call ref") => `(tactic| (k_here; k_dflt (refine' c_stapp ?k1 ?k2 ?k3 ?k4 ?k5 ?kK ?kd ?ku  ?_; (case k1 => k_asm); (case k2 => k_asm); (case k3 => k_asm); (case k4 => k_asm); (case k5 => k_asm); (case kK => exact rfl); (case kd => ktr_room); (case ku => ktr_units);  k_whole); intro t9 h9 tk9 F' N'; (try k_sweep); (try dsimp only)))
local macro_rules | `(tactic| walk_at "call ref") => `(tactic| (k_here; k_dflt (refine' c_plain ?k1 ?k2 ?k3 ?k4 ?k5 ?kK ?kd ?ku  ?_; (case k1 => k_asm); (case k2 => k_asm); (case k3 => k_asm); (case k4 => k_asm); (case k5 => k_asm); (case kK => exact rfl); (case kd => ktr_room); (case ku => ktr_units);  k_whole); intro t9 h9 tk9 F' N'; (try k_sweep); (try dsimp only)))
local macro_rules | `(tactic| walk_at "call ref") => `(tactic| (k_here; k_dflt (refine' c_update ?k1 ?k2 ?k3 ?k4 ?k5 ?kK ?kd ?ku ?e0 ?e1 ?e2 ?_; (case k1 => k_asm); (case k2 => k_asm); (case k3 => k_asm); (case k4 => k_asm); (case k5 => k_asm); (case kK => exact rfl); (case kd => ktr_room); (case ku => ktr_units); (case e0 => k_mem); (case e1 => k_updF); (case e2 => kba_size); k_whole); intro t9 h9 tk9 F' N'; (try k_sweep); (try dsimp only)))
local macro_rules | `(tactic| walk_at "call ref") => `(tactic| (k_here; k_dflt (refine' c_sha256f ?k1 ?k2 ?k3 ?k4 ?k5 ?kK ?kd ?ku ?e0 ?_; (case k1 => k_asm); (case k2 => k_asm); (case k3 => k_asm); (case k4 => k_asm); (case k5 => k_asm); (case kK => exact rfl); (case kd => ktr_room); (case ku => ktr_units); (case e0 => kba_size); k_whole); intro t9 h9 tk9 F' N'; (try k_sweep); (try dsimp only)))
local macro_rules | `(tactic| walk_at "call ref") => `(tactic| (k_here; k_dflt (refine' c_double ?k1 ?k2 ?k3 ?k4 ?k5 ?kK ?kd ?ku ?e0 ?_; (case k1 => k_asm); (case k2 => k_asm); (case k3 => k_asm); (case k4 => k_asm); (case k5 => k_asm); (case kK => exact rfl); (case kd => ktr_room); (case ku => ktr_units); (case e0 => kba_size); k_whole); intro t9 h9 tk9 F' N'; (try k_sweep); (try dsimp only)))
local macro_rules | `(tactic| walk_at "call ref") => `(tactic| (k_here; k_dflt (refine' c_ripemd ?k1 ?k2 ?k3 ?k4 ?k5 ?kK ?kd ?ku ?e0 ?_; (case k1 => k_asm); (case k2 => k_asm); (case k3 => k_asm); (case k4 => k_asm); (case k5 => k_asm); (case kK => exact rfl); (case kd => ktr_room); (case ku => ktr_units); (case e0 => kba_size); k_whole); intro t9 h9 tk9 F' N'; (try k_sweep); (try dsimp only)))
local macro_rules | `(tactic| walk_at "call ref") => `(tactic| (k_here; k_dflt (refine' c_hash160 ?k1 ?k2 ?k3 ?k4 ?k5 ?kK ?kd ?ku ?e0 ?_; (case k1 => k_asm); (case k2 => k_asm); (case k3 => k_asm); (case k4 => k_asm); (case k5 => k_asm); (case kK => exact rfl); (case kd => ktr_room); (case ku => ktr_units); (case e0 => kba_size); k_whole); intro t9 h9 tk9 F' N'; (try k_sweep); (try dsimp only)))
local macro_rules | `(tactic| walk_at "call ref") => `(tactic| (k_here; k_dflt (refine' c_tagged ?k1 ?k2 ?k3 ?k4 ?k5 ?kK ?kd ?ku ?e0 ?e1 ?_; (case k1 => k_asm); (case k2 => k_asm); (case k3 => k_asm); (case k4 => k_asm); (case k5 => k_asm); (case kK => exact rfl); (case kd => ktr_room); (case ku => ktr_units); (case e0 => assumption); (case e1 => kba_size); k_whole); intro t9 h9 tk9 F' N'; (try k_sweep); (try dsimp only)))
local macro_rules | `(tactic| walk_at "call ref") => `(tactic| (k_here; k_dflt (refine' c_tinit ?k1 ?k2 ?k3 ?k4 ?k5 ?kK ?kd ?ku ?e0 ?e1 ?_; (case k1 => k_asm); (case k2 => k_asm); (case k3 => k_asm); (case k4 => k_asm); (case k5 => k_asm); (case kK => exact rfl); (case kd => ktr_room); (case ku => ktr_units); (case e0 => assumption); (case e1 => kba_size); k_whole); intro x' d' t9 t8 h9 tk9 F' N' l1 l2; (try k_lt l1); (try k_lt2 l2); (try k_sweep); (try dsimp only)))
local macro_rules | `(tactic| walk_at "call ref") => `(tactic| (k_here; k_dflt (refine' c_tinit1 ?k1 ?k2 ?k3 ?k4 ?k5 ?kK ?kd ?ku ?e0 ?_; (case k1 => k_asm); (case k2 => k_asm); (case k3 => k_asm); (case k4 => k_asm); (case k5 => k_asm); (case kK => exact rfl); (case kd => ktr_room); (case ku => ktr_units); (case e0 => assumption); k_whole); intro x' d' t9 t8 h9 tk9 F' N' l1 l2; (try k_lt l1); (try k_lt2 l2); (try k_sweep); (try dsimp only)))
local macro_rules | `(tactic| walk_at "call ref") => `(tactic| (k_here; k_dflt (refine' c_chunk ?k1 ?k2 ?k3 ?k4 ?k5 ?kK ?kd ?ku  ?_; (case k1 => k_asm); (case k2 => k_asm); (case k3 => k_asm); (case k4 => k_asm); (case k5 => k_asm); (case kK => exact rfl); (case kd => ktr_room); (case ku => ktr_units);  k_whole); intro b9 t9 h9 tk9 hb9 F' N'; (try k_sweep); (try dsimp only)))
local macro_rules | `(tactic| walk_at "call ref") => `(tactic| (k_here; k_dflt (refine' c_whole ?k1 ?k2 ?k3 ?k4 ?k5 ?kK ?kd ?ku ?e0 ?e1 ?e2 ?_; (case k1 => k_asm); (case k2 => k_asm); (case k3 => k_asm); (case k4 => k_asm); (case k5 => k_asm); (case kK => exact rfl); (case kd => ktr_room); (case ku => ktr_units); (case e0 => kba_size); (case e1 => (exact wh_lo _ _)); (case e2 => (exact wh_hi _ _)); k_whole); intro h9 tk9 F' N'; (try k_sweep); (try dsimp only)))
local macro_rules | `(tactic| walk_at "subscriptTail Name Name ref int") => `(tactic| (k_here; k_dflt (refine' list_item ?N ?m ?a ?b ?x ?_; (case N => k_asm); (case m => k_mem); (case a => decide); (case b => decide); (case x => rfl); k_whole); (try dsimp only)))
local macro_rules | `(tactic| walk_at "InvEndN") => `(tactic| refine halt ?_)
local macro_rules | `(tactic| walk_at "exec For Name Call cons nil") => `(tactic| (k_here; (rename Fr _ _ _ _ => lF'); (with_unfolding_all refine' For_invVF lF' ?k1 ?k2 ?_; (case k1 => exact rfl); (case k2 => exact rfl); k_whole)))
local macro_rules | `(tactic| walk_at "pyIter ref") => `(tactic| refine halt ?_)
theorem law_turn {w : World} {mean : ExcName → Option Value} {mg mb : Str → Option Value} {h₀ : Heap} {L fa c : Addr} {s₀ : Shared} {m₀ u : Str → Option Value} {Q : Flow → Shared → Prop} {body : List Stmt} {scope : Scope}
    {D R S H x0 d0 x1 d1 x2 d2 : Addr} {ws : List Value} {nD : Nat} {r0 r1 r2 : Array UInt8} {a0 a1 a2 b0 b1 b2 c0 c1 c2 e0 e1 e2 : Tok} {n1 n2 n3 : Nat} {i : Nat} {n : Int} {t : Tok} {h : Heap} {tk : Nat} {own : List (Addr × Obj)} (e : turnParts = some (body, scope))
    (B : Below callerA h₀ [] h₀) (X : (hd.heap_39 w.params).In h₀) (T : Top hd.view_39 lsW mean mg mb h₀)
    (hi : i < 16) (h0 : r0.size ≤ 100 + 24 * i) (h1 : r1.size ≤ 100 + 24 * i) (h2 : r2.size ≤ 100 + 24 * i) (hoff : OwnOff own (adr D R S H x0 d0 x1 d1 x2 d2))
    (hord : S ≠ R ∧ S < d0 ∧ R < d0 ∧ d0 < x0 ∧ x0 < d1 ∧ d1 < x1 ∧ x1 < d2 ∧ d2 < x2 ∧ x2 < H ∧ H < D)
    (F : Fr h₀ L h (fun y => if y = Str.ofString "number" then some (.int n t) else if y = Str.ofString "deed" then u y else if y = Str.ofString "which" then u y else if y = Str.ofString "piece" then u y else if y = Str.ofString "place" then u y else
      (if y = Str.ofString "held" then some (.ref H) else if y = Str.ofString "states" then some (.ref S) else if y = Str.ofString "rows" then some (.ref R) else m₀ y)))
    (N : News h₀ L h (led w D R S H x0 d0 x1 d1 x2 d2 ws nD r0 r1 r2 a0 a1 a2 b0 b1 b2 c0 c1 c2 e0 e1 e2 n1 n2 n3 ++ own)) :
    wpAny (model PySem.Challenge.rw_fp5008_01.row.prog w) (callerA.deeper (envOf (Str.ofString "law") scope L fa (.ref c))) (execs body (envOf (Str.ofString "law") scope L fa (.ref c)))
      (InvPostN h₀ L (LJ' w D R S H x0 d0 x1 d1 x2 d2 ws nD (fun y => if y = Str.ofString "held" then some (.ref H) else if y = Str.ofString "states" then some (.ref S) else if y = Str.ofString "rows" then some (.ref R) else m₀ y) (i + 1)) own (adr D R S H x0 d0 x1 d1 x2 d2) { s₀ with heap := h, toks := tk } Q) (fun _ _ => False) { s₀ with heap := h, toks := tk } := by
  revert X; k_fill; intro X
  w_on
  with_unfolding_all change some (_, _) = some (body, scope) at e
  dsimp only at e
  cases e
  obtain ⟨o1, o2, o3, o4, o5, o6, o7, o8, o9, o10⟩ := hord
  replace o1 := neN o1
  replace o2 := ltN o2
  replace o3 := ltN o3
  replace o4 := ltN o4
  replace o5 := ltN o5
  replace o6 := ltN o6
  replace o7 := ltN o7
  replace o8 := ltN o8
  replace o9 := ltN o9
  replace o10 := ltN o10
  simp only [led, List.cons_append, List.nil_append] at N
  -- deed, which = ..
  refine draw_then F N ?_ ?_
  · w_strict k_steps
    rename Fr _ _ _ _ => kF
    rename News _ _ _ _ => kN
    exact cut_end kF kN (fun _ hp => List.mem_cons_of_mem _ hp) ⟨_, _, _, _, fmod_lo _ (by decide), fmod_hi _ (by decide), fmod_lo _ (by decide), fmod_hi _ (by decide), rfl, rfl⟩
  intro d k td tk' h tk hd hd5 hk hk3 F N
  (try dsimp only)
  have hd : d = 0 ∨ d = 1 ∨ d = 2 ∨ d = 3 ∨ d = 4 := by omega
  have hk : k = 0 ∨ k = 1 ∨ k = 2 := by omega
  clear hd5 hk3
  rcases hk with rfl | rfl | rfl
  · rcases hd with rfl | rfl | rfl | rfl | rfl
    all_goals w_strict k_steps
    all_goals try (
        unfold Halt
        rename Fr _ _ _ _ => kF
        rename News _ _ _ _ => kN
        refine' law_end kF kN ?s ?o ?z0 ?z1 ?z2 ?m
        case s => k_allIn
        case o => (intro p hp; k_ownIn)
        case z0 => ((try simp only [Array.size_append, List.size_toArray, List.length_nil]); omega)
        case z1 => ((try simp only [Array.size_append, List.size_toArray, List.length_nil]); omega)
        case z2 => ((try simp only [Array.size_append, List.size_toArray, List.length_nil]); omega)
        case m => (intro z g1 g2 g3 g4 g5; (try dsimp only); simp only [g1, g2, g3, g4, g5, if_false])
        done)
    unfold Halt
    rename IsRange _ _ _ _ _ _ _ _ => hr
    rename Fr _ _ _ _ => kF
    rename News _ _ _ _ => kN
    with_unfolding_all refine range3 (Str.ofString "place") (Str.ofString "place") rfl hr kF kN ?_ ?_
    · intro k t u hh tk own' hk hoff' F' N'
      clear kF kN hr
      simp only [List.cons_append, List.nil_append] at N'
      rcases hk with rfl | rfl | rfl
      all_goals w_strict k_steps
      all_goals (
        unfold Halt
        rename Fr _ _ _ _ => kF
        rename News _ _ _ _ => kN
        refine still_end kF kN ?_ ?_
        · intro p hp
          simp only [List.cons_append, List.nil_append] at hp
          k_ownIn
        · intro z g1 g2
          (try dsimp only)
          simp only [g1, g2, if_false])
    · intro u hh tk F' N'
      clear kF kN hr
      w_strict k_steps
      unfold Halt
      rename Fr _ _ _ _ => kF
      rename News _ _ _ _ => kN
      refine' law_end kF kN ?s ?o ?z0 ?z1 ?z2 ?m
      case s => k_allIn
      case o => (intro p hp; k_ownIn)
      case z0 => ((try simp only [Array.size_append, List.size_toArray, List.length_nil]); omega)
      case z1 => ((try simp only [Array.size_append, List.size_toArray, List.length_nil]); omega)
      case z2 => ((try simp only [Array.size_append, List.size_toArray, List.length_nil]); omega)
      case m => (intro z g1 g2 g3 g4 g5; (try dsimp only); simp only [g1, g2, g3, g4, g5, if_false])
  · rcases hd with rfl | rfl | rfl | rfl | rfl
    all_goals w_strict k_steps
    all_goals try (
        unfold Halt
        rename Fr _ _ _ _ => kF
        rename News _ _ _ _ => kN
        refine' law_end kF kN ?s ?o ?z0 ?z1 ?z2 ?m
        case s => k_allIn
        case o => (intro p hp; k_ownIn)
        case z0 => ((try simp only [Array.size_append, List.size_toArray, List.length_nil]); omega)
        case z1 => ((try simp only [Array.size_append, List.size_toArray, List.length_nil]); omega)
        case z2 => ((try simp only [Array.size_append, List.size_toArray, List.length_nil]); omega)
        case m => (intro z g1 g2 g3 g4 g5; (try dsimp only); simp only [g1, g2, g3, g4, g5, if_false])
        done)
    unfold Halt
    rename IsRange _ _ _ _ _ _ _ _ => hr
    rename Fr _ _ _ _ => kF
    rename News _ _ _ _ => kN
    with_unfolding_all refine range3 (Str.ofString "place") (Str.ofString "place") rfl hr kF kN ?_ ?_
    · intro k t u hh tk own' hk hoff' F' N'
      clear kF kN hr
      simp only [List.cons_append, List.nil_append] at N'
      rcases hk with rfl | rfl | rfl
      all_goals w_strict k_steps
      all_goals (
        unfold Halt
        rename Fr _ _ _ _ => kF
        rename News _ _ _ _ => kN
        refine still_end kF kN ?_ ?_
        · intro p hp
          simp only [List.cons_append, List.nil_append] at hp
          k_ownIn
        · intro z g1 g2
          (try dsimp only)
          simp only [g1, g2, if_false])
    · intro u hh tk F' N'
      clear kF kN hr
      w_strict k_steps
      unfold Halt
      rename Fr _ _ _ _ => kF
      rename News _ _ _ _ => kN
      refine' law_end kF kN ?s ?o ?z0 ?z1 ?z2 ?m
      case s => k_allIn
      case o => (intro p hp; k_ownIn)
      case z0 => ((try simp only [Array.size_append, List.size_toArray, List.length_nil]); omega)
      case z1 => ((try simp only [Array.size_append, List.size_toArray, List.length_nil]); omega)
      case z2 => ((try simp only [Array.size_append, List.size_toArray, List.length_nil]); omega)
      case m => (intro z g1 g2 g3 g4 g5; (try dsimp only); simp only [g1, g2, g3, g4, g5, if_false])
  · rcases hd with rfl | rfl | rfl | rfl | rfl
    all_goals w_strict k_steps
    all_goals try (
        unfold Halt
        rename Fr _ _ _ _ => kF
        rename News _ _ _ _ => kN
        refine' law_end kF kN ?s ?o ?z0 ?z1 ?z2 ?m
        case s => k_allIn
        case o => (intro p hp; k_ownIn)
        case z0 => ((try simp only [Array.size_append, List.size_toArray, List.length_nil]); omega)
        case z1 => ((try simp only [Array.size_append, List.size_toArray, List.length_nil]); omega)
        case z2 => ((try simp only [Array.size_append, List.size_toArray, List.length_nil]); omega)
        case m => (intro z g1 g2 g3 g4 g5; (try dsimp only); simp only [g1, g2, g3, g4, g5, if_false])
        done)
    unfold Halt
    rename IsRange _ _ _ _ _ _ _ _ => hr
    rename Fr _ _ _ _ => kF
    rename News _ _ _ _ => kN
    with_unfolding_all refine range3 (Str.ofString "place") (Str.ofString "place") rfl hr kF kN ?_ ?_
    · intro k t u hh tk own' hk hoff' F' N'
      clear kF kN hr
      simp only [List.cons_append, List.nil_append] at N'
      rcases hk with rfl | rfl | rfl
      all_goals w_strict k_steps
      all_goals (
        unfold Halt
        rename Fr _ _ _ _ => kF
        rename News _ _ _ _ => kN
        refine still_end kF kN ?_ ?_
        · intro p hp
          simp only [List.cons_append, List.nil_append] at hp
          k_ownIn
        · intro z g1 g2
          (try dsimp only)
          simp only [g1, g2, if_false])
    · intro u hh tk F' N'
      clear kF kN hr
      w_strict k_steps
      unfold Halt
      rename Fr _ _ _ _ => kF
      rename News _ _ _ _ => kN
      refine' law_end kF kN ?s ?o ?z0 ?z1 ?z2 ?m
      case s => k_allIn
      case o => (intro p hp; k_ownIn)
      case z0 => ((try simp only [Array.size_append, List.size_toArray, List.length_nil]); omega)
      case z1 => ((try simp only [Array.size_append, List.size_toArray, List.length_nil]); omega)
      case z2 => ((try simp only [Array.size_append, List.size_toArray, List.length_nil]); omega)
      case m => (intro z g1 g2 g3 g4 g5; (try dsimp only); simp only [g1, g2, g3, g4, g5, if_false])
end
/-! part LawR -/
section
local macro_rules | `(tactic| k_room) => `(tactic| ktr_room)
local macro_rules | `(tactic| k_mem) => `(tactic| ((show Membership.mem (_ : List (Addr × Obj)) (_ : Addr × Obj)); ktr_member))
local macro_rules | `(tactic| k_all) => `(tactic| assumption)
local macro_rules | `(tactic| kba_size) => `(tactic| ((try dsimp only); (simp only [Array.size_append, List.size_toArray, List.length_cons, List.length_nil, dig_size]); omega))
local macro_rules | `(tactic| walk_at "binaryOp Add bytes bytes") => `(tactic| (k_here; (with_reducible show wpAny _ _ (binaryOp Operator.Add (Value.bytes _ _) (Value.bytes _ _)) _ _ _); (refine KBy.add_bytes (by kba_size) ?_); intro _ _; (try dsimp only)))
local macro_rules | `(tactic| walk_at "getMethod str") => `(tactic| (k_here; (with_reducible refine get_encode ?_); (try dsimp only)))
local macro_rules | `(tactic| walk_at "call builtin:str.encode") => `(tactic| (k_here; k_dflt (refine call_encode (by assumption) ?_); intro _ _; (try dsimp only)))
local macro_rules | `(tactic| walk_at "subscriptTail") => `(tactic| (k_here; (with_reducible show wpAny _ _ (subscriptTail _ (Expr.Slice _ _ none _) (Value.bytes _ _) (Value.ref _)) _ _ _); (with_reducible rename Fr _ _ _ _ => F'); (with_reducible rename News _ _ _ _ => N'); (refine KBc.slice_K (s := ⟨_, _, _, _, _⟩) F' N' rfl (by constructor) (by constructor) (by rw [KBw.ints_length]; kba_size) ?_); intro h' _ _ F' N' _; (try k_sweep); (try dsimp only)))
local macro_rules | `(tactic| walk_at "compareOp Eq bytes bytes") => `(tactic| (k_here; (refine eq_same ?_ ?_; (first | with_reducible rfl | exact congrArg dig (cut_app (by assumption) (by assumption)))); (try dsimp only)))
local macro_rules | `(tactic| walk_at "compareOp NotEq bytes bytes") => `(tactic| (k_here; (refine ne_same ?_ ?_; (with_reducible rfl)); (try dsimp only)))
local macro_rules | `(tactic| walk_at "call ref") => `(tactic| (k_here; k_dflt (refine' c_sha ?k1 ?k2 ?k3 ?k4 ?k5 ?kK ?kd ?ku  ?_; (case k1 => k_asm); (case k2 => k_asm); (case k3 => k_asm); (case k4 => k_asm); (case k5 => k_asm); (case kK => exact rfl); (case kd => ktr_room); (case ku => ktr_units);  k_whole); intro x' d' t9 t8 h9 tk9 F' N' l1 l2; (try k_lt l1); (try k_lt2 l2); (try k_sweep); (try dsimp only)))
local macro_rules | `(tactic| walk_at "call ref") => `(tactic| (k_here; k_dflt (refine' c_sha0 ?k1 ?k2 ?k3 ?k4 ?k5 ?kK ?kd ?ku  ?_; (case k1 => k_asm); (case k2 => k_asm); (case k3 => k_asm); (case k4 => k_asm); (case k5 => k_asm); (case kK => exact rfl); (case kd => ktr_room); (case ku => ktr_units);  k_whole); intro x' d' t9 t8 h9 tk9 F' N' l1 l2; (try k_lt l1); (try k_lt2 l2); (try k_sweep); (try dsimp only)))
local macro_rules | `(tactic| walk_at "call ref") => `(tactic| (k_here; k_dflt (refine' c_hash ?k1 ?k2 ?k3 ?k4 ?k5 ?kK ?kd ?ku  ?_; (case k1 => k_asm); (case k2 => k_asm); (case k3 => k_asm); (case k4 => k_asm); (case k5 => k_asm); (case kK => exact rfl); (case kd => ktr_room); (case ku => ktr_units);  k_whole); intro x' d' t9 t8 h9 tk9 F' N' l1 l2; (try k_lt l1); (try k_lt2 l2); (try k_sweep); (try dsimp only)))
local macro_rules | `(tactic| walk_at "call ref") => `(tactic| (k_here; k_dflt (refine' c_hash0 ?k1 ?k2 ?k3 ?k4 ?k5 ?kK ?kd ?ku  ?_; (case k1 => k_asm); (case k2 => k_asm); (case k3 => k_asm); (case k4 => k_asm); (case k5 => k_asm); (case kK => exact rfl); (case kd => ktr_room); (case ku => ktr_units);  k_whole); intro x' d' t9 t8 h9 tk9 F' N' l1 l2; (try k_lt l1); (try k_lt2 l2); (try k_sweep); (try dsimp only)))
local macro_rules | `(tactic| walk_at "call ref") => `(tactic| (k_here; k_dflt (refine' c_digest ?k1 ?k2 ?k3 ?k4 ?k5 ?kK ?kd ?ku ?e0 ?e1 ?e2 ?_; (case k1 => k_asm); (case k2 => k_asm); (case k3 => k_asm); (case k4 => k_asm); (case k5 => k_asm); (case kK => exact rfl); (case kd => ktr_room); (case ku => ktr_units); (case e0 => k_mem); (case e1 => k_mem); (case e2 => kba_size); k_whole); intro t9 h9 tk9 F' N'; (try k_sweep); (try dsimp only)))
local macro_rules | `(tactic| walk_at "call ref") => `(tactic| (k_here; k_dflt (refine' c_sealst ?k1 ?k2 ?k3 ?k4 ?k5 ?kK ?kd ?ku  ?_; (case k1 => k_asm); (case k2 => k_asm); (case k3 => k_asm); (case k4 => k_asm); (case k5 => k_asm); (case kK => exact rfl); (case kd => ktr_room); (case ku => ktr_units);  k_whole); intro t9 h9 tk9 F' N'; (try k_sweep); (try dsimp only)))
local macro_rules | `(tactic| walk_at "call ref") => `(tactic| (k_here; k_dflt (refine' c_st ?k1 ?k2 ?k3 ?k4 ?k5 ?kK ?kd ?ku  ?_; (case k1 => k_asm); (case k2 => k_asm); (case k3 => k_asm); (case k4 => k_asm); (case k5 => k_asm); (case kK => exact rfl); (case kd => ktr_room); (case ku => ktr_units);  k_whole); intro t9 h9 tk9 F' N'; (try k_sweep); (try dsimp only)))
local macro_rules | `(tactic| walk_at "call ref") => `(tactic| (k_here; k_dflt (refine' c_stapp ?k1 ?k2 ?k3 ?k4 ?k5 ?kK ?kd ?ku  ?_; (case k1 => k_asm); (case k2 => k_asm); (case k3 => k_asm); (case k4 => k_asm); (case k5 => k_asm); (case kK => exact rfl); (case kd => ktr_room); (case ku => ktr_units);  k_whole); intro t9 h9 tk9 F' N'; (try k_sweep); (try dsimp only)))
local macro_rules | `(tactic| walk_at "call ref") => `(tactic| (k_here; k_dflt (refine' c_plain ?k1 ?k2 ?k3 ?k4 ?k5 ?kK ?kd ?ku  ?_; (case k1 => k_asm); (case k2 => k_asm); (case k3 => k_asm); (case k4 => k_asm); (case k5 => k_asm); (case kK => exact rfl); (case kd => ktr_room); (case ku => ktr_units);  k_whole); intro t9 h9 tk9 F' N'; (try k_sweep); (try dsimp only)))
local macro_rules | `(tactic| walk_at "call ref") => `(tactic| (k_here; k_dflt (refine' c_update ?k1 ?k2 ?k3 ?k4 ?k5 ?kK ?kd ?ku ?e0 ?e1 ?e2 ?_; (case k1 => k_asm); (case k2 => k_asm); (case k3 => k_asm); (case k4 => k_asm); (case k5 => k_asm); (case kK => exact rfl); (case kd => ktr_room); (case ku => ktr_units); (case e0 => k_mem); (case e1 => k_updF); (case e2 => kba_size); k_whole); intro t9 h9 tk9 F' N'; (try k_sweep); (try dsimp only)))
local macro_rules | `(tactic| walk_at "call ref") => `(tactic| (k_here; k_dflt (refine' c_sha256f ?k1 ?k2 ?k3 ?k4 ?k5 ?kK ?kd ?ku ?e0 ?_; (case k1 => k_asm); (case k2 => k_asm); (case k3 => k_asm); (case k4 => k_asm); (case k5 => k_asm); (case kK => exact rfl); (case kd => ktr_room); (case ku => ktr_units); (case e0 => kba_size); k_whole); intro t9 h9 tk9 F' N'; (try k_sweep); (try dsimp only)))
local macro_rules | `(tactic| walk_at "call ref") => `(tactic| (k_here; k_dflt (refine' c_double ?k1 ?k2 ?k3 ?k4 ?k5 ?kK ?kd ?ku ?e0 ?_; (case k1 => k_asm); (case k2 => k_asm); (case k3 => k_asm); (case k4 => k_asm); (case k5 => k_asm); (case kK => exact rfl); (case kd => ktr_room); (case ku => ktr_units); (case e0 => kba_size); k_whole); intro t9 h9 tk9 F' N'; (try k_sweep); (try dsimp only)))
local macro_rules | `(tactic| walk_at "call ref") => `(tactic| (k_here; k_dflt (refine' c_ripemd ?k1 ?k2 ?k3 ?k4 ?k5 ?kK ?kd ?ku ?e0 ?_; (case k1 => k_asm); (case k2 => k_asm); (case k3 => k_asm); (case k4 => k_asm); (case k5 => k_asm); (case kK => exact rfl); (case kd => ktr_room); (case ku => ktr_units); (case e0 => kba_size); k_whole); intro t9 h9 tk9 F' N'; (try k_sweep); (try dsimp only)))
local macro_rules | `(tactic| walk_at "call ref") => `(tactic| (k_here; k_dflt (refine' c_hash160 ?k1 ?k2 ?k3 ?k4 ?k5 ?kK ?kd ?ku ?e0 ?_; (case k1 => k_asm); (case k2 => k_asm); (case k3 => k_asm); (case k4 => k_asm); (case k5 => k_asm); (case kK => exact rfl); (case kd => ktr_room); (case ku => ktr_units); (case e0 => kba_size); k_whole); intro t9 h9 tk9 F' N'; (try k_sweep); (try dsimp only)))
local macro_rules | `(tactic| walk_at "call ref") => `(tactic| (k_here; k_dflt (refine' c_tagged ?k1 ?k2 ?k3 ?k4 ?k5 ?kK ?kd ?ku ?e0 ?e1 ?_; (case k1 => k_asm); (case k2 => k_asm); (case k3 => k_asm); (case k4 => k_asm); (case k5 => k_asm); (case kK => exact rfl); (case kd => ktr_room); (case ku => ktr_units); (case e0 => assumption); (case e1 => kba_size); k_whole); intro t9 h9 tk9 F' N'; (try k_sweep); (try dsimp only)))
local macro_rules | `(tactic| walk_at "call ref") => `(tactic| (k_here; k_dflt (refine' c_tinit ?k1 ?k2 ?k3 ?k4 ?k5 ?kK ?kd ?ku ?e0 ?e1 ?_; (case k1 => k_asm); (case k2 => k_asm); (case k3 => k_asm); (case k4 => k_asm); (case k5 => k_asm); (case kK => exact rfl); (case kd => ktr_room); (case ku => ktr_units); (case e0 => assumption); (case e1 => kba_size); k_whole); intro x' d' t9 t8 h9 tk9 F' N' l1 l2; (try k_lt l1); (try k_lt2 l2); (try k_sweep); (try dsimp only)))
local macro_rules | `(tactic| walk_at "call ref") => `(tactic| (k_here; k_dflt (refine' c_tinit1 ?k1 ?k2 ?k3 ?k4 ?k5 ?kK ?kd ?ku ?e0 ?_; (case k1 => k_asm); (case k2 => k_asm); (case k3 => k_asm); (case k4 => k_asm); (case k5 => k_asm); (case kK => exact rfl); (case kd => ktr_room); (case ku => ktr_units); (case e0 => assumption); k_whole); intro x' d' t9 t8 h9 tk9 F' N' l1 l2; (try k_lt l1); (try k_lt2 l2); (try k_sweep); (try dsimp only)))
local macro_rules | `(tactic| walk_at "call ref") => `(tactic| (k_here; k_dflt (refine' c_chunk ?k1 ?k2 ?k3 ?k4 ?k5 ?kK ?kd ?ku  ?_; (case k1 => k_asm); (case k2 => k_asm); (case k3 => k_asm); (case k4 => k_asm); (case k5 => k_asm); (case kK => exact rfl); (case kd => ktr_room); (case ku => ktr_units);  k_whole); intro b9 t9 h9 tk9 hb9 F' N'; (try k_sweep); (try dsimp only)))
local macro_rules | `(tactic| walk_at "call ref") => `(tactic| (k_here; k_dflt (refine' c_whole ?k1 ?k2 ?k3 ?k4 ?k5 ?kK ?kd ?ku ?e0 ?e1 ?e2 ?_; (case k1 => k_asm); (case k2 => k_asm); (case k3 => k_asm); (case k4 => k_asm); (case k5 => k_asm); (case kK => exact rfl); (case kd => ktr_room); (case ku => ktr_units); (case e0 => kba_size); (case e1 => (exact wh_lo _ _)); (case e2 => (exact wh_hi _ _)); k_whole); intro h9 tk9 F' N'; (try k_sweep); (try dsimp only)))
local macro_rules | `(tactic| walk_at "subscriptTail") => `(tactic| (k_here; k_dflt (refine' tag_item ?N ?m ?lo ?hi ?_; (case N => k_asm); (case m => k_mem); (case lo => exact fmod_lo _ (by decide)); (case hi => exact fmod_hi _ (by decide)); k_whole); intro g9 t9 hg9; (have he9 := enc_size hg9); (try dsimp only)))
local macro_rules | `(tactic| walk_at "compareOp NotEq bytes bytes") => `(tactic| (k_here; (refine ne_same dig_nil ?_); (try dsimp only)))
local macro_rules | `(tactic| walk_at "subscriptTail Name Name ref int") => `(tactic| (k_here; k_dflt (refine' list_item ?N ?m ?a ?b ?x ?_; (case N => k_asm); (case m => k_mem); (case a => decide); (case b => decide); (case x => rfl); k_whole); (try dsimp only)))
local macro_rules | `(tactic| walk_at "call builtin:len") => `(tactic| (k_here; (with_reducible show wpAny _ _ (call (Value.builtin "len") [Value.bytes _ _]) _ _ _); (refine len_bytes (by omega) ?_); (try dsimp only)))
local macro_rules | `(tactic| walk_at "binaryOp Mod int int") => `(tactic| (k_here; (refine mod_int' (by omega) ?_); (try dsimp only)))
local macro_rules | `(tactic| walk_at "exec For Name Call cons nil") => `(tactic| (k_here; (rename Fr _ _ _ _ => lF'); (with_unfolding_all refine' For_invVF lF' ?k1 ?k2 ?_; (case k1 => exact rfl); (case k2 => exact rfl); k_whole)))
local macro_rules | `(tactic| walk_at "exec For Name Subscript cons nil") => `(tactic| (k_here; (rename Fr _ _ _ _ => lF'); (with_unfolding_all refine' For_invVF lF' ?k1 ?k2 ?_; (case k1 => exact rfl); (case k2 => exact rfl); k_whole)))
local macro_rules | `(tactic| walk_at "pyIter ref") => `(tactic| refine halt ?_)
local macro_rules | `(tactic| walk_at "InvEndN") => `(tactic| refine halt ?_)
theorem law_rest {w : World} {mean : ExcName → Option Value} {mg mb : Str → Option Value} {h₀ : Heap} {L fa c l : Addr} {s : Shared} {vs : List Value} {ns : List Int} {k : Nat} {m₀ : Str → Option Value} {Q : Flow → Shared → Prop} {rest : List Stmt} {scope : Scope} (e : lawParts = some (rest, scope))
    (B : Below callerA h₀ [] h₀) (X : (hd.heap_39 w.params).In h₀) (T : Top hd.view_39 lsW mean mg mb h₀) (F : Fr h₀ L s.heap (fun y => if y = Str.ofString "numbers" then some (.ref l) else m₀ y)) (N : News h₀ L s.heap [(l, listOf (List.toArray vs) k)])
    (hI : IntsAre vs ns) (h2 : 2 ≤ ns.length) (h17 : ns.length ≤ 17) (ret : ∀ h tk m, Fr h₀ L h m → Q (.ret (.bool true)) { s with heap := h, toks := tk }) :
    wpAny (model PySem.Challenge.rw_fp5008_01.row.prog w) (callerA.deeper (envOf (Str.ofString "law") scope L fa (.ref c))) (execs rest (envOf (Str.ofString "law") scope L fa (.ref c))) Q (fun _ _ => False) s := by
  revert X; k_fill; intro X
  w_on
  with_unfolding_all change some (_, _) = some (rest, scope) at e
  dsimp only at e
  cases e
  -- first = numbers[0]
  refine asg_then (Str.ofString "first") (fun v nx => ∃ f t, v = .int f t ∧ nx = [(l, listOf (List.toArray vs) k)]) F ?_ ?_
  · w_strict k_steps
    rename Fr _ _ _ _ => kF
    rename News _ _ _ _ => kN
    exact asg_end kF kN (by k_allIn) ⟨_, _, rfl, rfl⟩
  rintro _ h tk _ ⟨f, t, rfl, rfl⟩ F N
  (try dsimp only)
  -- if Sha256().digest() ..
  refine still_then F N ?_ ?_
  · w_strict k_steps
    rename Fr _ _ _ _ => kF
    rename News _ _ _ _ => kN
    exact cut_end kF kN (by k_allIn) ⟨rfl, rfl⟩
  intro h tk F N
  (try dsimp only)
  -- tag
  refine asg_then (Str.ofString "tag") (fun v nx => ∃ g t, g ∈ tagL ∧ v = .str g t ∧ nx = [(l, listOf (List.toArray vs) k)]) F ?_ ?_
  · w_strict k_steps
    rename Fr _ _ _ _ => kF
    rename News _ _ _ _ => kN
    exact asg_end kF kN (by k_allIn) ⟨_, _, by assumption, rfl, rfl⟩
  rintro _ h tk _ ⟨g, t, hg, rfl, rfl⟩ F N
  have hge := enc_size hg
  (try dsimp only)
  -- mark
  refine asg_then (Str.ofString "mark") (fun v nx => ∃ t, v = .bytes (dig (enc g)) t ∧ nx = [(l, listOf (List.toArray vs) k)]) F ?_ ?_
  · w_strict k_steps
    rename Fr _ _ _ _ => kF
    rename News _ _ _ _ => kN
    exact asg_end kF kN (by k_allIn) ⟨_, rfl, rfl⟩
  rintro _ h tk _ ⟨t, rfl, rfl⟩ F N
  (try dsimp only)
  -- start
  refine asg_then (Str.ofString "start") (fun v nx => ∃ r t, r.size ≤ 24 ∧ v = .bytes r t ∧ nx = [(l, listOf (List.toArray vs) k)]) F ?_ ?_
  · w_strict k_steps
    rename Fr _ _ _ _ => kF
    rename News _ _ _ _ => kN
    exact asg_end kF kN (by k_allIn) ⟨_, _, by assumption, rfl, rfl⟩
  rintro _ h tk _ ⟨r, t, hr, rfl, rfl⟩ F N
  (try dsimp only)
  -- rows
  refine asg_then (Str.ofString "rows") (fun v nx => ∃ R a0 a1 a2 n1, v = .ref R ∧ R ≠ l ∧ nx = [(R, listOf #[.bytes #[] a0, .bytes r a1, .bytes (dig (enc g) ++ dig (enc g) ++ r) a2] n1), (l, listOf (List.toArray vs) k)]) F ?_ ?_
  · w_strict k_steps
    rename Fr _ _ _ _ => kF
    rename News _ _ _ _ => kN
    refine' asg_end kF kN ?s ⟨_, _, _, _, _, rfl, ?d, rfl⟩
    case s => k_allIn
    case d => k_ne
  rintro _ h tk _ ⟨R, a0, a1, a2, n1, rfl, hRl, rfl⟩ F N
  (try dsimp only)
  -- states
  refine asg_then (Str.ofString "states") (fun v nx => ∃ S b0 b1 b2 n2, v = .ref S ∧ S ≠ l ∧ S ≠ R ∧ nx = [(S, listOf #[.int (st #[]) b0, .int (st r) b1, .int (st (dig (enc g) ++ dig (enc g) ++ r)) b2] n2), (R, listOf #[.bytes #[] a0, .bytes r a1, .bytes (dig (enc g) ++ dig (enc g) ++ r) a2] n1), (l, listOf (List.toArray vs) k)]) F ?_ ?_
  · w_strict k_steps
    rename Fr _ _ _ _ => kF
    rename News _ _ _ _ => kN
    refine' asg_end kF kN ?s ⟨_, _, _, _, _, rfl, ?d, ?e, rfl⟩
    case s => k_allIn
    case d => k_ne
    case e => k_ne
  rintro _ h tk _ ⟨S, b0, b1, b2, n2, rfl, hSl, hSR, rfl⟩ F N
  (try dsimp only)
  -- if tagged_hash_init(tag, start).digest() ..
  refine still_then F N ?_ ?_
  · w_strict k_steps
    rename Fr _ _ _ _ => kF
    rename News _ _ _ _ => kN
    exact cut_end kF kN (by k_allIn) ⟨rfl, rfl⟩
  intro h tk F N
  (try dsimp only)
  -- held
  refine asg_then (Str.ofString "held") (fun v nx => ∃ H x0 d0 x1 d1 x2 d2 c0 c1 c2 e0 e1 e2 n3, v = .ref H ∧ (S ≠ R ∧ S < d0 ∧ R < d0 ∧ d0 < x0 ∧ x0 < d1 ∧ d1 < x1 ∧ x1 < d2 ∧ d2 < x2 ∧ x2 < H) ∧ nx = [(H, listOf #[.ref x0, .ref x1, .ref x2] n3), (x2, instObj 46 d2), (d2, shaD w (dig (enc g) ++ dig (enc g) ++ r) c2 e2), (x1, instObj 46 d1), (d1, shaD w r c1 e1), (x0, instObj 46 d0), (d0, shaD w #[] c0 e0),
      (S, listOf #[.int (st #[]) b0, .int (st r) b1, .int (st (dig (enc g) ++ dig (enc g) ++ r)) b2] n2), (R, listOf #[.bytes #[] a0, .bytes r a1, .bytes (dig (enc g) ++ dig (enc g) ++ r) a2] n1), (l, listOf (List.toArray vs) k)]) F ?_ ?_
  · w_strict k_steps
    rename Fr _ _ _ _ => kF
    rename News _ _ _ _ => kN
    refine' asg_end kF kN ?s ⟨_, _, _, _, _, _, _, _, _, _, _, _, _, _, rfl, ⟨hSR, ?d1, ?d2, ?d3, ?d4, ?d5, ?d6, ?d7, ?d8⟩, rfl⟩
    case s => k_allIn
    all_goals (refine ltN ?_; omega)
  rintro _ h tk _ ⟨H, x0, d0, x1, d1, x2, d2, c0, c1, c2, e0, e1, e2, n3, rfl, hord, rfl⟩ F N
  obtain ⟨o1, o2, o3, o4, o5, o6, o7, o8, o9⟩ := hord
  replace o1 := neN o1
  replace o2 := ltN o2
  replace o3 := ltN o3
  replace o4 := ltN o4
  replace o5 := ltN o5
  replace o6 := ltN o6
  replace o7 := ltN o7
  replace o8 := ltN o8
  replace o9 := ltN o9
  (try dsimp only)
  -- for number in numbers[1:]
  refine loop_then (w := w) R S H x0 d0 x1 d1 x2 d2 F ?_ ?_
  · w_strict k_steps
    unfold Halt
    rename_i D ws hD F9 N9 hI9 hC9 hL9 l9
    obtain ⟨o10, _⟩ := l9
    with_unfolding_all refine' law_loop (w := w) (D := D) (R := R) (S := S) (H := H) (x0 := x0) (d0 := d0) (x1 := x1) (d1 := d1) (x2 := x2) (d2 := d2) rfl hI9 F9 (KStb.news_of N9 ?s) ?z0 ?z1 ?z2 ?turn ?done
    case s => k_allIn
    case z0 => decide
    case z1 => omega
    case z2 => (rw [Array.size_append, Array.size_append, dig_size]; omega)
    case turn =>
      intro i n t r0 r1 r2 a0 a1 a2 b0 b1 b2 c0 c1 c2 e0 e1 e2 n1 n2 n3 u h tk own hi z0 z1 z2 hoff F N
      exact law_turn rfl B X T (by omega) z0 z1 z2 hoff ⟨o1, o2, o3, o4, o5, o6, o7, o8, o9, o10⟩ F N
    case done =>
      intro r0 r1 r2 a0 a1 a2 b0 b1 b2 c0 c1 c2 e0 e1 e2 n1 n2 n3 u h tk z0 z1 z2 F N
      exact cut_end F N (fun p hp => List.mem_cons_of_mem _ hp) ⟨r0, r1, r2, a0, a1, a2, b0, b1, b2, c0, c1, c2, e0, e1, e2, n1, n2, n3, u, rfl, by omega, by omega, by omega, rfl⟩
  clear F N
  intro r0 r1 r2 a0 a1 a2 b0 b1 b2 c0 c1 c2 e0 e1 e2 n1 n2 n3 u h tk z0 z1 z2 F N
  (try dsimp only)
  -- for place in range(3)
  refine two_then (Str.ofString "place") (Str.ofString "due") F N ?_ ?_
  · w_strict k_steps
    unfold Halt
    rename IsRange _ _ _ _ _ _ _ _ => hr
    rename Fr _ _ _ _ => kF
    rename News _ _ _ _ => kN
    with_unfolding_all refine range3 (Str.ofString "place") (Str.ofString "due") rfl hr kF kN ?_ ?_
    · intro k t u hh tk own' hk hoff' F' N'
      clear kF kN hr F N
      simp only [List.cons_append, List.nil_append] at N'
      rcases hk with rfl | rfl | rfl
      all_goals w_strict k_steps
      all_goals (
        unfold Halt
        rename Fr _ _ _ _ => kF
        rename News _ _ _ _ => kN
        refine still_end kF kN ?_ ?_
        · intro p hp
          simp only [List.cons_append, List.nil_append] at hp
          k_ownIn
        · intro z g1 g2
          (try dsimp only)
          simp only [g1, g2, if_false])
    · intro u hh tk F' N'
      exact cut_end F' N' (fun _ h => h) ⟨⟨u, rfl⟩, rfl⟩
  clear F N
  intro u' h tk F N
  (try dsimp only)
  w_strict k_steps
  rename Fr _ _ _ _ => kF
  exact ret _ _ _ kF
end
/-! part LawM -/
section
local macro_rules | `(tactic| k_room) => `(tactic| ktr_room)
local macro_rules | `(tactic| k_mem) => `(tactic| ((show Membership.mem (_ : List (Addr × Obj)) (_ : Addr × Obj)); ktr_member))
local macro_rules | `(tactic| k_all) => `(tactic| assumption)
local macro_rules | `(tactic| kba_size) => `(tactic| ((try dsimp only); (simp only [Array.size_append, List.size_toArray, List.length_cons, List.length_nil, dig_size]); omega))
local macro_rules | `(tactic| walk_at "binaryOp Add bytes bytes") => `(tactic| (k_here; (with_reducible show wpAny _ _ (binaryOp Operator.Add (Value.bytes _ _) (Value.bytes _ _)) _ _ _); (refine KBy.add_bytes (by kba_size) ?_); intro _ _; (try dsimp only)))
local macro_rules | `(tactic| walk_at "getMethod str") => `(tactic| (k_here; (with_reducible refine get_encode ?_); (try dsimp only)))
local macro_rules | `(tactic| walk_at "call builtin:str.encode") => `(tactic| (k_here; k_dflt (refine call_encode (by assumption) ?_); intro _ _; (try dsimp only)))
local macro_rules | `(tactic| walk_at "subscriptTail") => `(tactic| (k_here; (with_reducible show wpAny _ _ (subscriptTail _ (Expr.Slice _ _ none _) (Value.bytes _ _) (Value.ref _)) _ _ _); (with_reducible rename Fr _ _ _ _ => F'); (with_reducible rename News _ _ _ _ => N'); (refine KBc.slice_K (s := ⟨_, _, _, _, _⟩) F' N' rfl (by constructor) (by constructor) (by rw [KBw.ints_length]; kba_size) ?_); intro h' _ _ F' N' _; (try k_sweep); (try dsimp only)))
theorem law : PySem.Challenge.rw_fp5008_01.Holds := hd (by
  w_strict k_go0
  rename Fr _ _ _ _ => F0
  rename News _ _ _ _ => N0
  (try dsimp only)
  refine num_then F0 ?_ ?_
  · w_strict k_steps
    · rename IntsAre _ _ => hI
      rename Fr _ _ _ _ => kF
      rename News _ _ _ _ => kN
      exact mid_num kF kN (by k_mem) hI (by omega) (by omega)
    · rename Fr _ _ _ _ => kF
      rename News _ _ _ _ => kN
      exact mid_num (vs := [_, _, _, _, _]) kF kN (by k_mem) (IntsAre.cons _ _ (IntsAre.cons _ _ (IntsAre.cons _ _ (IntsAre.cons _ _ (IntsAre.cons _ _ IntsAre.nil))))) (by decide) (by decide)
  · intro l vs ns k h tk F1 N1 hI h2 h17
    clear F0 N0
    refine wpAny_noRaise (law_rest rfl (by assumption) (by assumption) (by assumption) F1 N1 hI h2 h17 ?_)
    intro h tk m F
    (try dsimp only)
    w_strict k_steps)
end
end Mine
set_option maxRecDepth 100000 in
set_option maxHeartbeats 8000000 in
theorem PySem.Challenge.cw_fp5008_01_holds : PySem.Challenge.rw_fp5008_01.Holds := by
  exact Mine.law
