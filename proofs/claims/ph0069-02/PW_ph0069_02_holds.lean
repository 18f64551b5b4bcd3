import PyProof.Rows.All
import Wide.All
import OpenK.AllK
import Wide.FinOn
import Lean
import PySem.Challenge.RW_ph0069_02
open PySem PySem.W PySem.Calls PyProof.Rows PySem.Spec
set_option maxRecDepth 100000
set_option Elab.async false
namespace Mine
set_option maxRecDepth 100000 in
set_option maxHeartbeats 8000000 in
open_top hd for PySem.Challenge.rw_ph0069_02
example : (PySem.Challenge.rw_ph0069_02.name = PySem.Challenge.rw_ph0069_02.name) ∧ (hd.heap_39 = hd.heap_39) := by
  k_fill
  exact ⟨rfl, rfl⟩
abbrev Ext (h h' : Heap) : Prop := ∀ b o, h.get? b = some o → h'.get? b = some o

def retOf : Flow → Value
  | .ret v => v
  | _ => .none

/-- an int that is a natural number -/
abbrev vn (n : Nat) (t : Tok) : Value := .int (n : Int) t

/-- what the end of a turn must show: one name turned, all else as it was -/
def End1 {α : Type} (h₀ : Heap) (L : Addr) (mk : α → Tok → Value) (x y : Str) (stored : List Str) (m₀ : Str → Option Value) (news own : List (Addr × Obj)) (a : α) (s₁ : Shared) (Q : Flow → Shared → Prop) (f : Flow) (s₂ : Shared) : Prop :=
  InvPostN h₀ L (fun m' nx => nx = news ∧ (∃ t, m' y = some (mk a t)) ∧ ∀ z, z ≠ x → z ≠ y → stored.contains z = false → m' z = m₀ z) own (news.map (·.1)) s₁ Q f s₂

section
variable {prog : Program} {w : World} {A : Around} {E : Value → Shared → Prop} {s : Shared} {env : Env} {h₀ : Heap} {x : Str} {body : List Stmt} {Q : Flow → Shared → Prop}

/-- a loop over an iterator that turns one name by a fold -/
theorem fold1 {α β : Type} (mk : α → Tok → Value) (mkb : β → Tok → Value) (Inv : α → Prop) (items : List β) (g : α → β → α) (y : Str) (stored : List Str) (a₀ : α)
    {I : Addr} {n : Nat} {P : Nat → Value → Prop} {St : Nat → Heap → Prop} {m₀ : Str → Option Value} {news : List (Addr × Obj)} {t₀ : Tok}
    (W : Walks prog w A I [I] [I] n P St) (hlen : items.length = n) (hP : ∀ i v, i < n → P i v → ∃ b t, items[i]? = some b ∧ v = mkb b t)
    (hLI : env.locals ≠ I) (hI : h₀.get? I = none) (hnI : ∀ p ∈ news, p.1 ≠ I) (hst : St 0 s.heap) (F : Fr h₀ env.locals s.heap m₀) (N : News h₀ env.locals s.heap news)
    (hy : m₀ y = some (mk a₀ t₀)) (hi0 : Inv a₀) (hig : ∀ a b, b ∈ items → Inv a → Inv (g a b))
    (turn : ∀ b tb a ta (u : Str → Option Value) h tk own, b ∈ items → Inv a → OwnOff own (news.map (·.1)) →
      Fr h₀ env.locals h (fun z => if z = x then some (mkb b tb) else if z = y then some (mk a ta) else if stored.contains z then u z else m₀ z) → News h₀ env.locals h (news ++ own) →
      wpAny (model prog w) A (execs body env) (End1 h₀ env.locals mk x y stored m₀ news own (g a b) { s with heap := h, toks := tk } Q) E { s with heap := h, toks := tk })
    (done : ∀ (u : Str → Option Value) t h tk, Inv (items.foldl g a₀) → Fr h₀ env.locals h (fun z => if z = x then u z else if z = y then some (mk (items.foldl g a₀) t) else if stored.contains z then u z else m₀ z) → News h₀ env.locals h news → Q .next { s with heap := h, toks := tk }) :
    LoopAtV prog w A h₀ env x body Q E (.ref I) s := by
  refine loop_invN (fun i m nx => nx = news ∧ Inv ((items.take i).foldl g a₀) ∧ (∃ t, m y = some (mk ((items.take i).foldl g a₀) t)) ∧ ∀ z, z ≠ x → z ≠ y → stored.contains z = false → m z = m₀ z) W ?_ ?_ ?_ ?_ hst F N ⟨rfl, by simpa using hi0, ⟨t₀, by simpa using hy⟩, fun _ _ _ _ => rfl⟩ ?_ ?_
  · intro hm; exact hLI (List.mem_singleton.mp hm)
  · intro b hb; rw [List.mem_singleton.mp hb]; exact hI
  · intro p hp hm; exact hnI p hp (List.mem_singleton.mp hm)
  · intro p hp hm; exact hnI p hp (List.mem_singleton.mp hm)
  · rintro i v m₁ nx h tk own hi hv _ hoff ⟨rfl, hInv, ⟨ta, ha⟩, hm⟩ F₁ N₁
    obtain ⟨b, tb, hb, rfl⟩ := hP i v hi hv
    rw [kpf_map1 ha hm] at F₁
    have hs : (items.take (i + 1)).foldl g a₀ = g ((items.take i).foldl g a₀) b := by
      rw [List.take_add_one, hb]; simp
    have hb' : b ∈ items := List.mem_of_getElem? hb
    refine wpAny_mono (turn b tb _ ta m₁ h tk own hb' hInv hoff F₁ N₁) (fun f s₂ p => ?_) fun _ _ e => e
    have fin : InvEndN h₀ env.locals (fun m' nx_1 => nx_1 = nx ∧ (∃ t, m' y = some (mk (g ((items.take i).foldl g a₀) b) t)) ∧ ∀ z, z ≠ x → z ≠ y → stored.contains z = false → m' z = m₀ z) own (nx.map (·.1)) { s with heap := h, toks := tk } s₂ →
        InvEndN h₀ env.locals (fun m nx_1 => nx_1 = nx ∧ Inv ((items.take (i + 1)).foldl g a₀) ∧ (∃ t, m y = some (mk ((items.take (i + 1)).foldl g a₀) t)) ∧ ∀ z, z ≠ x → z ≠ y → stored.contains z = false → m z = m₀ z) own (nx.map (·.1)) { s with heap := h, toks := tk } s₂ := by
      rintro ⟨h', tk', m', news', nx', e, F', N', hn, ho, hadr, e1, e2, e3⟩
      exact ⟨h', tk', m', news', nx', e, F', N', hn, ho, hadr, e1, by rw [hs]; exact hig _ _ hb' hInv, by rw [hs]; exact e2, e3⟩
    cases f with
    | ret v => exact p
    | brk => exact p
    | next => exact fin p
    | cont => exact fin p
  · rintro m₁ nx h tk ⟨rfl, hInv, ⟨t, ha⟩, hm⟩ F₁ N₁
    rw [← hlen, List.take_length] at ha hInv
    refine done m₁ t h tk hInv ?_ N₁
    rw [kpf_done1 ha hm]; exact F₁

/-- the same over a range of naturals from nought -/
theorem fold1_range {α : Type} (mk : α → Tok → Value) (Inv : α → Prop) (n : Nat) (g : α → Nat → α) (y : Str) (stored : List Str) (a₀ : α)
    {r : Addr} {b₀ : Int} {t1 u1 v1 : Tok} {m₀ : Str → Option Value} {news : List (Addr × Obj)} {t₀ : Tok}
    (hh : A.handled = none) (hr : IsRange s.heap r 0 b₀ 1 t1 u1 v1) (hb : b₀ = (n : Int)) (hsm : Builtin.Range.small 0 b₀ 1 = true)
    (F : Fr h₀ env.locals s.heap m₀) (N : News h₀ env.locals s.heap news)
    (hy : m₀ y = some (mk a₀ t₀)) (hi0 : Inv a₀) (hig : ∀ a k, k < n → Inv a → Inv (g a k))
    (turn : ∀ k tb a ta (u : Str → Option Value) h tk own, k < n → Inv a → OwnOff own (news.map (·.1)) →
      Fr h₀ env.locals h (fun z => if z = x then some (vn k tb) else if z = y then some (mk a ta) else if stored.contains z then u z else m₀ z) → News h₀ env.locals h (news ++ own) →
      wpAny (model prog w) A (execs body env) (End1 h₀ env.locals mk x y stored m₀ news own (g a k) { s with heap := h, toks := tk } Q) E { s with heap := h, toks := tk })
    (done : ∀ (u : Str → Option Value) t h tk, Inv ((List.range n).foldl g a₀) → Fr h₀ env.locals h (fun z => if z = x then u z else if z = y then some (mk ((List.range n).foldl g a₀) t) else if stored.contains z then u z else m₀ z) → News h₀ env.locals h news → Q .next { s with heap := h, toks := tk }) :
    wpAny (model prog w) A (pyIter (.ref r)) (fun it s₂ => LoopAtV prog w A h₀ env x body Q E it s₂) E s := by
  subst hb
  have hn : Builtin.Range.rangeSize 0 (n : Int) 1 = (n : Int) := by
    unfold Builtin.Range.rangeSize
    simp
    omega
  refine wpAny_pyIter_range hr hsm ?_
  refine fold1 mk vn Inv (List.range n) g y stored a₀ (LCg.range_walks hh 0 n) (by simp) ?_ (Nat.ne_of_lt F.ns.lt) (next_is_new F) (fun p hp => Nat.ne_of_lt (Heap.lt_size (N p hp).1)) ?_ (F.push _)
    (fun p hp => ⟨Heap.get?_push_of_some _ (N p hp).1, (N p hp).2⟩) hy hi0 (fun a k hk => hig a k (List.mem_range.mp hk)) ?_ ?_
  · rintro i v hi ⟨t, rfl⟩
    exact ⟨i, t, by simp [hi], by simp⟩
  · show IsRangeIter _ _ _ _ _
    rw [hn]; simpa using Heap.get?_push_size _ rfl
  · intro b tb a ta u h tk own hb
    exact turn b tb a ta u h tk own (List.mem_range.mp hb)
  · exact done

/-- the same over a text's signs -/
theorem fold1_text {α : Type} (mk : α → Tok → Value) (Inv : α → Prop) (x' : Str) (g : α → Nat → α) (y : Str) (stored : List Str) (a₀ : α)
    {tx : Tok} {m₀ : Str → Option Value} {news : List (Addr × Obj)} {t₀ : Tok}
    (hh : A.handled = none) (F : Fr h₀ env.locals s.heap m₀) (N : News h₀ env.locals s.heap news)
    (hy : m₀ y = some (mk a₀ t₀)) (hi0 : Inv a₀) (hig : ∀ a c, c ∈ x'.cps.toList → Inv a → Inv (g a c))
    (turn : ∀ c tb a ta (u : Str → Option Value) h tk own, c ∈ x'.cps.toList → Inv a → OwnOff own (news.map (·.1)) →
      Fr h₀ env.locals h (fun z => if z = x then some (.str ⟨#[c]⟩ tb) else if z = y then some (mk a ta) else if stored.contains z then u z else m₀ z) → News h₀ env.locals h (news ++ own) →
      wpAny (model prog w) A (execs body env) (End1 h₀ env.locals mk x y stored m₀ news own (g a c) { s with heap := h, toks := tk } Q) E { s with heap := h, toks := tk })
    (done : ∀ (u : Str → Option Value) t h tk, Inv (x'.cps.toList.foldl g a₀) → Fr h₀ env.locals h (fun z => if z = x then u z else if z = y then some (mk (x'.cps.toList.foldl g a₀) t) else if stored.contains z then u z else m₀ z) → News h₀ env.locals h news → Q .next { s with heap := h, toks := tk }) :
    wpAny (model prog w) A (pyIter (.str x' tx)) (fun it s₂ => LoopAtV prog w A h₀ env x body Q E it s₂) E s := by
  refine wpAny_pyIter_str fun o St hW hst => ?_
  refine fold1 mk (fun c t => .str ⟨#[c]⟩ t) Inv x'.cps.toList g y stored a₀ (hW A hh) (by simp) ?_ (Nat.ne_of_lt F.ns.lt) (next_is_new F) (fun p hp => Nat.ne_of_lt (Heap.lt_size (N p hp).1)) hst (F.push _)
    (fun p hp => ⟨Heap.get?_push_of_some _ (N p hp).1, (N p hp).2⟩) hy hi0 hig ?_ ?_
  · rintro i v hi ⟨c, t, hc, rfl⟩
    exact ⟨c, t, by simpa using hc, rfl⟩
  · exact turn
  · exact done
end

section
variable {h₀ h' : Heap} {L : Addr} {own news : List (Addr × Obj)} {s₁ : Shared} {Q : Flow → Shared → Prop} {m' m₀ : Str → Option Value} {tk : Nat}
theorem end1 {α : Type} {mk : α → Tok → Value} {x y : Str} {stored : List Str} {a' a : α} {t : Tok} (F : Fr h₀ L h' m') (N : News h₀ L h' (news ++ own)) (hv : m' y = some (mk a' t)) (e : a' = a)
    (ho : ∀ z, z ≠ x → z ≠ y → stored.contains z = false → m' z = m₀ z) :
    End1 h₀ L mk x y stored m₀ news own a s₁ Q .next { s₁ with heap := h', toks := tk } :=
  InvEndN.intro F N ⟨rfl, ⟨t, e ▸ hv⟩, ho⟩ rfl (fun _ hp => List.mem_append_left _ hp) (fun _ hp => List.mem_append_right _ hp)
end
theorem xor_and_sum : ∀ a b : Nat, (a ^^^ b) + 2 * (a &&& b) = a + b := by
  intro a
  induction a using Nat.strongRecOn with
  | _ a ih =>
    intro b
    by_cases ha : a = 0
    · subst ha; simp
    · have h := ih (a / 2) (by omega) (b / 2)
      rw [← Nat.xor_div_two, ← Nat.and_div_two] at h
      have h1 := @Nat.xor_mod_two_eq_one a b
      have h2 := @Nat.and_mod_two_eq_one a b
      rcases Nat.mod_two_eq_zero_or_one a with p | p <;> rcases Nat.mod_two_eq_zero_or_one b with q | q <;> omega

theorem bitAnd_n (a b : Nat) : Builtin.bitAnd (a : Int) (b : Int) = ((a &&& b : Nat) : Int) := by
  unfold Builtin.bitAnd
  simp
theorem bitXor_n (a b : Nat) : Builtin.bitXor (a : Int) (b : Int) = ((a ^^^ b : Nat) : Int) := by
  rw [bitXor_and, bitAnd_n]
  have := xor_and_sum a b
  omega
theorem shr_nat (a k : Nat) : (a : Int).fdiv (2 ^ ((k : Int)).toNat) = ((a >>> k : Nat) : Int) := by
  rw [Int.toNat_natCast, Nat.shiftRight_eq_div_pow]
  rw [show ((2 : Int) ^ k) = ((2 ^ k : Nat) : Int) by simp]
  rw [Int.fdiv_eq_ediv_of_nonneg _ (Int.natCast_nonneg _)]
  rfl
theorem shl_nat (a k : Nat) : (a : Int) * (2 ^ ((k : Int)).toNat) = ((a <<< k : Nat) : Int) := by
  rw [Int.toNat_natCast, Nat.shiftLeft_eq]
  simp

section
variable {prog : Program} {w : World} {A : Around} {E : Value → Shared → Prop} {s : Shared} {hp : Heap} {tk : Nat} {Q : Value → Shared → Prop} {t u : Tok} {a b : Nat}
theorem xor_n (h : ∀ t tk, Q (vn (a ^^^ b) t) { s with heap := hp, toks := tk }) : wpAny (model prog w) A (binaryOp .BitXor (vn a t) (vn b u)) Q E { s with heap := hp, toks := tk } :=
  xor_int (by rw [bitXor_n]; exact h _ _)
theorem ixor_n (h : ∀ t tk, Q (vn (a ^^^ b) t) { s with heap := hp, toks := tk }) : wpAny (model prog w) A (inplaceOp .BitXor (vn a t) (vn b u)) Q E { s with heap := hp, toks := tk } :=
  ixor_int (by rw [bitXor_n]; exact h _ _)
theorem and_n (h : ∀ t tk, Q (vn (a &&& b) t) { s with heap := hp, toks := tk }) : wpAny (model prog w) A (binaryOp .BitAnd (vn a t) (vn b u)) Q E { s with heap := hp, toks := tk } :=
  and_int (by rw [bitAnd_n]; exact h _ _)
theorem iand_n (h : ∀ t tk, Q (vn (a &&& b) t) { s with heap := hp, toks := tk }) : wpAny (model prog w) A (inplaceOp .BitAnd (vn a t) (vn b u)) Q E { s with heap := hp, toks := tk } :=
  iand_int (by rw [bitAnd_n]; exact h _ _)
theorem shr_n (h : ∀ t tk, Q (vn (a >>> b) t) { s with heap := hp, toks := tk }) : wpAny (model prog w) A (binaryOp .RShift (vn a t) (vn b u)) Q E { s with heap := hp, toks := tk } :=
  rshift_int (Int.natCast_nonneg _) (by rw [shr_nat]; exact h _ _)
theorem ishr_n (h : ∀ t tk, Q (vn (a >>> b) t) { s with heap := hp, toks := tk }) : wpAny (model prog w) A (inplaceOp .RShift (vn a t) (vn b u)) Q E { s with heap := hp, toks := tk } :=
  irshift_int (Int.natCast_nonneg _) (by rw [shr_nat]; exact h _ _)
theorem shl_n (ha : a < 2 ^ 64) (hb : b ≤ 1000000) (h : ∀ t tk, Q (vn (a <<< b) t) { s with heap := hp, toks := tk }) : wpAny (model prog w) A (binaryOp .LShift (vn a t) (vn b u)) Q E { s with heap := hp, toks := tk } :=
  lshift_int_small (Int.natCast_nonneg _) (by omega) (by simpa using ha) (by rw [shl_nat]; exact h _ _)
theorem add_n (h : ∀ t tk, Q (vn (a + b) t) { s with heap := hp, toks := tk }) : wpAny (model prog w) A (binaryOp .Add (vn a t) (vn b u)) Q E { s with heap := hp, toks := tk } :=
  add_int (by rw [← Int.natCast_add]; exact h _ _)
theorem iadd_n (h : ∀ t tk, Q (vn (a + b) t) { s with heap := hp, toks := tk }) : wpAny (model prog w) A (inplaceOp .Add (vn a t) (vn b u)) Q E { s with heap := hp, toks := tk } :=
  iadd_int (by rw [← Int.natCast_add]; exact h _ _)
theorem mul_n (ha : a < 2 ^ 64) (h : ∀ t tk, Q (vn (a * b) t) { s with heap := hp, toks := tk }) : wpAny (model prog w) A (binaryOp .Mult (vn a t) (vn b u)) Q E { s with heap := hp, toks := tk } :=
  mul_int (by rw [← Int.natCast_mul]; exact h _ _) (.of_left (intBits_le_64 (by omega) (by omega)))
theorem const_n {env : Env} {i : Int} {k : Nat} {pos : Pos} {n : Nat} (hi : i = (n : Int)) (h : ∀ t tk, Q (vn n t) { s with heap := hp, toks := tk }) : wpAny (model prog w) A (eval (.Constant (.int i) k pos) env) Q E { s with heap := hp, toks := tk } := by
  subst hi
  exact wpAny_Constant_int (h _ _)
theorem truthy_n {Q : Bool → Shared → Prop} (h1 : a ≠ 0 → Q true s) (h0 : a = 0 → Q false s) : wpAny (model prog w) A (truthy (vn a t)) Q E s := by
  refine truthy_int ?_
  by_cases h : a = 0
  · subst h; exact h0 rfl
  · have : (((a : Nat) : Int) != 0) = true := by simpa using h
    rw [this]; exact h1 h
theorem st_n {name : Str} {scope : Scope} {L f : Addr} {cd : Value} {h₀ : Heap} {m : Str → Option Value} {news : List (Addr × Obj)} {x : Str} {v : Value} {Q : Unit → Shared → Prop} (F : Fr h₀ L hp m) (N : News h₀ L hp news)
    (h : ∀ h' tk, Fr h₀ L h' (fun y => if y = x then some v else m y) → News h₀ L h' news → Q () { s with heap := h', toks := tk })
    (hk : scope.kind = .function := by rfl) (hl : (envOf name scope L f cd).kindOf x = some .local := by rfl) :
    wpAny (model prog w) A (storeName (envOf name scope L f cd) x v) Q E { s with heap := hp, toks := tk } :=
  stN F N (fun h' F' N' => h h' _ F' N') hk hl
end
theorem and1_lt (a : Nat) : a &&& 1 < 2 ^ 64 := Nat.lt_of_le_of_lt Nat.and_le_right (by decide)
section
variable {prog : Program} {w : World} {A : Around} {E : Value → Shared → Prop} {s : Shared} {hp : Heap} {tk : Nat} {Q : Value → Shared → Prop}
theorem const_l {env : Env} {k : Nat} {pos : Pos} {n : Nat} (h : ∀ t tk, Q (vn (@OfNat.ofNat Nat n (instOfNatNat n)) t) { s with heap := hp, toks := tk }) : wpAny (model prog w) A (eval (.Constant (.int (@OfNat.ofNat Int n (@instOfNat n))) k pos) env) Q E { s with heap := hp, toks := tk } :=
  wpAny_Constant_int (h _ _)
end
section
variable {prog : Program} {w : World} {A : Around} {E : Value → Shared → Prop} {s : Shared} {hp : Heap} {tk : Nat} {Q : Value → Shared → Prop} {t u : Tok}
theorem floordiv_i {a b : Int} (hb : b ≠ 0) (hs : b.natAbs < 1073741824) (h : ∀ t tk, Q (.int (a.fdiv b) t) { s with heap := hp, toks := tk }) : wpAny (model prog w) A (binaryOp .FloorDiv (.int a t) (.int b u)) Q E { s with heap := hp, toks := tk } :=
  floordiv_int hb (h _ _) (Or.inl (PyProof.noPylong_small hs))
theorem mod_i {a b : Int} (hb : b ≠ 0) (h : ∀ t tk, Q (.int (a.fmod b) t) { s with heap := hp, toks := tk }) : wpAny (model prog w) A (binaryOp .Mod (.int a t) (.int b u)) Q E { s with heap := hp, toks := tk } :=
  mod_int hb (h _ _)
theorem mod_n {a : Int} {b : Nat} (hb : 0 < b) (h : ∀ c t tk, c < b → a.fmod b = (c : Int) → Q (vn c t) { s with heap := hp, toks := tk }) : wpAny (model prog w) A (binaryOp .Mod (.int a t) (vn b u)) Q E { s with heap := hp, toks := tk } := by
  have h0 : (0 : Int) ≤ a.fmod b := Int.fmod_nonneg_of_pos _ (by omega)
  have h1 : a.fmod b < b := Int.fmod_lt_of_pos _ (by omega)
  refine mod_i (by omega) ?_
  intro t tk
  have e : a.fmod b = ((a.fmod b).toNat : Int) := by omega
  rw [e]
  exact h _ t tk (by omega) e
theorem pow_n {a b : Nat} (ha : a < 2 ^ 64) (hb : b ≤ 1000000) (h : ∀ t tk, Q (vn (a ^ b) t) { s with heap := hp, toks := tk }) : wpAny (model prog w) A (binaryOp .Pow (vn a t) (vn b u)) Q E { s with heap := hp, toks := tk } :=
  pow_int_small (Int.natCast_nonneg _) (by omega) (by simpa using ha) (by
    have e : ((a : Int) ^ ((b : Int)).toNat) = ((a ^ b : Nat) : Int) := by simp
    rw [e]; exact h _ _)
end
local macro_rules | `(tactic| walk_at "eval Constant int") => `(tactic| (first | (refine const_l ?_; intro _ _) | (with_unfolding_all refine const_n rfl ?_; intro _ _)))
local macro_rules | `(tactic| walk_at "binaryOp BitXor int int") => `(tactic| (refine xor_n ?_; intro _ _))
local macro_rules | `(tactic| walk_at "inplaceOp BitXor int int") => `(tactic| (refine ixor_n ?_; intro _ _))
local macro_rules | `(tactic| walk_at "binaryOp BitAnd int int") => `(tactic| (refine and_n ?_; intro _ _))
local macro_rules | `(tactic| walk_at "inplaceOp BitAnd int int") => `(tactic| (refine iand_n ?_; intro _ _))
local macro_rules | `(tactic| walk_at "binaryOp RShift int int") => `(tactic| (refine shr_n ?_; intro _ _))
local macro_rules | `(tactic| walk_at "inplaceOp RShift int int") => `(tactic| (refine ishr_n ?_; intro _ _))
local macro_rules | `(tactic| walk_at "binaryOp Add int int") => `(tactic| (refine add_n ?_; intro _ _))
local macro_rules | `(tactic| walk_at "inplaceOp Add int int") => `(tactic| (refine iadd_n ?_; intro _ _))
local macro_rules | `(tactic| walk_at "truthy int") => `(tactic| (refine truthy_n ?_ ?_ <;> intro _))
local macro_rules | `(tactic| walk_at "storeName") => `(tactic| (refine st_n (by assumption) (by assumption) ?_; intro _ _ _ _))
local macro_rules | `(tactic| walk_at "my others") => `(tactic| (intro z h1 h2 h3; (try simp at h3); simp [h1, h2, h3]))
local macro_rules | `(tactic| walk_at "binaryOp Mult int int") => `(tactic| (refine mul_n (by decide) ?_; intro _ _))
local macro_rules | `(tactic| walk_at "binaryOp LShift int int") => `(tactic| (refine shl_n (by first | exact and1_lt _ | decide | omega) (by first | decide | omega) ?_; intro _ _))
local macro_rules | `(tactic| walk_at "my end") => `(tactic| refine end1 (by assumption) (by assumption) (by rfl) ?_ (by walk_at "my others"))
local macro_rules | `(tactic| walk_at "binaryOp Pow int int") => `(tactic| (refine pow_n (by first | decide | omega) (by first | decide | omega) ?_; intro _ _))
structure G (w : World) (mean : ExcName → Option Value) (mg mb : Str → Option Value) (h : Heap) : Prop where
  X : (hd.heap_39 w.params).In h
  T : Top hd.view_39 (looseW hd.view_39 []) mean mg mb h

theorem G.keeps {w : World} {mean : ExcName → Option Value} {mg mb : Str → Option Value} {h h' : Heap} (g : G w mean mg mb h) (e : Ext h h') : G w mean mg mb h' :=
  ⟨fun a o q => e a o (g.X a o q), g.T.keeps e⟩

section
variable {prog : Program} {w : World} {mean : ExcName → Option Value} {mg mb : Str → Option Value}

theorem enter {A : Around} {s : Shared} {Q E : Value → Shared → Prop} {name qual : Str} {params : Arguments} {body : List Stmt} {scope : Scope} {dV kV doc pm cdv ct oc : Value} {an od : Option Addr} {osl : Array (Option Value)} {f : Addr} {args : List Value} {binds : List (Str × Value)}
    (g : G w mean mg mb s.heap)
    (ho : (hd.heap_39 w.params).lookup f = some ⟨oc, od, .func (fnOf name qual params body scope dV kV doc pm an cdv ct), osl⟩) (hcd : codeIn (hd.heap_39 w.params) cdv qual = true) (hroom : A.depth < recursionLimit)
    (hbind : BindsTo s (fnOf name qual params body scope dV kV doc pm an cdv ct) ⟨args, []⟩ binds) (hloc : ∀ y ∈ binds, scope.names.lookup y.1 = some .local)
    (h : ∀ L h₁, Fr s.heap L h₁ (fun y => binds.reverse.lookup y) →
      wpAny (model prog w) (A.deeper (envOf qual scope L f cdv)) (execs body (envOf qual scope L f cdv))
        (fun fl s' => Q (retOf fl) s') (fun _ _ => False) { s with heap := h₁, toks := s.toks + binds.length })
    (hco : scope.isCoroutine = false) (hgen : scope.isGenerator = false) (hk : scope.kind = .function) (hcell : ∀ x ∈ scope.names, x.2 ≠ .cell) :
    wpAny (model prog w) A (call (.ref f) args) Q E s := by
  refine wpAny_call ?_
  refine codeAny_call_def (fd := fnOf name qual params body scope dV kV doc pm an cdv ct) (body := body) (binds := binds) hroom (g.X _ _ ho) rfl g.T.nolimit (codeRec_of g.X hcd) rfl hbind hcell hloc (fun h₁ hns hk₁ => ?_) hco hgen hk
  refine wpAny_mono (h s.heap.objs.size h₁ ⟨hns, hk₁, Nat.le_refl _⟩) (fun fl s' hl => ?_) fun _ _ y => y.elim
  cases fl <;> exact hl
end

section
variable {prog : Program} {w : World} {A : Around} {s : Shared} {hp h₀ : Heap} {tk : Nat} {L : Addr} {m : Str → Option Value} {news : List (Addr × Obj)} {f : Value} {args : List Value} {R : Tok → Value} {Q E : Value → Shared → Prop}
/-- a called def's contract, beside the caller's frame and ledger -/
theorem withFr (F : Fr h₀ L hp m) (N : News h₀ L hp news)
    (C : ∀ Q : Value → Shared → Prop, (∀ t h' tk', Ext hp h' → Q (R t) { s with heap := h', toks := tk' }) → wpAny (model prog w) A (call f args) Q E { s with heap := hp, toks := tk })
    (h : ∀ t h' tk', Ext hp h' → Fr h₀ L h' m → News h₀ L h' news → Q (R t) { s with heap := h', toks := tk' }) :
    wpAny (model prog w) A (call f args) Q E { s with heap := hp, toks := tk } := C Q fun t h' tk' e => h t h' tk' e (F.keeps e) (N.grown e)
end
/-- what pyIter makes of a source: a fresh iterator that hands out n items -/
def IterOf (prog : Program) (w : World) (xv : Value) (s₁ : Shared) (n : Nat) (P : Nat → Value → Prop) : Prop :=
  ∀ (A : Around) (E : Value → Shared → Prop) (Q : Value → Shared → Prop), A.handled = none →
    (∀ (o : Obj) (fp : List Addr) (St : Nat → Heap → Prop), Walks prog w A s₁.heap.objs.size fp [s₁.heap.objs.size] n P St → (∀ b ∈ fp, b < s₁.heap.objs.size + 1) → (∀ i h, St i h → ∃ o, h.get? s₁.heap.objs.size = some o) → St 0 (s₁.heap.push o) →
      Q (.ref s₁.heap.objs.size) { s₁ with heap := s₁.heap.push o }) → wpAny (model prog w) A (pyIter xv) Q E s₁

abbrev lstO (ys : List Value) : Obj := { cls := .type "list", data := .seq ys.toArray ys.length }

section
variable {prog : Program} {w : World} {A : Around} {E : Value → Shared → Prop} {s : Shared} {env : Env}

theorem iterOf_list {s₁ : Shared} {ax : Addr} {its : Array Value} (hl : s₁.heap.IsList ax its) : IterOf prog w (.ref ax) s₁ its.size (fun i v => its[i]? = some v) := by
  intro A E Q hh h
  have hlt : ax < s₁.heap.objs.size := by obtain ⟨_, e, _⟩ := hl; exact Heap.lt_size e
  refine wpAny_pyIter_list hl ?_
  refine h _ _ _ (Walks.list hh s₁.heap.objs.size ax (Nat.ne_of_lt hlt) its) (fun b hb => ?_) (fun i h st => by obtain ⟨o, e, _⟩ := st.1; exact ⟨o, e⟩) ⟨⟨_, Heap.get?_push_size _ rfl, rfl, rfl⟩, hl.push _⟩
  rcases List.mem_cons.mp hb with rfl | hb
  · exact Nat.lt_succ_self _
  · rw [List.mem_singleton.mp hb]; exact Nat.lt_succ_of_lt hlt
theorem iterOf_range {s₁ : Shared} {r : Addr} {b : Int} {t u v : Tok} {n : Nat} (hr : IsRange s₁.heap r 0 b 1 t u v) (hb : b = (n : Int)) (hsm : Builtin.Range.small 0 b 1 = true) : IterOf prog w (.ref r) s₁ n (fun i x => ∃ t, x = vn i t) := by
  subst hb
  have hn : Builtin.Range.rangeSize 0 (n : Int) 1 = (n : Int) := by
    unfold Builtin.Range.rangeSize
    simp
    omega
  intro A E Q hh h
  refine wpAny_pyIter_range hr hsm ?_
  have W := LCg.range_walks (prog := prog) (w := w) (I := s₁.heap.objs.size) hh 0 n
  refine h _ _ _ { sub := W.sub, frame := W.frame, done := W.done, self := W.self, item := fun i s Q E hi st hQ => W.item i s Q E hi st fun v h' tk hP => hQ v h' tk (by obtain ⟨t, rfl⟩ := hP; exact ⟨t, by simp⟩) } (fun b hb => ?_) (fun i h st => ⟨_, st⟩) ?_
  · rw [List.mem_singleton.mp hb]; exact Nat.lt_succ_self _
  · show IsRangeIter _ _ _ _ _
    rw [hn]; simpa using Heap.get?_push_size _ rfl
theorem iterOf_text {s₁ : Shared} {x : Str} {t : Tok} : IterOf prog w (.str x t) s₁ x.cps.size (SignAt x) := by
  intro A E Q hh h
  cases ha : x.cps.all (· < 128)
  · exact wpAny_pyIter_wide ha (h _ _ _ (Walks.strWide hh _ x t) (fun b hb => by rw [List.mem_singleton.mp hb]; exact Nat.lt_succ_self _) (fun i h st => by obtain ⟨o, e, _⟩ := st; exact ⟨o, e⟩) ⟨_, Heap.get?_push_size _ rfl, rfl, rfl⟩)
  · exact wpAny_pyIter_ascii ha (h _ _ _ (Walks.strAscii hh _ x t) (fun b hb => by rw [List.mem_singleton.mp hb]; exact Nat.lt_succ_self _) (fun i h st => by obtain ⟨o, e, _⟩ := st; exact ⟨o, e⟩) ⟨_, Heap.get?_push_size _ rfl, rfl, rfl⟩)

/-- objects that stand in h' and were not in h -/
def Fresh (tl : List (Addr × Obj)) (h h' : Heap) : Prop := ∀ p ∈ tl, h'.get? p.1 = some p.2 ∧ h.get? p.1 = none

/-- one element's tree: told of any state that keeps the one before the loop -/
def EltOk (prog : Program) (w : World) (A : Around) (env : Env) (elt : Expr) (x : Str) (scope : Scope) (cl : List (Str × Addr)) (s₁ : Shared) (n : Nat) (P : Nat → Value → Prop) (R : Nat → Value → List (Addr × Obj) → Prop) : Prop :=
  ∀ i v C m₂ h tk (E' : Value → Shared → Prop), i < n → P i v → Ext s₁.heap h → s₁.heap.get? C = none → h.Ns C m₂ → m₂ x = some v →
    wpAny (model prog w) A (eval elt (compEnvC scope cl C env)) (fun y s₃ => ∃ h' tk' tl, s₃ = { s₁ with heap := h', toks := tk' } ∧ Ext h h' ∧ Fresh tl h h' ∧ R i y tl) E' { s₁ with heap := h, toks := tk }

set_option maxHeartbeats 1000000 in
theorem comp_block {elt iter : Expr} {x : Str} {px : Pos} {scope : Scope} {cl : List (Str × Addr)} {pos : Pos} {s₁ : Shared} {fp : List Addr} {n : Nat} {P : Nat → Value → Prop} {St : Nat → Heap → Prop} {R : Nat → Value → List (Addr × Obj) → Prop} {oI : Obj}
    {RR : Value → Addr → Result → Shared → Prop} (W : Walks prog w A s₁.heap.objs.size fp [s₁.heap.objs.size] n P St) (hfp : ∀ b ∈ fp, b < s₁.heap.objs.size + 1) (hIo : ∀ i h, St i h → ∃ o, h.get? s₁.heap.objs.size = some o) (hst : St 0 (s₁.heap.push oI)) (hsz : n ≤ sizeLine)
    (hcell : ∀ y ∈ scope.names, y.2 ≠ .cell) (hkind : scope.kind = .function) (hx : scope.names.lookup x = some .local)
    (hR : ∀ i y tl tl', R i y tl → (∀ p ∈ tl, p ∈ tl') → R i y tl') (elt_ok : EltOk prog w A env elt x scope cl s₁ n P R)
    (hRR : ∀ D C h tk m' ys led, Ext s₁.heap h → s₁.heap.get? D = none → s₁.heap.get? C = none → C ≠ D → h.get? D = some (lstO ys) → h.Ns C m' → ys.length = n → Fresh led s₁.heap h → (∀ p ∈ led, p.1 ≠ C ∧ p.1 ≠ D) → (∀ i y, ys[i]? = some y → R i y led) → RR (.ref D) C (.ok .next) { s₁ with heap := h, toks := tk }) :
    wpAny (model prog w) A (newList []) (fun acc s₃ => wpAny (model prog w) A (newFunctionEnv scope env.globals cl [] env.qual none .none (some env)) (fun cenv s₄ =>
      codeAny (model prog w) A (.compStart (.ListComp elt [⟨.Name x px, iter, [], 0⟩] scope pos) 0 (.ref s₁.heap.objs.size) acc { cenv with scope := relabel scope env }) (RR acc cenv.locals) s₄) E s₃) E { s₁ with heap := s₁.heap.push oI } := by
  refine wpAny_newObj_type (wpAny_newFunctionEnv hcell (by intro y hy; simp at hy) (fun h₁ hns₁ hsb₁ => ?_) hkind)
  dsimp only at hns₁ hsb₁ ⊢
  generalize hH1 : s₁.heap.push oI = H1 at hns₁ hsb₁ hst ⊢
  have hI1 : H1.objs.size = s₁.heap.objs.size + 1 := by rw [← hH1, Heap.size_push]
  generalize hH2 : H1.push { cls := .type "list", dict := none, data := .seq ([] : List Value).toArray } = H2 at hns₁ hsb₁ ⊢
  have hC : H2.objs.size = H1.objs.size + 1 := by rw [← hH2, Heap.size_push]
  generalize hD' : H1.objs.size = D at *
  generalize hC' : H2.objs.size = C at *
  have none1 : ∀ a, s₁.heap.objs.size ≤ a → s₁.heap.get? a = none := fun a ha => by
    cases e : s₁.heap.get? a with
    | none => rfl
    | some o' => exact absurd (Heap.lt_size e) (Nat.not_lt.mpr ha)
  generalize hI' : s₁.heap.objs.size = I at *
  have hDI : D ≠ I := by omega
  have hCI : C ≠ I := by omega
  have hCD : C ≠ D := by omega
  have nD := none1 D (by omega)
  have nC := none1 C (by omega)
  have ext0 : ∀ b o, H1.get? b = some o → h₁.get? b = some o := fun b o e => by
    have hb : @LT.lt Nat _ b D := hD' ▸ Heap.lt_size e
    refine hsb₁.extBut b o (by refine neN ?_; omega) (Heap.get?_push_of_some _ (hH2 ▸ Heap.get?_push_of_some _ e))
  have ext1 : Ext s₁.heap h₁ := fun b o e => ext0 b o (hH1 ▸ Heap.get?_push_of_some _ e)
  have hacc : h₁.get? D = some (lstO []) := hsb₁.extBut _ _ (Ne.symm hCD) (Heap.get?_push_of_some _ (hH2 ▸ hD' ▸ Heap.get?_push_size _ rfl))
  have hst₁ : St 0 h₁ := W.frame _ _ _ hst fun b _ o e => ext0 b o e
  have off : ∀ (b : Addr) o, s₁.heap.get? b = some o → @LT.lt Nat _ b I := fun b o e => hI' ▸ Heap.lt_size e
  have loop : ∀ s₃ : Shared, s₃ = { s₁ with heap := h₁, toks := s₁.toks + ([] : List (Str × Value)).length } →
      codeAny (model prog w) A (.compLoop (.ListComp elt [⟨.Name x px, iter, [], 0⟩] scope pos) 0 (.ref I) (.ref D) (compEnvC scope cl C env)) (RR (.ref D) C) s₃ := by
    rintro s₃ rfl
    refine codeAny_compLoop_tests
      (fun k s' => ∃ h' tk i ys m' led, s' = { s₁ with heap := h', toks := tk } ∧ i ≤ n ∧ k = n + 1 - i ∧ ys.length = i ∧ St i h' ∧ Ext s₁.heap h' ∧ h'.Ns C m' ∧ h'.get? D = some (lstO ys) ∧
        Fresh led s₁.heap h' ∧ (∀ p ∈ led, p.1 ≠ I ∧ p.1 ≠ C ∧ p.1 ≠ D) ∧ ∀ j y, ys[j]? = some y → R j y led) ?_ (n + 1)
      ⟨h₁, _, 0, [], _, [], rfl, Nat.zero_le _, rfl, rfl, hst₁, ext1, hns₁, hacc, fun _ hp => (nomatch hp), fun _ hp => (nomatch hp), fun j y e => by simp at e⟩
    rintro k s' ⟨h', tk, i, ys, m', led, rfl, hi, rfl, hyl, hst', ext', hn', hD₁, fr, offL, hys⟩
    by_cases hlt : i < n
    · refine W.item i _ _ _ hlt hst' fun v h₂ tk₂ hPv hst₂ hk₂ => ?_
      refine wpAny_assign_Name (wpAny_storeName_local (lookup_relabel_local hx) (hn'.at' fun o e => hk₂ _ o (by simpa using hCI) e) (fun h₃ hn₃ hs₃ => ?_) (by simp [compEnvC, relabel, hkind]))
      refine wpAny_tests_nil ?_
      simp only [if_true]
      have up23 : ∀ b o, b ≠ C → b ≠ I → h'.get? b = some o → h₃.get? b = some o := fun b o h1 h2 e => hs₃.extBut b o h1 (hk₂ b o (by simpa using h2) e)
      have ext3 : Ext s₁.heap h₃ := fun b o e => by have := off b o e; exact up23 b o (by refine neN ?_; omega) (by refine neN ?_; omega) (ext' b o e)
      have hCf : ∀ b ∈ fp, b ≠ C := fun b hb => by have : @LT.lt Nat _ b (I + 1) := hfp b hb; refine neN ?_; omega
      have hDf : ∀ b ∈ fp, b ≠ D := fun b hb => by have : @LT.lt Nat _ b (I + 1) := hfp b hb; refine neN ?_; omega
      have hst₃ : St (i + 1) h₃ := W.frame _ _ _ hst₂ fun b hb o e => hs₃.extBut b o (hCf b hb) e
      obtain ⟨oI', hoI⟩ := hIo _ _ hst₃
      obtain ⟨oC', hoC₀, _⟩ := LCg.ns_obj hn₃
      have hoC : h₃.get? C = some oC' := hoC₀
      have hD₃ : h₃.get? D = some (lstO ys) := up23 D _ (Ne.symm hCD) hDI hD₁
      refine wpAny_mono (elt_ok i v C _ h₃ _ _ hlt hPv ext3 nC hn₃ (by simp)) (fun y s₄ h₄ => ?_) fun _ _ e => e
      obtain ⟨h₄, tk₄, tl, rfl, ext4, fr4, hRy⟩ := h₄
      have hst₄ : St (i + 1) h₄ := W.frame _ _ _ hst₃ fun b _ o e => ext4 b o e
      refine append_at (hsz := by show ys.toArray.size ≤ sizeLine; rw [List.size_toArray, hyl]; exact Nat.le_trans hi hsz) (ext4 _ _ hD₃) fun h₅ hs₅ hD₅ => ?_
      have off4 : ∀ p ∈ tl, p.1 ≠ I ∧ p.1 ≠ C ∧ p.1 ≠ D := fun p hp => by
        have q := (fr4 p hp).2
        refine ⟨fun e => ?_, fun e => ?_, fun e => ?_⟩
        · rw [e, hoI] at q; cases q
        · rw [e, hoC] at q; cases q
        · rw [e, hD₃] at q; cases q
      refine ⟨n + 1 - (i + 1), by omega, h₅, tk₄, i + 1, ys ++ [y], _, tl ++ led, rfl, hlt, rfl, by rw [List.length_append, List.length_singleton, hyl], W.frame _ _ _ hst₄ fun b hb o e => hs₅.extBut b o (hDf b hb) e,
        fun b o e => ?_, (hn₃.keeps ext4).sameBut hs₅ hCD, hD₅.trans (congrArg some (LCg.lst_snoc ys y)), fun p hp => ?_, fun p hp => ?_, fun j z e => ?_⟩
      · have := off b o e
        exact hs₅.extBut b o (by refine neN ?_; omega) (ext4 b o (ext3 b o e))
      · rcases List.mem_append.mp hp with hp | hp
        · refine ⟨hs₅.extBut _ _ (off4 p hp).2.2 (fr4 p hp).1, ?_⟩
          cases e : s₁.heap.get? p.1 with
          | none => rfl
          | some o => have q := (fr4 p hp).2; rw [ext3 _ _ e] at q; cases q
        · have q := offL p hp
          exact ⟨hs₅.extBut _ _ q.2.2 (ext4 _ _ (up23 _ _ q.2.1 q.1 (fr p hp).1)), (fr p hp).2⟩
      · rcases List.mem_append.mp hp with hp | hp
        · exact off4 p hp
        · exact offL p hp
      · by_cases hj : j < ys.length
        · rw [List.getElem?_append_left hj] at e
          exact hR _ _ _ _ (hys j z e) fun p hp => List.mem_append_right _ hp
        · have e2 : (ys ++ [y])[j]? = [y][j - ys.length]? := List.getElem?_append_right (Nat.not_lt.mp hj)
          rw [e2] at e
          have hj0 : j - ys.length = 0 := by
            cases hq : j - ys.length with
            | zero => rfl
            | succ q => rw [hq] at e; simp at e
          rw [hj0] at e
          have : j = i := by omega
          subst this
          simp at e
          subst e
          exact hR _ _ _ _ hRy fun p hp => List.mem_append_left _ hp
    · obtain rfl : i = n := Nat.le_antisymm hi (Nat.not_lt.mp hlt)
      refine W.done _ _ _ hst' fun h₂ tk₂ hk₂ => ?_
      have up2 : ∀ b o, b ≠ I → h'.get? b = some o → h₂.get? b = some o := fun b o h1 e => hk₂ b o (by simpa using h1) e
      refine hRR D C h₂ tk₂ _ ys led (fun b o e => ?_) nD nC hCD (up2 _ _ hDI hD₁) (hn'.at' fun o e => up2 _ o hCI e) hyl (fun p hp => ⟨up2 _ _ (offL p hp).1 (fr p hp).1, (fr p hp).2⟩) (fun p hp => (offL p hp).2) hys
      have := off b o e
      exact up2 b o (by refine neN ?_; omega) (ext' b o e)
  exact codeAny_compStart_list (loop _ rfl) (W.self 0 _ _ _ hst₁ (loop _ rfl))
end

/-- what the law knows of a comprehension's source once its iterable is reckoned -/
def SrcOk (prog : Program) (w : World) (A : Around) (h₀ : Heap) (L : Addr) (m : Str → Option Value) (news : List (Addr × Obj)) (env : Env) (elt : Expr) (x : Str) (scope : Scope) (cl : List (Str × Addr))
    (Fin : Shared → List Value → List (Addr × Obj) → Prop) (xv : Value) (s₁ : Shared) : Prop :=
  ∃ n P R, IterOf prog w xv s₁ n P ∧ n ≤ sizeLine ∧ Fr h₀ L s₁.heap m ∧ News h₀ L s₁.heap news ∧ (∀ i y tl tl', R i y tl → (∀ p ∈ tl, p ∈ tl') → R i y tl') ∧ EltOk prog w A env elt x scope cl s₁ n P R ∧
    ∀ ys led, ys.length = n → (∀ i y, ys[i]? = some y → R i y led) → Fin s₁ ys led
theorem SrcOk.intro {prog : Program} {w : World} {A : Around} {h₀ : Heap} {L : Addr} {m : Str → Option Value} {news : List (Addr × Obj)} {env : Env} {elt : Expr} {x : Str} {scope : Scope} {cl : List (Str × Addr)}
    {Fin : Shared → List Value → List (Addr × Obj) → Prop} {xv : Value} {s₁ : Shared} {n : Nat} {P : Nat → Value → Prop} (R : Nat → Value → List (Addr × Obj) → Prop) (hi : IterOf prog w xv s₁ n P) (F : Fr h₀ L s₁.heap m) (N : News h₀ L s₁.heap news)
    (hn : n ≤ sizeLine) (hm : ∀ i y tl tl', R i y tl → (∀ p ∈ tl, p ∈ tl') → R i y tl') (he : EltOk prog w A env elt x scope cl s₁ n P R) (hf : ∀ ys led, ys.length = n → (∀ i y, ys[i]? = some y → R i y led) → Fin s₁ ys led) :
    SrcOk prog w A h₀ L m news env elt x scope cl Fin xv s₁ := ⟨n, P, R, hi, hn, F, N, hm, he, hf⟩
/-- for elements that are values alone -/
theorem SrcOk.vals {prog : Program} {w : World} {A : Around} {h₀ : Heap} {L : Addr} {m : Str → Option Value} {news : List (Addr × Obj)} {env : Env} {elt : Expr} {x : Str} {scope : Scope} {cl : List (Str × Addr)}
    {Fin : Shared → List Value → List (Addr × Obj) → Prop} {xv : Value} {s₁ : Shared} {n : Nat} {P : Nat → Value → Prop} (R : Nat → Value → Prop) (hi : IterOf prog w xv s₁ n P) (F : Fr h₀ L s₁.heap m) (N : News h₀ L s₁.heap news)
    (hn : n ≤ sizeLine)
    (he : ∀ i v C m₂ h tk (E' : Value → Shared → Prop), i < n → P i v → Ext s₁.heap h → s₁.heap.get? C = none → h.Ns C m₂ → m₂ x = some v → Fr h₀ L h m → News h₀ L h news →
      wpAny (model prog w) A (eval elt (compEnvC scope cl C env)) (fun y s₃ => ∃ h' tk', s₃ = { s₁ with heap := h', toks := tk' } ∧ Ext h h' ∧ R i y) E' { s₁ with heap := h, toks := tk })
    (hf : ∀ ys led, ys.length = n → (∀ i y, ys[i]? = some y → R i y) → Fin s₁ ys led) :
    SrcOk prog w A h₀ L m news env elt x scope cl Fin xv s₁ :=
  SrcOk.intro (fun i y _ => R i y) hi F N hn (fun _ _ _ _ h _ => h) (fun i v C m₂ h tk E' hi' hP e hC hn hx => wpAny_mono (he i v C m₂ h tk E' hi' hP e hC hn hx (F.keeps e) (N.grown e)) (fun y s₃ ⟨h', tk', e1, e2, e3⟩ => ⟨h', tk', [], e1, e2, fun _ hp => (nomatch hp), e3⟩) fun _ _ q => q) hf

/-- for elements that are objects -/
theorem SrcOk.objs {prog : Program} {w : World} {A : Around} {h₀ : Heap} {L : Addr} {m : Str → Option Value} {news : List (Addr × Obj)} {env : Env} {elt : Expr} {x : Str} {scope : Scope} {cl : List (Str × Addr)}
    {Fin : Shared → List Value → List (Addr × Obj) → Prop} {xv : Value} {s₁ : Shared} {n : Nat} {P : Nat → Value → Prop} (R : Nat → Value → List (Addr × Obj) → Prop) (hi : IterOf prog w xv s₁ n P) (F : Fr h₀ L s₁.heap m) (N : News h₀ L s₁.heap news)
    (hn : n ≤ sizeLine) (hm : ∀ i y tl tl', R i y tl → (∀ p ∈ tl, p ∈ tl') → R i y tl')
    (he : ∀ i v C m₂ h tk (E' : Value → Shared → Prop), i < n → P i v → Ext s₁.heap h → s₁.heap.get? C = none → h.Ns C m₂ → m₂ x = some v → Fr h₀ L h m → News h₀ L h news →
      wpAny (model prog w) A (eval elt (compEnvC scope cl C env)) (fun y s₃ => ∃ h' tk' tl, s₃ = { s₁ with heap := h', toks := tk' } ∧ Ext h h' ∧ Fresh tl h h' ∧ R i y tl) E' { s₁ with heap := h, toks := tk })
    (hf : ∀ ys led, ys.length = n → (∀ i y, ys[i]? = some y → R i y led) → Fin s₁ ys led) :
    SrcOk prog w A h₀ L m news env elt x scope cl Fin xv s₁ :=
  SrcOk.intro R hi F N hn hm (fun i v C m₂ h tk E' hi' hP e hC hn hx => he i v C m₂ h tk E' hi' hP e hC hn hx (F.keeps e) (N.grown e)) hf

section
variable {prog : Program} {w : World} {A : Around} {E : Value → Shared → Prop} {s : Shared} {env : Env} {h₀ : Heap} {L : Addr} {m : Str → Option Value} {news : List (Addr × Obj)}
theorem news_more {h h' : Heap} {tl : List (Addr × Obj)} (F : Fr h₀ L h m) (N : News h₀ L h' news) (fr : Fresh tl h h') : News h₀ L h' (tl ++ news) := by
  obtain ⟨oL, _, _, hL, _⟩ := F.ns
  intro p hp
  rcases List.mem_append.mp hp with hp | hp
  · refine ⟨(fr p hp).1, fun e => ?_, ?_⟩
    · have q := (fr p hp).2; rw [e, hL] at q; cases q
    · cases e : h₀.get? p.1 with
      | none => rfl
      | some o => have q := (fr p hp).2; rw [F.keep _ _ e] at q; cases q
  · exact N p hp
theorem comp_eval {elt iter : Expr} {x : Str} {px : Pos} {scope : Scope} {cl : List (Str × Addr)} {pos : Pos} {Q : Value → Shared → Prop} (hh : A.handled = none)
    (h : wpAny (model prog w) A (eval iter env) (SrcOk prog w A h₀ L m news env elt x scope cl (fun s₁ ys led => ∀ D h tk, Ext s₁.heap h → Fr h₀ L h m → News h₀ L h ((D, lstO ys) :: (led ++ news)) → Fresh ((D, lstO ys) :: led) s₁.heap h → Q (.ref D) { s₁ with heap := h, toks := tk })) E s)
    (hclos : closureFor scope env = pure cl) (hcell : ∀ y ∈ scope.names, y.2 ≠ .cell) (hkind : scope.kind = .function)
    (hnames : ∀ y ∈ scope.names, y.2 = .local → scope.names.lookup y.1 = some .local) (hx : scope.names.lookup x = some .local)
    (hs : ∀ x, foldedSetIterable iter env x = pure x) :
    wpAny (model prog w) A (eval (.ListComp elt [⟨.Name x px, iter, [], 0⟩] scope pos) env) Q E s := by
  rw [eval_ListComp]
  refine wpAny_comprehension_free (use := none) rfl hs hclos hkind hnames (wpAny_mono h (fun xv s₁ h₁ => ?_) fun _ _ e => e)
  obtain ⟨n, P, R, hi, hn, F, N, hm, he, hf⟩ := h₁
  refine hi _ _ _ hh fun o fp St W hfp hIo hst => ?_
  refine comp_block W hfp hIo hst hn hcell hkind hx hm he fun D C h tk m' ys led ext nD nC hCD hD hC hyl fr off hys => ?_
  refine ⟨m', hC, fun h'' hs'' => ?_⟩
  have up : ∀ b o, b ≠ C → h.get? b = some o → h''.get? b = some o := fun b o hb e => hs''.extBut b o hb e
  have ext' : Ext s₁.heap h'' := fun b o e => up b o (fun q => by rw [q, nC] at e; cases e) (ext b o e)
  have fr' : Fresh ((D, lstO ys) :: led) s₁.heap h'' := fun p hp => by
    rcases List.mem_cons.mp hp with rfl | hp
    · exact ⟨up _ _ (Ne.symm hCD) hD, nD⟩
    · exact ⟨up _ _ (off p hp).1 (fr p hp).1, (fr p hp).2⟩
  exact hf ys led hyl hys D h'' tk ext' (F.keeps ext') (news_more F (N.grown ext') fr') fr'
theorem comp_assign {elt iter : Expr} {x y : Str} {px py : Pos} {scope : Scope} {cl : List (Str × Addr)} {pos spos : Pos} {Q : Flow → Shared → Prop} (hh : A.handled = none) (hLe : env.locals = L)
    (h : wpAny (model prog w) A (eval iter env) (SrcOk prog w A h₀ L m news env elt x scope cl (fun s₁ ys led => ∀ D h tk, Fr h₀ L h (fun z => if z = y then some (.ref D) else m z) → News h₀ L h ((D, lstO ys) :: (led ++ news)) → (∀ p ∈ (D, lstO ys) :: led, ∀ q ∈ news, p.1 ≠ q.1) → Q .next { s₁ with heap := h, toks := tk })) E s)
    (hsw : swapsWith (.ListComp elt [⟨.Name x px, iter, [], 0⟩] scope pos) (some (.Name y py)) spos.line env = pure true)
    (hclos : closureFor scope env = pure cl) (hcell : ∀ y ∈ scope.names, y.2 ≠ .cell) (hkind : scope.kind = .function)
    (hnames : ∀ y ∈ scope.names, y.2 = .local → scope.names.lookup y.1 = some .local) (hx : scope.names.lookup x = some .local)
    (hy : env.kindOf y = some .local) (hp : (env.scope.kind == .class || (env.scope.kind == .module && env.locals != env.globals)) = false)
    (hs : ∀ x, foldedSetIterable iter env x = pure x) :
    wpAny (model prog w) A (exec (.Assign [.Name y py] (.ListComp elt [⟨.Name x px, iter, [], 0⟩] scope pos) spos) env) Q E s := by
  subst hLe
  rw [exec_Assign_Name_used _ _ _ _ hsw]
  refine wpAny_bind (wpAny_standAt (wpAny_bind ?_))
  show wpAny _ A (do let _ ← comprehension (.ListComp elt [⟨.Name x px, iter, [], 0⟩] scope pos) scope env _ (newList []) false (eval iter env) (some (assign (.Name y py) env))) _ _ s
  refine wpAny_bind (wpAny_mono (wpAny_comprehension_free (use := some (assign (.Name y py) env)) (Q := fun _ s' => Q .next s') rfl hs hclos hkind hnames
    (wpAny_mono h (fun xv s₁ h₁ => ?_) fun _ _ e => e)) (fun _ s' hq => wpAny_pure (wpAny_pure hq)) fun _ _ e => e)
  obtain ⟨n, P, R, hi, hn, F, N, hm, he, hf⟩ := h₁
  refine hi _ _ _ hh fun o fp St W hfp hIo hst => ?_
  refine comp_block W hfp hIo hst hn hcell hkind hx hm he fun D C h tk m' ys led ext nD nC hCD hD hC hyl fr off hys => ?_
  show wpAny _ A (assign (.Name y py) env (.ref D)) _ _ _
  have F₁ := F.keeps ext
  have fr₁ : Fresh ((D, lstO ys) :: led) s₁.heap h := fun p hp => by
    rcases List.mem_cons.mp hp with rfl | hp
    · exact ⟨hD, nD⟩
    · exact fr p hp
  have N₁ : News h₀ env.locals h ((D, lstO ys) :: (led ++ news)) := news_more F (N.grown ext) fr₁
  obtain ⟨oL, _, _, hL, _⟩ := F.ns
  have hCL : C ≠ env.locals := fun e => by rw [e, hL] at nC; cases nC
  have hC₀ : h₀.get? C = none := by
    cases e : h₀.get? C with
    | none => rfl
    | some o => rw [F.keep _ _ e] at nC; cases nC
  have offC : ∀ p ∈ (D, lstO ys) :: (led ++ news), p.1 ≠ C := fun p hp => by
    rcases List.mem_cons.mp hp with rfl | hp
    · exact Ne.symm hCD
    · rcases List.mem_append.mp hp with hp | hp
      · exact (off p hp).1
      · intro e; have q := (N p hp).1; rw [e, nC] at q; cases q
  refine wpAny_assign_Name (wpAny_storeName_local hy F₁.ns (fun h₂ hn₂ hs₂ => ?_) hp)
  have hL₀ : h₀.get? env.locals = none := Heap.get?_none_of_le F.above
  have F₂ : Fr h₀ env.locals h₂ (fun z => if z = y then some (.ref D) else m z) := ⟨hn₂, fun b o e => hs₂.extBut b o (fun q => by rw [q, hL₀] at e; cases e) (F₁.keep b o e), F.above⟩
  refine ⟨m', hC.sameBut hs₂ hCL, fun h'' hs'' => hf ys led hyl hys D h'' _ (F₂.change hs'' hCL hC₀) (fun p hp => ?_) fun p hp q hq e => by have z := (fr₁ p hp).2; rw [e, (N q hq).1] at z; cases z⟩
  have z : h₂.get? p.1 = some p.2 := hs₂.extBut _ _ (N₁ p hp).2.1 (N₁ p hp).1
  exact ⟨hs''.extBut _ _ (offC p hp) z, (N₁ p hp).2⟩
end
def crcStep (c : Nat) : Nat := if c &&& 1 = 0 then c >>> 1 else c >>> 1 ^^^ 3988292384
def crc8 (c : Nat) : Nat := (List.range 8).foldl (fun c _ => crcStep c) c

section
variable {prog : Program} {w : World} {mean : ExcName → Option Value} {mg mb : Str → Option Value}
set_option maxHeartbeats 1000000 in
theorem gen_crc {A : Around} {s : Shared} {Q E : Value → Shared → Prop} {n : Nat} {t : Tok} (g : G w mean mg mb s.heap) 
    (hroom : A.depth < recursionLimit) (hh : A.handled = none)
    (ret : ∀ t h' tk, Ext s.heap h' → Q (vn (crc8 n) t) { s with heap := h', toks := tk }) : wpAny (model prog w) A (call (.ref 21) [vn n t]) Q E s := by
  have X := g.X
  have T := g.T
  refine' enter g (binds := [(Str.ofString "crc", vn n t)]) ?k1 ?k2 hroom ?k3 ?k4 ?_ ?c1 ?c2 ?c3 ?c4
  case k1 => k_is
  case k2 => k_is
  case k3 => exact BindsTo.of_eq rfl
  case k4 => exact locs rfl
  case c1 => rfl
  case c2 => rfl
  case c3 => rfl
  case c4 => decide
  intro L h₁ F
  have N : News s.heap L h₁ [] := News.nil
  refine wpAny_execs_cons ?_
  refine For_invVF F rfl rfl ?_
  iterate 7 walk1
  refine fold1_range vn (fun _ => True) 8 (fun c _ => crcStep c) (Str.ofString "crc") [] n hh (by assumption) (by rfl) (by rfl) (by assumption) (by assumption) rfl trivial (fun _ _ _ _ => trivial) ?_ ?_
  · intro k tb a ta u h tk own _ _ off F N
    iterate 8 walk1
    all_goals walk1
    all_goals repeat walk1
    · walk_at "my end"
      unfold crcStep; rw [if_neg (by assumption)]
    · walk_at "my end"
      unfold crcStep; rw [if_pos (by assumption)]
  · intro u t h tk _ F N
    repeat walk1
    exact ret _ _ _ (Fr.keep (by assumption))
end
def turnedN (n : Nat) : Nat := (List.range 32).foldl (fun t place => 2 * t + (n >>> place &&& 1)) 0
def downStep (p : Nat) : Nat := if p &&& 1 = 0 then p >>> 1 else (p ^^^ 4374732215) >>> 1
def downN (p k : Nat) : Nat := (List.range k).foldl (fun p _ => downStep p) p
def part1 (p : Nat) : Nat := p ^^^ p <<< 1
def part2 (p : Nat) : Nat := p ^^^ p <<< 2
def part4 (p : Nat) : Nat := p ^^^ p <<< 4
def part8 (p : Nat) : Nat := p ^^^ p <<< 8
def part16 (p : Nat) : Nat := p ^^^ p <<< 16
def part32 (p : Nat) : Nat := p ^^^ p <<< 32
def partCut (p : Nat) : Nat := part32 (part16 (part8 (part4 (part2 (part1 p))))) &&& 8589934591
def partStep (p : Nat) : Nat := if partCut p >>> 32 = 0 then partCut p else partCut p ^^^ 4357819245
def partedN (p : Nat) : Nat := (List.range 32).foldl (fun p _ => partStep p) p
def upStep (p : Nat) : Nat := if p >>> 32 = 0 then p else p ^^^ 4374732215
def upU (p : Nat) : Nat := upStep (2 * p)
def alongStep (c p place : Nat) : Nat := upStep (2 * (p ^^^ (c >>> place &&& 1) <<< 31))
def alongC (p c : Nat) : Nat := (List.range 8).foldl (alongStep c) p
def alongN (p : Nat) (cs : List Nat) : Nat := cs.foldl alongC p

theorem shl_xor_lt {a k j m : Nat} (h : a < 2 ^ k) (e : m = k + j) : a ^^^ a <<< j < 2 ^ m := by
  subst e
  refine Nat.xor_lt_two_pow (Nat.lt_of_lt_of_le h (Nat.pow_le_pow_right (by decide) (by omega))) ?_
  rw [Nat.shiftLeft_eq, Nat.pow_add]
  exact Nat.mul_lt_mul_of_pos_right h (Nat.two_pow_pos j)
theorem partCut_lt (p : Nat) : partCut p < 2 ^ 33 := Nat.lt_of_le_of_lt Nat.and_le_right (by decide)
theorem partStep_lt (p : Nat) : partStep p < 2 ^ 33 := by
  unfold partStep
  split
  · exact partCut_lt p
  · exact Nat.xor_lt_two_pow (partCut_lt p) (by decide)

def upN (p k : Nat) : Nat := (List.range k).foldl (fun p _ => upU p) p
section
variable {prog : Program} {w : World} {mean : ExcName → Option Value} {mg mb : Str → Option Value} {A : Around} {s : Shared} {Q E : Value → Shared → Prop}
set_option maxHeartbeats 1000000 in
theorem law_turned {n : Nat} {t : Tok} (g : G w mean mg mb s.heap) (hroom : A.depth < recursionLimit) (hh : A.handled = none)
    (ret : ∀ t h' tk, Ext s.heap h' → Q (vn (turnedN n) t) { s with heap := h', toks := tk }) : wpAny (model prog w) A (call (.ref 89) [vn n t]) Q E s := by
  have X := g.X
  have T := g.T
  refine enter g (binds := [(Str.ofString "number", vn n t)]) (by k_is) (by k_is) hroom (by exact BindsTo.of_eq rfl) (by exact locs rfl) ?_ (by rfl) (by rfl) (by rfl) (by decide)
  intro L h₁ F
  have N : News s.heap L h₁ [] := News.nil
  iterate 5 walk1
  refine For_invVF (by assumption) rfl rfl ?_
  iterate 7 walk1
  refine fold1_range vn (fun _ => True) 32 (fun t place => 2 * t + (n >>> place &&& 1)) (Str.ofString "turned") [] 0 hh (by assumption) (by rfl) (by rfl) (by assumption) (by assumption) rfl trivial (fun _ _ _ _ => trivial) ?_ ?_
  · intro k tb a ta u h tk own _ _ off F N
    repeat walk1
    walk_at "my end"
    rfl
  · intro u t h tk _ F N
    repeat walk1
    exact ret _ _ _ (Fr.keep (by assumption))
set_option maxHeartbeats 1000000 in
theorem law_up {n k : Nat} {t u : Tok} (g : G w mean mg mb s.heap) (hroom : A.depth < recursionLimit) (hh : A.handled = none) (hk : k < 1000000)
    (ret : ∀ t h' tk, Ext s.heap h' → Q (vn (upN n k) t) { s with heap := h', toks := tk }) : wpAny (model prog w) A (call (.ref 96) [vn n t, vn k u]) Q E s := by
  have X := g.X
  have T := g.T
  refine enter g (binds := [(Str.ofString "poly", vn n t), (Str.ofString "count", vn k u)]) (by k_is) (by k_is) hroom (by exact BindsTo.of_eq rfl) (by exact locs rfl) ?_ (by rfl) (by rfl) (by rfl) (by decide)
  intro L h₁ F
  have N : News s.heap L h₁ [] := News.nil
  refine wpAny_execs_cons ?_
  refine For_invVF (by assumption) rfl rfl ?_
  iterate 7 walk1
  refine fold1_range vn (fun _ => True) k (fun p _ => upU p) (Str.ofString "poly") [] n hh (by assumption) (by rfl) (small_one (by decide) (by decide) (by omega) (by omega)) (by assumption) (by assumption) rfl trivial (fun _ _ _ _ => trivial) ?_ ?_
  · intro k tb a ta u h tk own _ _ off F N
    repeat walk1
    all_goals (repeat walk1)
    · walk_at "my end"
      unfold upU upStep; rw [if_neg (by assumption)]
    · walk_at "my end"
      unfold upU upStep; rw [if_pos (by assumption)]
  · intro u t h tk _ F N
    repeat walk1
    exact ret _ _ _ (Fr.keep (by assumption))
end
theorem shr_lt {a n : Nat} (h : a < 2 ^ n) (k : Nat) : a >>> k < 2 ^ n := Nat.lt_of_le_of_lt (Nat.shiftRight_le a k) h
theorem crcStep_lt {c : Nat} (h : c < 2 ^ 32) : crcStep c < 2 ^ 32 := by
  unfold crcStep
  split
  · exact shr_lt h 1
  · exact Nat.xor_lt_two_pow (shr_lt h 1) (by decide)
theorem foldl_inv {α β : Type} {P : α → Prop} {f : α → β → α} {l : List β} (hf : ∀ a b, P a → P (f a b)) : ∀ {a : α}, P a → P (l.foldl f a) := by
  induction l with
  | nil => exact fun h => h
  | cons b r ih => exact fun h => ih (hf _ b h)
theorem crc8_lt {c : Nat} (h : c < 2 ^ 32) : crc8 c < 2 ^ 32 := foldl_inv (P := fun c => c < 2 ^ 32) (fun _ _ h => crcStep_lt h) h
def sumR (cs : List Nat) : Nat := cs.foldl (fun r c => crc8 (r ^^^ c)) 4294967295
theorem shr_zero {a : Nat} (h : a < 2 ^ 32) : a >>> 32 = 0 := by
  rw [Nat.shiftRight_eq_div_pow]; exact Nat.div_eq_of_lt h

section
variable {prog : Program} {w : World} {mean : ExcName → Option Value} {mg mb : Str → Option Value} {A : Around} {s : Shared} {Q E : Value → Shared → Prop}
theorem chr_n {hp : Heap} {tk c : Nat} {t : Tok} (hc : c < 1114112) (h : ∀ t tk, Q (.str ⟨#[c]⟩ t) { s with heap := hp, toks := tk }) : wpAny (model prog w) A (call (.builtin "chr") [vn c t]) Q E { s with heap := hp, toks := tk } :=
  chr_of_range (by omega) (by omega) (h _ _)
theorem and255_lt (a : Nat) : a &&& 255 < 1114112 := Nat.lt_of_le_of_lt Nat.and_le_right (by decide)
theorem IsList.at' {h h' : Heap} {l : Addr} {vs : Array Value} (x : h.IsList l vs) (e : Ext h h') : h'.IsList l vs := x.at fun o q => e l o q
end
/-- each sign c written as r -/
def repl (c : Nat) (r : List Nat) (l : List Nat) : List Nat := l.flatMap fun a => if a = c then r else [a]
theorem repl_not {c : Nat} {r : List Nat} : ∀ {l : List Nat}, c ∉ l → repl c r l = l
  | [], _ => rfl
  | a :: l, h => by
    have h1 : a ≠ c := fun e => h (e ▸ List.mem_cons_self)
    have h2 := repl_not (r := r) (fun e => h (List.mem_cons_of_mem _ e) : c ∉ l)
    unfold repl at h2 ⊢
    rw [List.flatMap_cons, if_neg h1, h2]; rfl

theorem repl_append (c : Nat) (r a b : List Nat) : repl c r (a ++ b) = repl c r a ++ repl c r b := by unfold repl; exact List.flatMap_append
theorem repl_join (c : Nat) (z : Str) : ∀ parts : List Str, (∀ p ∈ parts, c ∉ p.cps.toList) → repl c z.cps.toList (Str.join ⟨#[c]⟩ parts).cps.toList = (Str.join z parts).cps.toList
  | [], _ => rfl
  | [p], h => repl_not (h p (List.mem_singleton.mpr rfl))
  | p :: q :: r, h => by
    have ih := repl_join c z (q :: r) fun a ha => h a (List.mem_cons_of_mem _ ha)
    show repl c z.cps.toList (p ++ ⟨#[c]⟩ ++ Str.join ⟨#[c]⟩ (q :: r)).cps.toList = (p ++ z ++ Str.join z (q :: r)).cps.toList
    simp only [Str.cps_append, Array.toList_append]
    rw [repl_append, repl_append, ih, repl_not (h p List.mem_cons_self)]
    have : repl c z.cps.toList [c] = z.cps.toList := by simp [repl]
    show p.cps.toList ++ repl c z.cps.toList [c] ++ _ = _
    rw [this]
theorem replace_repl (x z : Str) (c : Nat) : (Txt.replace x ⟨#[c]⟩ z).cps.toList = repl c z.cps.toList x.cps.toList := by
  rw [StrLaws.replace_one, ← repl_join c z _ (StrLaws.split_free x c), StrLaws.join_split]

section
variable {prog : Program} {w : World} {mean : ExcName → Option Value} {mg mb : Str → Option Value} {A : Around} {s : Shared} {E : Value → Shared → Prop} {Q : Flow → Shared → Prop}
set_option maxHeartbeats 2000000 in
theorem if_rep {name : Str} {scope : Scope} {L f : Addr} {cd : Value} {h₀ hp : Heap} {m : Str → Option Value} {news : List (Addr × Obj)} {p1 p2 p3 p4 p5 p6 p7 p8 p9 p10 p11 : Pos} {k1 k2 k3 : Nat} {x cS rS : Str} {t : Tok} {tk : Nat} {c : Nat}
    (Ff : Fr h₀ L hp m) (N : News h₀ L hp news) (hm : m (Str.ofString "text") = some (.str x t)) (hc : cS = ⟨#[c]⟩) (hx : x.length + (x.length + 1) * rS.length ≤ 16777216) (hcr : (cS == rS) = false)
    (hline : (p6.endLine == p9.line) = true) (hkd : scope.kind = .function) (hl : (envOf name scope L f cd).kindOf (Str.ofString "text") = some .local)
    (h : ∀ h' tk y t', y.cps.toList = repl c rS.cps.toList x.cps.toList → Fr h₀ L h' (fun z => if z = Str.ofString "text" then some (.str y t') else m z) → News h₀ L h' news → Q .next { s with heap := h', toks := tk }) :
    wpAny (model prog w) A (exec (.If (.Compare (.Constant (.str cS) k1 p1) [.In] [.Name (Str.ofString "text") p2] p3) [.Assign [.Name (Str.ofString "text") p4] (.Call (.Attribute (.Name (Str.ofString "text") p5) (Str.ofString "replace") p6) [.Constant (.str cS) k2 p7, .Constant (.str rS) k3 p8] [] p9) p10] [] p11) (envOf name scope L f cd)) Q E { s with heap := hp, toks := tk } := by
  refine wpAny_If ?_
  refine wpAny_isTrue_Compare1 ?_
  refine Constant_str ?_
  refine ld Ff hm ?_ hkd hl (by decide)
  refine in_str ?_
  refine wpAny_truthy_bool ?_
  subst hc
  rw [StrLaws.found_one]
  by_cases hi : c ∈ x.cps.toList
  · rw [decide_eq_true hi, if_pos rfl]
    refine wpAny_execs_cons ?_
    refine wpAny_Assign_Name ?_ rfl
    refine wpAny_Call_method_lateS rfl rfl hline ?_
    refine ld Ff hm ?_ hkd hl (by decide)
    refine ⟨"str", "str.replace", F.plainAttrs_str, F.slot_str_replace, F.type_str_replace, typeIs_str _ _ _, GM.noRef, ?_⟩
    refine callWith_method1 ?_
    refine spliced_cons (Constant_str (k := k2) (pos := p7) ?_)
    refine spliced_cons (Constant_str (k := k3) (pos := p8) ?_)
    refine spliced_nil ?_
    refine SC.replace (Nat.succ_ne_zero _) (Nat.succ_ne_zero _) (Nat.ne_of_lt (Nat.lt_succ_self _)) hcr hx fun t' k => ?_
    exact st_n Ff N (fun h' tk' F' N' => wpAny_execs_nil (h h' tk' _ t' (replace_repl x rS c) F' N')) hkd hl
  · rw [decide_eq_false hi, if_neg Bool.false_ne_true]
    refine wpAny_execs_nil ?_
    refine h hp _ x t (repl_not hi).symm ?_ N
    have e : (fun z => if z = Str.ofString "text" then some (.str x t) else m z) = m := by
      funext z
      by_cases q : z = Str.ofString "text"
      · rw [if_pos q, q, hm]
      · rw [if_neg q]
    rw [e]; exact Ff
end
/-- what each hand writes for a sign, in the order of its text: the sign, what is written -/
def escT : Nat → List (Nat × List Nat)
  | 0 => [(38, [38, 97, 109, 112, 59]), (60, [38, 108, 116, 59]), (62, [38, 103, 116, 59])]
  | 1 => [(38, [38, 97, 109, 112, 59]), (60, [38, 108, 116, 59]), (62, [38, 103, 116, 59]), (34, [38, 113, 117, 111, 116, 59]), (13, [38, 35, 49, 51, 59]), (10, [38, 35, 49, 48, 59]), (9, [38, 35, 48, 57, 59])]
  | 2 => [(38, [38, 97, 109, 112, 59]), (62, [38, 103, 116, 59]), (34, [38, 113, 117, 111, 116, 59])]
  | 3 => [(38, [38, 97, 109, 112, 59]), (60, [38, 108, 116, 59]), (62, [38, 103, 116, 59]), (13, [38, 35, 120, 68, 59])]
  | _ => [(38, [38, 97, 109, 112, 59]), (60, [38, 108, 116, 59]), (34, [38, 113, 117, 111, 116, 59]), (9, [38, 35, 120, 57, 59]), (10, [38, 35, 120, 65, 59]), (13, [38, 35, 120, 68, 59])]
def escA : Nat → Addr
  | 0 => 35
  | 1 => 42
  | 2 => 49
  | 3 => 56
  | _ => 63
def escN (rs : List (Nat × List Nat)) (l : List Nat) : List Nat := rs.foldl (fun l p => repl p.1 p.2 l) l
theorem repl_len {c : Nat} {r : List Nat} (hr : r.length ≤ 6) : ∀ l : List Nat, (repl c r l).length ≤ 6 * l.length
  | [] => Nat.le_refl _
  | a :: l => by
    have ih := repl_len (c := c) hr l
    unfold repl at ih ⊢
    rw [List.flatMap_cons, List.length_append, List.length_cons]
    split
    · omega
    · rw [List.length_singleton]; omega
theorem rep_bound {x y : Str} {c : Nat} {r : List Nat} {n : Nat} (hr : r.length ≤ 6) (hx : x.length ≤ n) (e : y.cps.toList = repl c r x.cps.toList) : y.length ≤ 6 * n := by
  have h1 : y.length = y.cps.toList.length := rfl
  have h2 : x.length = x.cps.toList.length := rfl
  have := repl_len (c := c) hr x.cps.toList
  rw [h1, e]; omega
theorem rep_size {x : Str} {k n : Nat} (hx : x.length ≤ n) (hn : n ≤ 2333333) (hk : k ≤ 6) : x.length + (x.length + 1) * k ≤ 16777216 := by
  have : (x.length + 1) * k ≤ (n + 1) * 6 := Nat.mul_le_mul (by omega) hk
  omega

section
variable {prog : Program} {w : World} {mean : ExcName → Option Value} {mg mb : Str → Option Value} {A : Around} {s : Shared} {Q E : Value → Shared → Prop}
set_option maxHeartbeats 2000000 in
theorem esc0 {x : Str} {t : Tok} (g : G w mean mg mb s.heap) (hroom : A.depth < recursionLimit) (hx : x.length ≤ 50)
    (ret : ∀ y t h' tk, y.cps.toList = escN (escT 0) x.cps.toList → Ext s.heap h' → Q (.str y t) { s with heap := h', toks := tk }) : wpAny (model prog w) A (call (.ref 35) [.str x t]) Q E s := by
  have X := g.X
  have T := g.T
  refine enter g (binds := [(Str.ofString "text", .str x t)]) (by k_is) (by k_is) hroom (by exact BindsTo.of_eq rfl) (by exact locs rfl) ?_ (by rfl) (by rfl) (by rfl) (by decide)
  intro L h₁ F
  have N : News s.heap L h₁ [] := News.nil
  iterate 3 walk1
  refine wpAny_execs_cons ?_
  refine if_rep (c := 38) (by assumption) (by assumption) rfl (by decide +kernel) (rep_size hx (by decide) (by decide +kernel)) (by decide +kernel) rfl rfl rfl ?_
  intro h0 tk0 y0 t0 e0 F N
  have b0 := rep_bound (by decide +kernel) hx e0
  refine wpAny_execs_cons ?_
  refine if_rep (c := 60) (by assumption) (by assumption) rfl (by decide +kernel) (rep_size b0 (by decide) (by decide +kernel)) (by decide +kernel) rfl rfl rfl ?_
  intro h1 tk1 y1 t1 e1 F N
  have b1 := rep_bound (by decide +kernel) b0 e1
  refine wpAny_execs_cons ?_
  refine if_rep (c := 62) (by assumption) (by assumption) rfl (by decide +kernel) (rep_size b1 (by decide) (by decide +kernel)) (by decide +kernel) rfl rfl rfl ?_
  intro h2 tk2 y2 t2 e2 F N
  have b2 := rep_bound (by decide +kernel) b1 e2
  repeat walk1
  refine ret _ _ _ _ ?_ (Fr.keep (by assumption))
  rw [e2, e1, e0]
  rfl
set_option maxHeartbeats 2000000 in
theorem esc1 {x : Str} {t : Tok} (g : G w mean mg mb s.heap) (hroom : A.depth < recursionLimit) (hx : x.length ≤ 50)
    (ret : ∀ y t h' tk, y.cps.toList = escN (escT 1) x.cps.toList → Ext s.heap h' → Q (.str y t) { s with heap := h', toks := tk }) : wpAny (model prog w) A (call (.ref 42) [.str x t]) Q E s := by
  have X := g.X
  have T := g.T
  refine enter g (binds := [(Str.ofString "text", .str x t)]) (by k_is) (by k_is) hroom (by exact BindsTo.of_eq rfl) (by exact locs rfl) ?_ (by rfl) (by rfl) (by rfl) (by decide)
  intro L h₁ F
  have N : News s.heap L h₁ [] := News.nil
  iterate 3 walk1
  refine wpAny_execs_cons ?_
  refine if_rep (c := 38) (by assumption) (by assumption) rfl (by decide +kernel) (rep_size hx (by decide) (by decide +kernel)) (by decide +kernel) rfl rfl rfl ?_
  intro h0 tk0 y0 t0 e0 F N
  have b0 := rep_bound (by decide +kernel) hx e0
  refine wpAny_execs_cons ?_
  refine if_rep (c := 60) (by assumption) (by assumption) rfl (by decide +kernel) (rep_size b0 (by decide) (by decide +kernel)) (by decide +kernel) rfl rfl rfl ?_
  intro h1 tk1 y1 t1 e1 F N
  have b1 := rep_bound (by decide +kernel) b0 e1
  refine wpAny_execs_cons ?_
  refine if_rep (c := 62) (by assumption) (by assumption) rfl (by decide +kernel) (rep_size b1 (by decide) (by decide +kernel)) (by decide +kernel) rfl rfl rfl ?_
  intro h2 tk2 y2 t2 e2 F N
  have b2 := rep_bound (by decide +kernel) b1 e2
  refine wpAny_execs_cons ?_
  refine if_rep (c := 34) (by assumption) (by assumption) rfl (by decide +kernel) (rep_size b2 (by decide) (by decide +kernel)) (by decide +kernel) rfl rfl rfl ?_
  intro h3 tk3 y3 t3 e3 F N
  have b3 := rep_bound (by decide +kernel) b2 e3
  refine wpAny_execs_cons ?_
  refine if_rep (c := 13) (by assumption) (by assumption) rfl (by decide +kernel) (rep_size b3 (by decide) (by decide +kernel)) (by decide +kernel) rfl rfl rfl ?_
  intro h4 tk4 y4 t4 e4 F N
  have b4 := rep_bound (by decide +kernel) b3 e4
  refine wpAny_execs_cons ?_
  refine if_rep (c := 10) (by assumption) (by assumption) rfl (by decide +kernel) (rep_size b4 (by decide) (by decide +kernel)) (by decide +kernel) rfl rfl rfl ?_
  intro h5 tk5 y5 t5 e5 F N
  have b5 := rep_bound (by decide +kernel) b4 e5
  refine wpAny_execs_cons ?_
  refine if_rep (c := 9) (by assumption) (by assumption) rfl (by decide +kernel) (rep_size b5 (by decide) (by decide +kernel)) (by decide +kernel) rfl rfl rfl ?_
  intro h6 tk6 y6 t6 e6 F N
  have b6 := rep_bound (by decide +kernel) b5 e6
  repeat walk1
  refine ret _ _ _ _ ?_ (Fr.keep (by assumption))
  rw [e6, e5, e4, e3, e2, e1, e0]
  rfl
set_option maxHeartbeats 2000000 in
theorem esc2 {x : Str} {t : Tok} (g : G w mean mg mb s.heap) (hroom : A.depth < recursionLimit) (hx : x.length ≤ 50)
    (ret : ∀ y t h' tk, y.cps.toList = escN (escT 2) x.cps.toList → Ext s.heap h' → Q (.str y t) { s with heap := h', toks := tk }) : wpAny (model prog w) A (call (.ref 49) [.str x t]) Q E s := by
  have X := g.X
  have T := g.T
  refine enter g (binds := [(Str.ofString "text", .str x t)]) (by k_is) (by k_is) hroom (by exact BindsTo.of_eq rfl) (by exact locs rfl) ?_ (by rfl) (by rfl) (by rfl) (by decide)
  intro L h₁ F
  have N : News s.heap L h₁ [] := News.nil
  iterate 3 walk1
  refine wpAny_execs_cons ?_
  refine if_rep (c := 38) (by assumption) (by assumption) rfl (by decide +kernel) (rep_size hx (by decide) (by decide +kernel)) (by decide +kernel) rfl rfl rfl ?_
  intro h0 tk0 y0 t0 e0 F N
  have b0 := rep_bound (by decide +kernel) hx e0
  refine wpAny_execs_cons ?_
  refine if_rep (c := 62) (by assumption) (by assumption) rfl (by decide +kernel) (rep_size b0 (by decide) (by decide +kernel)) (by decide +kernel) rfl rfl rfl ?_
  intro h1 tk1 y1 t1 e1 F N
  have b1 := rep_bound (by decide +kernel) b0 e1
  refine wpAny_execs_cons ?_
  refine if_rep (c := 34) (by assumption) (by assumption) rfl (by decide +kernel) (rep_size b1 (by decide) (by decide +kernel)) (by decide +kernel) rfl rfl rfl ?_
  intro h2 tk2 y2 t2 e2 F N
  have b2 := rep_bound (by decide +kernel) b1 e2
  repeat walk1
  refine ret _ _ _ _ ?_ (Fr.keep (by assumption))
  rw [e2, e1, e0]
  rfl
set_option maxHeartbeats 2000000 in
theorem esc3 {x : Str} {t : Tok} (g : G w mean mg mb s.heap) (hroom : A.depth < recursionLimit) (hx : x.length ≤ 50)
    (ret : ∀ y t h' tk, y.cps.toList = escN (escT 3) x.cps.toList → Ext s.heap h' → Q (.str y t) { s with heap := h', toks := tk }) : wpAny (model prog w) A (call (.ref 56) [.str x t]) Q E s := by
  have X := g.X
  have T := g.T
  refine enter g (binds := [(Str.ofString "text", .str x t)]) (by k_is) (by k_is) hroom (by exact BindsTo.of_eq rfl) (by exact locs rfl) ?_ (by rfl) (by rfl) (by rfl) (by decide)
  intro L h₁ F
  have N : News s.heap L h₁ [] := News.nil
  iterate 3 walk1
  refine wpAny_execs_cons ?_
  refine if_rep (c := 38) (by assumption) (by assumption) rfl (by decide +kernel) (rep_size hx (by decide) (by decide +kernel)) (by decide +kernel) rfl rfl rfl ?_
  intro h0 tk0 y0 t0 e0 F N
  have b0 := rep_bound (by decide +kernel) hx e0
  refine wpAny_execs_cons ?_
  refine if_rep (c := 60) (by assumption) (by assumption) rfl (by decide +kernel) (rep_size b0 (by decide) (by decide +kernel)) (by decide +kernel) rfl rfl rfl ?_
  intro h1 tk1 y1 t1 e1 F N
  have b1 := rep_bound (by decide +kernel) b0 e1
  refine wpAny_execs_cons ?_
  refine if_rep (c := 62) (by assumption) (by assumption) rfl (by decide +kernel) (rep_size b1 (by decide) (by decide +kernel)) (by decide +kernel) rfl rfl rfl ?_
  intro h2 tk2 y2 t2 e2 F N
  have b2 := rep_bound (by decide +kernel) b1 e2
  refine wpAny_execs_cons ?_
  refine if_rep (c := 13) (by assumption) (by assumption) rfl (by decide +kernel) (rep_size b2 (by decide) (by decide +kernel)) (by decide +kernel) rfl rfl rfl ?_
  intro h3 tk3 y3 t3 e3 F N
  have b3 := rep_bound (by decide +kernel) b2 e3
  repeat walk1
  refine ret _ _ _ _ ?_ (Fr.keep (by assumption))
  rw [e3, e2, e1, e0]
  rfl
set_option maxHeartbeats 2000000 in
theorem esc4 {x : Str} {t : Tok} (g : G w mean mg mb s.heap) (hroom : A.depth < recursionLimit) (hx : x.length ≤ 50)
    (ret : ∀ y t h' tk, y.cps.toList = escN (escT 4) x.cps.toList → Ext s.heap h' → Q (.str y t) { s with heap := h', toks := tk }) : wpAny (model prog w) A (call (.ref 63) [.str x t]) Q E s := by
  have X := g.X
  have T := g.T
  refine enter g (binds := [(Str.ofString "text", .str x t)]) (by k_is) (by k_is) hroom (by exact BindsTo.of_eq rfl) (by exact locs rfl) ?_ (by rfl) (by rfl) (by rfl) (by decide)
  intro L h₁ F
  have N : News s.heap L h₁ [] := News.nil
  iterate 3 walk1
  refine wpAny_execs_cons ?_
  refine if_rep (c := 38) (by assumption) (by assumption) rfl (by decide +kernel) (rep_size hx (by decide) (by decide +kernel)) (by decide +kernel) rfl rfl rfl ?_
  intro h0 tk0 y0 t0 e0 F N
  have b0 := rep_bound (by decide +kernel) hx e0
  refine wpAny_execs_cons ?_
  refine if_rep (c := 60) (by assumption) (by assumption) rfl (by decide +kernel) (rep_size b0 (by decide) (by decide +kernel)) (by decide +kernel) rfl rfl rfl ?_
  intro h1 tk1 y1 t1 e1 F N
  have b1 := rep_bound (by decide +kernel) b0 e1
  refine wpAny_execs_cons ?_
  refine if_rep (c := 34) (by assumption) (by assumption) rfl (by decide +kernel) (rep_size b1 (by decide) (by decide +kernel)) (by decide +kernel) rfl rfl rfl ?_
  intro h2 tk2 y2 t2 e2 F N
  have b2 := rep_bound (by decide +kernel) b1 e2
  refine wpAny_execs_cons ?_
  refine if_rep (c := 9) (by assumption) (by assumption) rfl (by decide +kernel) (rep_size b2 (by decide) (by decide +kernel)) (by decide +kernel) rfl rfl rfl ?_
  intro h3 tk3 y3 t3 e3 F N
  have b3 := rep_bound (by decide +kernel) b2 e3
  refine wpAny_execs_cons ?_
  refine if_rep (c := 10) (by assumption) (by assumption) rfl (by decide +kernel) (rep_size b3 (by decide) (by decide +kernel)) (by decide +kernel) rfl rfl rfl ?_
  intro h4 tk4 y4 t4 e4 F N
  have b4 := rep_bound (by decide +kernel) b3 e4
  refine wpAny_execs_cons ?_
  refine if_rep (c := 13) (by assumption) (by assumption) rfl (by decide +kernel) (rep_size b4 (by decide) (by decide +kernel)) (by decide +kernel) rfl rfl rfl ?_
  intro h5 tk5 y5 t5 e5 F N
  have b5 := rep_bound (by decide +kernel) b4 e5
  repeat walk1
  refine ret _ _ _ _ ?_ (Fr.keep (by assumption))
  rw [e5, e4, e3, e2, e1, e0]
  rfl
end
noncomputable abbrev lawRow : Program := PySem.Challenge.pw_ph0069_02
/-- the law's def, as the row has it -/
noncomputable def lawBody : List Stmt := match lawRow.main.body.getD 17 (.Pass ⟨0, 0, 0, 0⟩) with
  | .FunctionDef _ _ b _ _ _ _ _ _ _ => b
  | _ => []
noncomputable def lawScope : Scope := match lawRow.main.body.getD 17 (.Pass ⟨0, 0, 0, 0⟩) with
  | .FunctionDef _ _ _ _ _ _ s _ _ _ => s
  | _ => { kind := .function, names := [], isGenerator := false, isCoroutine := false }
noncomputable abbrev lawEnv (L f : Addr) (cd : Value) : Env := envOfC (Str.ofString "law") lawScope L f cd

section
variable {prog : Program} {w : World} {A : Around} {E : Value → Shared → Prop} {s : Shared} {hp : Heap} {tk : Nat} {Q : Value → Shared → Prop}
theorem tail_list {value slice : Expr} {l : Addr} {its : List Value} {k : Nat} {u : Tok} {x : Value} (hl : hp.IsList l its.toArray) (hx : its[k]? = some x) (hfit : k < 2 ^ 62) (h : Q x { s with heap := hp, toks := tk })
    (hs : subscripted slice false (.ref l) (vn k u) = operate [.ref l, vn k u] (getItem (.ref l) (vn k u)) := by with_unfolding_all rfl) :
    wpAny (model prog w) A (subscriptTail value slice (.ref l) (vn k u)) Q E { s with heap := hp, toks := tk } :=
  kba_turn (value' := Expr.Name (Str.ofString "_") ⟨0, 0, 0, 0⟩) (fun _ => rfl) (item_listL hl (Int.natCast_nonneg _) (by omega) (by simpa using hx) h hs (fun _ => rfl))
theorem tail_tup {value slice : Expr} {l : Addr} {its : List Value} {k : Nat} {u : Tok} {x : Value} (hl : hp.IsTuple l its.toArray) (hx : its[k]? = some x) (hk : k < its.length) (hfit : k < 2 ^ 62) (h : Q x { s with heap := hp, toks := tk })
    (hs : subscripted slice false (.ref l) (vn k u) = operate [.ref l, vn k u] (getItem (.ref l) (vn k u)) := by with_unfolding_all rfl) :
    wpAny (model prog w) A (subscriptTail value slice (.ref l) (vn k u)) Q E { s with heap := hp, toks := tk } :=
  kba_turn (value' := Expr.Name (Str.ofString "_") ⟨0, 0, 0, 0⟩) (fun _ => rfl) (item_tupleL (j := k) hl (by omega) (by omega) (by unfold seqIndex?; simp; omega) hx h hs (fun _ => rfl))
theorem tail_slice {value slice : Expr} {l : Addr} {its : Array Value} {vl vu vk : Value} {lo hi st : Option Int} {ops : List Value} (hl : hp.IsList l its) (pl : IsPart vl lo) (pu : IsPart vu hi) (pk : IsPart vk st) (h0 : st ≠ some 0) (hsz : its.size ≤ sizeLine)
    (h : ∀ D h', Ext hp h' → h'.IsList D (slicePick its lo hi st) → hp.get? D = none → Q (.ref D) { s with heap := h', toks := tk })
    (hs : subscripted slice false (.ref l) (.ref hp.objs.size) = operate ops (getItem (.ref l) (.ref hp.objs.size))) :
    wpAny (model prog w) A (subscriptTail value slice (.ref l) (.ref hp.objs.size)) Q E { s with heap := hp.push { cls := .type "slice", data := .fields #[vl, vu, vk] }, toks := tk } := by
  refine kba_turn (value' := Expr.Name (Str.ofString "_") ⟨0, 0, 0, 0⟩) (fun _ => rfl) ?_
  refine subscriptTail_ops (s := { s with heap := hp.push { cls := .type "slice", data := .fields #[vl, vu, vk] }, toks := tk }) (Heap.IsList.typeIs (s := { s with heap := hp.push { cls := .type "slice", data := .fields #[vl, vu, vk] }, toks := tk }) (hl.push _)) list_getitem_lookup
    (wpAny_getItem_list_slice (s := { s with heap := hp.push { cls := .type "slice", data := .fields #[vl, vu, vk] }, toks := tk }) (hl.push _) (Heap.IsSliceOf.new ..) pl pu pk h0 ?_ hsz) hs (fun _ => rfl)
  refine h _ _ (fun b o e => Heap.get?_push_of_some _ (Heap.get?_push_of_some _ e)) ⟨_, Heap.get?_push_size _ rfl, rfl, _, rfl⟩ ?_
  cases e : hp.get? (hp.push { cls := .type "slice", data := .fields #[vl, vu, vk] }).objs.size with
  | none => rfl
  | some o => have := Heap.lt_size e; rw [Heap.size_push] at this; exact absurd (Nat.lt_trans (Nat.lt_succ_self _) this) (Nat.lt_irrefl _)
end
theorem IsTuple.up {h h' : Heap} {l : Addr} {vs : Array Value} (x : h.IsTuple l vs) (e : Ext h h') : h'.IsTuple l vs := let ⟨o, q, r⟩ := x; ⟨o, e _ _ q, r⟩
theorem Paired.imp {α β : Type} {F F' : α → β → Prop} (hf : ∀ a b, F a b → F' a b) : ∀ {l₁ : List α} {l₂ : List β}, Paired F l₁ l₂ → Paired F' l₁ l₂
  | _, _, .nil => .nil
  | _, _, .cons h t => .cons (hf _ _ h) (Paired.imp hf t)
theorem Paired.at {α β : Type} {F : α → β → Prop} : ∀ {l₁ : List α} {l₂ : List β}, Paired F l₁ l₂ → ∀ {i : Nat} {b : β}, l₂[i]? = some b → ∃ a, l₁[i]? = some a ∧ F a b
  | _, _, .nil, _, _, h => by simp at h
  | _, _, .cons (a := a) h t, 0, _, e => by
    simp at e; subst e; exact ⟨a, rfl, h⟩
  | _, _, .cons h t, i + 1, _, e => by
    simp at e
    obtain ⟨a', h1, h2⟩ := Paired.at t e
    exact ⟨a', by simpa using h1, h2⟩
/-- the objects of a ledger stand in a heap -/
def Held (tl : List (Addr × Obj)) (h : Heap) : Prop := ∀ p ∈ tl, h.get? p.1 = some p.2

theorem tup_of {h : Heap} {a : Addr} {news : List (Addr × Obj)} {vs : Array Value} {n : Nat} (N : Held news h) (hm : (a, ({ cls := .type "tuple", data := .seq vs n } : Obj)) ∈ news) : h.IsTuple a vs := ⟨_, N _ hm, rfl, _, rfl⟩
theorem list_of {h : Heap} {a : Addr} {news : List (Addr × Obj)} {vs : Array Value} {n : Nat} (N : Held news h) (hm : (a, ({ cls := .type "list", data := .seq vs n } : Obj)) ∈ news) : h.IsList a vs := ⟨_, N _ hm, rfl, _, rfl⟩
noncomputable abbrev ls (k : Nat) : Stmt := lawBody.getD k (.Pass ⟨0, 0, 0, 0⟩)
/-- an int, whichever -/
def IsInt (v : Value) : Prop := ∃ z t, v = .int z t
def ListObj (o : Obj) (its : List Value) : Prop := o.cls = .type "list" ∧ ∃ n, o.data = .seq its.toArray n
theorem ListObj.at {h₀ h : Heap} {L a : Addr} {o : Obj} {its : List Value} {news : List (Addr × Obj)} (x : ListObj o its) (N : News h₀ L h news) (hm : (a, o) ∈ news) : h.IsList a its.toArray := ⟨o, N.get hm, x.1, x.2⟩
theorem cell_at {h₀ h : Heap} {L a : Addr} {o : Obj} {v : Option Value} {news : List (Addr × Obj)} (N : News h₀ L h news) (hm : (a, o) ∈ news) (hd : o.data = .cell v) : h.IsCell a v := ⟨o, N.get hm, hd⟩

theorem fresh_ne {h₀ h : Heap} {L a c : Addr} {o : Obj} {news : List (Addr × Obj)} (e : h.get? a = none) (N : News h₀ L h news) (hm : (c, o) ∈ news) : a ≠ c := fun q => by rw [q, N.get hm] at e; cases e

section
variable {prog : Program} {w : World} {mean : ExcName → Option Value} {mg mb : Str → Option Value} {A : Around} {E : Value → Shared → Prop} {s : Shared} {h₀ hp hf : Heap} {tk : Nat} {L f : Addr} {cd : Value} {m : Str → Option Value} {news : List (Addr × Obj)} {o4 : Obj}
/-- names in a comprehension's block -/
theorem c_own {scope : Scope} {cl : List (Str × Addr)} {C : Addr} {env : Env} {m₂ : Str → Option Value} {x : Str} {v : Value} {pos : Pos} {Q : Value → Shared → Prop} (hn : hp.Ns C m₂) (hx : m₂ x = some v) (h : Q v { s with heap := hp, toks := tk })
    (hk : (compEnvC scope cl C env).scope.kind = .function := by rfl) (hl : (compEnvC scope cl C env).kindOf x = some .local := by rfl) (hd : (x == ("__debug__" : Str)) = false := by decide) :
    wpAny (model prog w) A (eval (.Name x pos) (compEnvC scope cl C env)) Q E { s with heap := hp, toks := tk } := ldVarK (s := { s with heap := hp, toks := tk }) hn hx h hk hl hd
theorem c_cell {scope : Scope} {cl : List (Str × Addr)} {C c : Addr} {env : Env} {x : Str} {v : Value} {pos : Pos} {Q : Value → Shared → Prop} (hv : hp.IsCell c (some v)) (hc : cl.lookup x = some c) (h : Q v { s with heap := hp, toks := tk })
    (hk : (compEnvC scope cl C env).scope.kind = .function := by rfl) (hl : (compEnvC scope cl C env).kindOf x = some .cell := by rfl) (hd : (x == ("__debug__" : Str)) = false := by decide) :
    wpAny (model prog w) A (eval (.Name x pos) (compEnvC scope cl C env)) Q E { s with heap := hp, toks := tk } := ldCellK (s := { s with heap := hp, toks := tk }) hc hv h hk hl hd
theorem c_glob {scope : Scope} {cl : List (Str × Addr)} {C : Addr} {env : Env} {x : Str} {v : Value} {pos : Pos} {Q : Value → Shared → Prop} (g : G w mean mg mb hp) (e : nsIn (hd.heap_39 w.params) mainGlobals x = some (some v)) (h : Q v { s with heap := hp, toks := tk }) (hg : env.globals = mainGlobals := by rfl)
    (hk : (compEnvC scope cl C env).scope.kind = .function := by rfl) (hx : (compEnvC scope cl C env).kindOf x = some .globalImplicit := by rfl) (hd : (x == ("__debug__" : Str)) = false := by decide) :
    wpAny (model prog w) A (eval (.Name x pos) (compEnvC scope cl C env)) Q E { s with heap := hp, toks := tk } :=
  Name_function_global hk hx (loadGlobal_global (env := compEnvC scope cl C env) (s := { s with heap := hp, toks := tk }) (show hp.Ns env.globals mg from hg ▸ g.T.g) (mg_of g.X g.T.g e) h) hd
theorem c_boot {scope : Scope} {cl : List (Str × Addr)} {C : Addr} {env : Env} {x : Str} {v : Value} {pos : Pos} {Q : Value → Shared → Prop} (g : G w mean mg mb hp) (e : nsIn (hd.heap_39 w.params) mainGlobals x = some none) (hv : bootBuiltins x = some v) (hn : x ≠ "__name__") (h : Q v { s with heap := hp, toks := tk }) (hg : env.globals = mainGlobals := by rfl) (hb : env.builtins = builtinsNs := by rfl)
    (hk : (compEnvC scope cl C env).scope.kind = .function := by rfl) (hx : (compEnvC scope cl C env).kindOf x = some .globalImplicit := by rfl) (hd : (x == ("__debug__" : Str)) = false := by decide) :
    wpAny (model prog w) A (eval (.Name x pos) (compEnvC scope cl C env)) Q E { s with heap := hp, toks := tk } :=
  Name_function_global hk hx (loadGlobal_builtin (env := compEnvC scope cl C env) (s := { s with heap := hp, toks := tk }) (show hp.Ns env.globals mg from hg ▸ g.T.g) (mg_none_of g.X g.T.g e) (show hp.Ns env.builtins mb from hb ▸ g.T.b) ((g.T.builtins x hn).trans hv) h) hd

/-- names in the law's own block -/
theorem e_loc {x : Str} {v : Value} {pos : Pos} {Q : Value → Shared → Prop} (F : Fr h₀ L hp m) (hm : m x = some v) (h : Q v { s with heap := hp, toks := tk })
    (hk : lawScope.kind = .function := by rfl) (hl : (lawEnv L f cd).kindOf x = some .local := by rfl) (hd : (x == ("__debug__" : Str)) = false := by decide) :
    wpAny (model prog w) A (eval (.Name x pos) (lawEnv L f cd)) Q E { s with heap := hp, toks := tk } := wpAny_Name (wpAny_loadName_local (s := { s with heap := hp, toks := tk }) hk hl F.ns hm h) hd
theorem e_cell {x : Str} {c : Addr} {v : Value} {pos : Pos} {Q : Value → Shared → Prop} (hv : hp.IsCell c (some v)) (h : Q v { s with heap := hp, toks := tk }) (hc : (lawEnv L f cd).cells.lookup x = some c := by rfl)
    (hk : lawScope.kind = .function := by rfl) (hl : (lawEnv L f cd).kindOf x = some .cell := by rfl) (hd : (x == ("__debug__" : Str)) = false := by decide) :
    wpAny (model prog w) A (eval (.Name x pos) (lawEnv L f cd)) Q E { s with heap := hp, toks := tk } := wpAny_Name (wpAny_loadName_cell (s := { s with heap := hp, toks := tk }) hk hl hc hv h) hd
theorem e_glob {x : Str} {v : Value} {pos : Pos} {Q : Value → Shared → Prop} (g : G w mean mg mb hp) (e : nsIn (hd.heap_39 w.params) mainGlobals x = some (some v)) (h : Q v { s with heap := hp, toks := tk })
    (hk : lawScope.kind = .function := by rfl) (hx : (lawEnv L f cd).kindOf x = some .globalImplicit := by rfl) (hd : (x == ("__debug__" : Str)) = false := by decide) :
    wpAny (model prog w) A (eval (.Name x pos) (lawEnv L f cd)) Q E { s with heap := hp, toks := tk } :=
  Name_function_global hk hx (loadGlobal_global (env := lawEnv L f cd) (s := { s with heap := hp, toks := tk }) g.T.g (mg_of g.X g.T.g e) h) hd
theorem e_boot {x : Str} {v : Value} {pos : Pos} {Q : Value → Shared → Prop} (g : G w mean mg mb hp) (e : nsIn (hd.heap_39 w.params) mainGlobals x = some none) (hv : bootBuiltins x = some v) (hn : x ≠ "__name__") (h : Q v { s with heap := hp, toks := tk })
    (hk : lawScope.kind = .function := by rfl) (hx : (lawEnv L f cd).kindOf x = some .globalImplicit := by rfl) (hd : (x == ("__debug__" : Str)) = false := by decide) :
    wpAny (model prog w) A (eval (.Name x pos) (lawEnv L f cd)) Q E { s with heap := hp, toks := tk } :=
  Name_function_global hk hx (loadGlobal_builtin (env := lawEnv L f cd) (s := { s with heap := hp, toks := tk }) g.T.g (mg_none_of g.X g.T.g e) g.T.b ((g.T.builtins x hn).trans hv) h) hd
theorem e_st {x : Str} {v : Value} {news : List (Addr × Obj)} {Q : Unit → Shared → Prop} (F : Fr h₀ L hp m) (N : News h₀ L hp news)
    (h : ∀ h' tk', Fr h₀ L h' (fun y => if y = x then some v else m y) → News h₀ L h' news → Q () { s with heap := h', toks := tk' })
    (hl : (lawEnv L f cd).kindOf x = some .local := by rfl) (hp' : ((lawEnv L f cd).scope.kind == .class || ((lawEnv L f cd).scope.kind == .module && (lawEnv L f cd).locals != (lawEnv L f cd).globals)) = false := by rfl) :
    wpAny (model prog w) A (storeName (lawEnv L f cd) x v) Q E { s with heap := hp, toks := tk } :=
  wpAny_storeName_local (s := { s with heap := hp, toks := tk }) hl F.ns (fun h' hn hs => h h' _ (F.set hn hs) (N.set hs)) hp'

theorem intsAre_of : ∀ {vs : List Value}, (∀ v ∈ vs, IsInt v) → ∃ ns, IntsAre vs ns
  | [], _ => ⟨[], .nil⟩
  | v :: vs, h => by
    obtain ⟨z, t, rfl⟩ := h v List.mem_cons_self
    obtain ⟨ns, hn⟩ := intsAre_of fun v hv => h v (List.mem_cons_of_mem _ hv)
    exact ⟨z :: ns, .cons z t hn⟩
theorem isInt_of : ∀ {vs : List Value} {ns : List Int}, IntsAre vs ns → ∀ v ∈ vs, IsInt v
  | _, _, .nil, _, h => nomatch h
  | _, _, .cons z t r, v, h => by
    rcases List.mem_cons.mp h with rfl | h
    · exact ⟨z, t, rfl⟩
    · exact isInt_of r v h
theorem pick_mem {its : Array Value} {lo hi st : Option Int} {v : Value} (h : v ∈ (slicePick its lo hi st).toList) : v ∈ its.toList := by
  unfold slicePick at h
  simp only [List.mem_filterMap] at h
  obtain ⟨i, _, e⟩ := h
  exact Array.mem_toList_iff.mpr (Array.mem_of_getElem? e)
theorem sum_ext {l : Addr} {its : Array Value} {Q : Value → Shared → Prop} (hh : A.handled = none) (hl : hp.IsList l its) (hv : ∀ v ∈ its.toList, IsInt v) (h : ∀ z t h' tk', Ext hp h' → Q (.int z t) { s with heap := h', toks := tk' }) :
    wpAny (model prog w) A (call (.builtin "sum") [.ref l]) Q E { s with heap := hp, toks := tk } := by
  obtain ⟨ns, hi⟩ := intsAre_of hv
  obtain ⟨xs, hx⟩ := hi.allInts.items
  have hl' : hp.IsList l (intItems xs) := by rw [← hx]; simpa using hl
  exact sum_intListG (s := { s with heap := hp, toks := tk }) hh hl' fun h' tk' t' hk => h _ t' h' tk' hk
/-- a heap that holds a ledger's objects and no other -/
theorem frozen {led : List (Addr × Obj)} {h : Heap} (H : Held led h) : ∃ hf : Heap, Held led hf ∧ ∀ h', Held led h' → Ext hf h' := by
  refine ⟨hideAll h ((List.range h.objs.size).filter fun a => !(led.map (·.1)).contains a), fun p hp => hideAll_get _ (H p hp) fun hm => ?_, fun h' H' b o e => ?_⟩
  · have := (List.mem_filter.mp hm).2
    simp only [Bool.not_eq_true', List.contains_eq_mem, decide_eq_false_iff_not] at this
    exact this (List.mem_map_of_mem hp)
  · have e' := of_hideAll _ e
    by_cases hb : b ∈ led.map (·.1)
    · obtain ⟨p, hp, rfl⟩ := List.mem_map.mp hb
      have q := H p hp
      rw [e'] at q
      cases q
      exact H' p hp
    · have hm : b ∈ (List.range h.objs.size).filter fun a => !(led.map (·.1)).contains a := by
        refine List.mem_filter.mpr ⟨List.mem_range.mpr (Heap.lt_size e'), ?_⟩
        simpa using hb
      rw [hideAll_none _ hm] at e
      cases e

theorem ext_of {c : Addr × Obj} (hE : ∀ h, Held news h → Ext hf h) (N : News h₀ L hp (c :: news)) : Ext hf hp := hE hp fun p hp => (N p (List.mem_cons_of_mem _ hp)).1
theorem cell_up {h h' : Heap} {c : Addr} {v : Option Value} (x : h.IsCell c v) (e : Ext h h') : h'.IsCell c v := let ⟨o, q, r⟩ := x; ⟨o, e _ _ q, r⟩
theorem len_n {l : Addr} {its : List Value} {Q : Value → Shared → Prop} (hl : hp.IsList l its.toArray) (hs : its.length < 1000000) (h : ∀ t tk, Q (vn its.length t) { s with heap := hp, toks := tk }) :
    wpAny (model prog w) A (call (.builtin "len") [.ref l]) Q E { s with heap := hp, toks := tk } :=
  len_list (s := { s with heap := hp, toks := tk }) hl (by simp; omega) (by simpa using h _ _)
theorem Paired.len {α β : Type} {F : α → β → Prop} : ∀ {l₁ : List α} {l₂ : List β}, Paired F l₁ l₂ → l₁.length = l₂.length
  | _, _, .nil => rfl
  | _, _, .cons _ t => by simp [Paired.len t]
end
theorem StrsAre.snoc {y : Str} {t : Tok} : ∀ {vs : List Value} {ys : List Str}, StrsAre vs ys → StrsAre (vs ++ [.str y t]) (ys ++ [y])
  | _, _, .nil => .cons y t .nil
  | _, _, .cons z u r => .cons z u (StrsAre.snoc r)
theorem StrsAre.app : ∀ {vs us : List Value} {ys zs : List Str}, StrsAre vs ys → StrsAre us zs → StrsAre (vs ++ us) (ys ++ zs)
  | _, _, _, _, .nil, q => q
  | _, _, _, _, .cons z u r, q => .cons z u (StrsAre.app r q)
theorem StrsAre.len : ∀ {vs : List Value} {ys : List Str}, StrsAre vs ys → vs.length = ys.length
  | _, _, .nil => rfl
  | _, _, .cons _ _ r => by simp [StrsAre.len r]

/-- the frame and all that is held since: hf stays in every heap that follows -/
structure Kp (h₀ : Heap) (L : Addr) (hf hp : Heap) (m : Str → Option Value) : Prop where
  F : Fr h₀ L hp m
  N : ∃ news, News h₀ L hp news ∧ ∀ h, Held news h → Ext hf h
theorem Kp.e {h₀ hf hp : Heap} {L : Addr} {m : Str → Option Value} (x : Kp h₀ L hf hp m) : Ext hf hp := let ⟨_, n, k⟩ := x.N; k hp fun p hp => (n p hp).1
theorem Kp.keeps {h₀ hf hp h : Heap} {L : Addr} {m : Str → Option Value} (x : Kp h₀ L hf hp m) (e : Ext hp h) : Kp h₀ L hf h m := let ⟨_, n, k⟩ := x.N; ⟨x.F.keeps e, _, n.grown e, k⟩
theorem Kp.grow {h₀ hf h : Heap} {L : Addr} {m : Str → Option Value} {tl news : List (Addr × Obj)} (F : Fr h₀ L h m) (N : News h₀ L h (tl ++ news)) (k : ∀ h, Held news h → Ext hf h) : ∃ hf', Ext hf hf' ∧ Held tl hf' ∧ Kp h₀ L hf' h m := by
  obtain ⟨hf', h1, h2⟩ := frozen (led := tl ++ news) (h := h) fun p hp => (N p hp).1
  exact ⟨hf', k hf' fun p hp => h1 p (List.mem_append_right _ hp), fun p hp => h1 p (List.mem_append_left _ hp), F, _, N, h2⟩
/-- three naturals as the list of values that holds them -/
def NatsAt (vs : List Value) (ns : List Nat) : Prop := Paired (fun v n => ∃ t, v = vn n t) vs ns
/-- a list of values, each as told, as naturals -/
theorem nats_of {P : Nat → Prop} : ∀ {ys : List Value}, (∀ y ∈ ys, ∃ n t, P n ∧ y = vn n t) → ∃ ns : List Nat, NatsAt ys ns ∧ ∀ n ∈ ns, P n
  | [], _ => ⟨[], .nil, fun _ h => nomatch h⟩
  | y :: ys, h => by
    obtain ⟨n, t, hn, rfl⟩ := h y List.mem_cons_self
    obtain ⟨ns, h1, h2⟩ := nats_of fun z hz => h z (List.mem_cons_of_mem _ hz)
    refine ⟨n :: ns, .cons ⟨t, rfl⟩ h1, fun k hk => ?_⟩
    rcases List.mem_cons.mp hk with rfl | hk
    · exact hn
    · exact h2 k hk
/-- values that are texts of one sign each -/
def OnesAre (vs : List Value) (cs : List Nat) : Prop := Paired (fun v c => ∃ t, v = .str ⟨#[c]⟩ t) vs cs
theorem OnesAre.strs : ∀ {vs : List Value} {cs : List Nat}, OnesAre vs cs → StrsAre vs (cs.map fun c => (⟨#[c]⟩ : Str))
  | _, _, .nil => .nil
  | _, _, .cons ⟨t, e⟩ r => by subst e; exact .cons _ t (OnesAre.strs r)
theorem paired_fn {α β : Type} {F : α → β → Prop} (f : Nat → β) : ∀ {ys : List α} {n : Nat}, ys.length = n → (∀ (i : Nat) y, ys[i]? = some y → F y (f i)) → Paired F ys ((List.range n).map f) := by
  intro ys
  induction ys generalizing f with
  | nil =>
    intro n hn _
    subst hn; exact .nil
  | cons y r ih =>
    intro n hn h
    subst hn
    rw [List.length_cons, List.range_succ_eq_map, List.map_cons, List.map_map]
    exact .cons (h 0 y rfl) (ih (f ∘ Nat.succ) rfl fun i z hz => h (i + 1) z (by simpa using hz))
theorem ones_sum : ∀ cs : List Nat, ((cs.map fun c => (⟨#[c]⟩ : Str)).map (·.length)).sum = cs.length
  | [] => rfl
  | c :: r => by
    have := ones_sum r
    simp only [List.map_cons, List.sum_cons, List.length_cons] at this ⊢
    rw [this]
    have : (⟨#[c]⟩ : Str).length = 1 := rfl
    omega
theorem txt_join (x : Str) (ys : List Str) : Txt.join x ys = Str.join x ys := eq_of_beq (join_closes rfl)
section
variable {prog : Program} {w : World} {A : Around} {E : Value → Shared → Prop} {s : Shared} {env : Env} {Q : Value → Shared → Prop}
theorem join_call {e : Expr} {k1 : Nat} {p1 p2 p3 : Pos} {x : Str} (hx : x = ⟨#[]⟩) (hline : (p2.endLine == p3.line) = true) (hs : starEach [e] env = [(false, eval e env)])
    (h : ∀ tk, wpAny (model prog w) A (eval e env) (fun v s₁ => ∃ D ys cs, v = .ref D ∧ s₁.heap.IsList D (List.toArray ys) ∧ OnesAre ys cs ∧ cs.length ≤ 1000 ∧ ∀ t k, Q (.str ⟨cs.toArray⟩ t) { s₁ with toks := k }) E { s with toks := tk }) :
    wpAny (model prog w) A (eval (.Call (.Attribute (.Constant (.str x) k1 p1) (Str.ofString "join") p2) [e] [] p3) env) Q E s := by
  subst hx
  refine wpAny_Call_method_lateS rfl (by rw [hs]; rfl) hline ?_
  refine Constant_str ?_
  refine ⟨"str", "str.join", F.plainAttrs_str, F.slot_str_join, F.type_str_join, typeIs_str _ _ _, GM.noRef, ?_⟩
  refine callWith_method1 ?_ hs
  rw [hs]
  refine spliced_cons (wpAny_mono (h _) (fun v s₁ h₁ => ?_) fun _ _ e => e)
  obtain ⟨D, ys, cs, rfl, hl, ho, hc, q⟩ := h₁
  refine spliced_nil ?_
  refine join_listW hl (by simpa using ho.strs) (by decide) ?_ ?_
  · rw [ones_sum, List.length_map]; omega
  · intro t k
    rw [txt_join, join_ones]
    exact q t k
end
theorem paired_of {α β : Type} {F F' : α → β → Prop} : ∀ {ys zs : List α} {ns : List β}, Paired F ys ns → zs.length = ys.length → (∀ (i : Nat) z, zs[i]? = some z → ∀ n, ns[i]? = some n → F' z n) → Paired F' zs ns
  | [], [], _, .nil, _, _ => .nil
  | _ :: _, z :: zs, _, .cons _ t, e, h => .cons (h 0 z rfl _ rfl) (paired_of t (by simpa using e) fun i z hz n hn => h (i + 1) z (by simpa using hz) n (by simpa using hn))
theorem Paired.get {α β : Type} {F : α → β → Prop} : ∀ {l₁ : List α} {l₂ : List β}, Paired F l₁ l₂ → ∀ {i : Nat} {a : α}, l₁[i]? = some a → ∃ b, l₂[i]? = some b ∧ F a b
  | _, _, .nil, _, _, h => by simp at h
  | _, _, .cons (b := b) h t, 0, _, e => by
    simp at e; subst e; exact ⟨b, rfl, h⟩
  | _, _, .cons h t, i + 1, _, e => by
    simp at e
    obtain ⟨b', h1, h2⟩ := Paired.get t e
    exact ⟨b', by simpa using h1, h2⟩
theorem keep_esc (w : World) : ∀ k, keepIn (hd.heap_39 w.params) (.ref (escA k)) = true
  | 0 => by show keepIn (hd.heap_39 w.params) (.ref 35) = true; k_is
  | 1 => by show keepIn (hd.heap_39 w.params) (.ref 42) = true; k_is
  | 2 => by show keepIn (hd.heap_39 w.params) (.ref 49) = true; k_is
  | 3 => by show keepIn (hd.heap_39 w.params) (.ref 56) = true; k_is
  | k + 4 => by show keepIn (hd.heap_39 w.params) (.ref 63) = true; k_is
/-- a text by its codes -/
abbrev strL (cs : List Nat) : Str := ⟨cs.toArray⟩
theorem strL_of {y : Str} {cs : List Nat} (h : y.cps.toList = cs) : y = strL cs := by subst h; rfl
section
variable {prog : Program} {w : World} {mean : ExcName → Option Value} {mg mb : Str → Option Value} {A : Around} {s : Shared} {Q E : Value → Shared → Prop}
theorem esc_any {k : Nat} {cs : List Nat} {t : Tok} (g : G w mean mg mb s.heap) (hroom : A.depth < recursionLimit) (hx : cs.length ≤ 50)
    (ret : ∀ t h' tk, Ext s.heap h' → Q (.str (strL (escN (escT k) cs)) t) { s with heap := h', toks := tk }) : wpAny (model prog w) A (call (.ref (escA k)) [.str (strL cs) t]) Q E s := by
  have q : ∀ k, ∀ y t h' tk, y.cps.toList = escN (escT k) (strL cs).cps.toList → Ext s.heap h' → (∀ t h' tk, Ext s.heap h' → Q (.str (strL (escN (escT k) cs)) t) { s with heap := h', toks := tk }) → Q (.str y t) { s with heap := h', toks := tk } := by
    intro k y t h' tk e x r
    rw [strL_of e]; exact r t h' tk x
  match k, ret with
  | 0, ret => exact esc0 g hroom hx fun y t h' tk e x => q 0 y t h' tk e x ret
  | 1, ret => exact esc1 g hroom hx fun y t h' tk e x => q 1 y t h' tk e x ret
  | 2, ret => exact esc2 g hroom hx fun y t h' tk e x => q 2 y t h' tk e x ret
  | 3, ret => exact esc3 g hroom hx fun y t h' tk e x => q 3 y t h' tk e x ret
  | k + 4, ret => exact esc4 g hroom hx fun y t h' tk e x => q (k + 4) y t h' tk e x ret
end
section
variable {prog : Program} {w : World} {mean : ExcName → Option Value} {mg mb : Str → Option Value} {A : Around} {E : Value → Shared → Prop} {s : Shared} {h₀ hp hf : Heap} {tk : Nat} {L f : Addr} {cd : Value} {m : Str → Option Value}
theorem add_cs {a b : List Nat} {t u : Tok} {Q : Value → Shared → Prop} (hs : a.length + b.length ≤ 1000) (h : ∀ t' tk, Q (.str (strL (a ++ b)) t') { s with heap := hp, toks := tk }) : wpAny (model prog w) A (binaryOp .Add (.str (strL a) t) (.str (strL b) u)) Q E { s with heap := hp, toks := tk } := by
  have e : strL a ++ strL b = strL (a ++ b) := by
    apply congrArg Str.mk
    simp
  refine add_str (s := { s with heap := hp, toks := tk }) (fun t' tk' => ?_) (Nat.le_trans hs (Nat.le_of_ble_eq_true rfl))
  rw [e]; exact h t' tk'
theorem sub_list {x : Str} {p1 p2 p3 : Pos} {z : Int} {i kk : Nat} {D : Addr} {ys : List Value} {v : Value} {Q : Value → Shared → Prop} (hz : z = (i : Int)) (F : Fr h₀ L hp m) (hm : m x = some (.ref D)) (hl : hp.IsList D ys.toArray) (hy : ys[i]? = some v) (hi : i < 2 ^ 62)
    (h : ∀ tk', Q v { s with heap := hp, toks := tk' }) (hk : (lawEnv L f cd).kindOf x = some .local := by rfl) (hd : (x == ("__debug__" : Str)) = false := by decide) :
    wpAny (model prog w) A (eval (.Subscript (.Name x p1) (.Constant (.int z) kk p2) p3) (lawEnv L f cd)) Q E { s with heap := hp, toks := tk } := by
  refine Subscript_ ?_
  refine e_loc F hm ?_ rfl hk hd
  refine const_n hz ?_
  intro _ _
  exact tail_list hl hy hi (h _)
theorem sub_tup {x : Str} {p1 p2 p3 : Pos} {z : Int} {i kk : Nat} {D : Addr} {ys : List Value} {v : Value} {Q : Value → Shared → Prop} (hz : z = (i : Int)) (F : Fr h₀ L hp m) (hm : m x = some (.ref D)) (hl : hp.IsTuple D ys.toArray) (hy : ys[i]? = some v) (hi : i < 2 ^ 62)
    (h : ∀ tk', Q v { s with heap := hp, toks := tk' }) (hk : (lawEnv L f cd).kindOf x = some .local := by rfl) (hd : (x == ("__debug__" : Str)) = false := by decide) :
    wpAny (model prog w) A (eval (.Subscript (.Name x p1) (.Constant (.int z) kk p2) p3) (lawEnv L f cd)) Q E { s with heap := hp, toks := tk } := by
  refine Subscript_ ?_
  refine e_loc F hm ?_ rfl hk hd
  refine const_n hz ?_
  intro _ _
  exact tail_tup hl hy (List.getElem?_eq_some_iff.mp hy).1 hi (h _)
end
theorem ext_trans {a b c : Heap} (h : Ext a b) (k : Ext b c) : Ext a c := fun x o e => k x o (h x o e)
theorem NatsAt.of {f : Nat → Nat} {ys : List Value} {n : Nat} (hl : ys.length = n) (h : ∀ (i : Nat) y, ys[i]? = some y → ∃ t, y = vn (f i) t) : NatsAt ys ((List.range n).map f) := paired_fn (F := fun v n => ∃ t, v = vn n t) f hl h
theorem NatsAt.ints : ∀ {ys : List Value} {ns : List Nat}, NatsAt ys ns → IntsAre ys (ns.map Int.ofNat)
  | _, _, .nil => .nil
  | _, _, .cons ⟨t, e⟩ r => by subst e; exact .cons _ t (NatsAt.ints r)
theorem paired_len {α β : Type} {F : α → β → Prop} : ∀ {ys : List α} {ns : List β}, ys.length = ns.length → (∀ (i : Nat) z n, ys[i]? = some z → ns[i]? = some n → F z n) → Paired F ys ns
  | [], [], _, _ => .nil
  | _ :: _, _ :: _, e, h => .cons (h 0 _ _ rfl rfl) (paired_len (by simpa using e) fun i z n hz hn => h (i + 1) z n (by simpa using hz) (by simpa using hn))
open Builtin in
/-- the octets of a text -/
def utf8L (cs : List Nat) : List UInt8 := cs.flatMap Str.utf8Of
theorem utf8L_append (a b : List Nat) : utf8L (a ++ b) = utf8L a ++ utf8L b := List.flatMap_append
theorem utf8_fold : ∀ (cs : List Nat) (acc : Array UInt8), cs.foldl (fun acc y => acc ++ (Str.utf8Of y).toArray) acc = acc ++ (utf8L cs).toArray
  | [], acc => by simp [utf8L]
  | c :: r, acc => by
    rw [List.foldl_cons, utf8_fold r]
    simp [utf8L, Array.append_assoc]
theorem utf8Of_len (c : Nat) : (Str.utf8Of c).length ≤ 4 := by
  unfold Str.utf8Of
  split
  · simp
  · split
    · simp
    · split <;> simp
theorem utf8L_len : ∀ cs : List Nat, (utf8L cs).length ≤ 4 * cs.length
  | [] => by simp [utf8L]
  | c :: r => by
    have := utf8L_len r
    have h := utf8Of_len c
    unfold utf8L at this ⊢
    rw [List.flatMap_cons, List.length_append, List.length_cons]; omega
theorem forIn_two {α S : Type} {f : α → S → Sem (ForInStep S)} {s0 s1 : S} : ∀ {l : List α}, l ≠ [] → (∀ a, f a s0 = pure (.yield s1)) → (∀ a, f a s1 = pure (.done s1)) → forIn l s0 f = pure s1
  | [], h, _, _ => absurd rfl h
  | [a], _, h0, _ => by rw [List.forIn_cons, h0, pure_bind]; rfl
  | a :: b :: r, _, h0, h1 => by
    rw [List.forIn_cons, h0, pure_bind]
    show forIn (b :: r) s1 f = pure s1
    rw [List.forIn_cons, h1, pure_bind]
theorem no_find {cs : List Nat} (h : ∀ c ∈ cs, Str.isSurrogate c = false) : Array.findIdx? Str.isSurrogate cs.toArray = none := by
  rw [Array.findIdx?_eq_none_iff]
  intro x hx
  exact h x (by simpa using hx)
open Builtin._codecs in
theorem enc_eq (id : String) (self : Value) (cs : List Nat) (hs : ∀ c ∈ cs, Str.isSurrogate c = false) (hl : cs.length ≤ 1000) : encodeNarrow id utf8Codec none self ⟨cs.toArray⟩ = pure (utf8L cs).toArray := by
  have hle : (4000 : Nat) ≤ sizeLine := Nat.le_of_ble_eq_true rfl
  have hu := utf8L_len cs
  have hbad : utf8Codec.bad = Str.isSurrogate := rfl
  have hbo : utf8Codec.bytesOf = Str.utf8Of := rfl
  unfold encodeNarrow
  simp only [Std.Legacy.Range.forIn_eq_forIn_range']
  cases cs with
  | nil => rfl
  | cons c r =>
    rw [forIn_two (s1 := ((c :: r).length, (utf8L (c :: r)).toArray, {}))]
    · rfl
    · simp [List.range'_eq_nil_iff, Str.length, Std.Legacy.Range.size]
    · intro a
      have h1 : ¬ ((#[] : Array UInt8).size > sizeLine) := by simp
      have h2 : (c :: r).toArray[0]? = some c := by simp
      have h3 : Str.isSurrogate c = false := hs c List.mem_cons_self
      dsimp only
      rw [if_neg h1, h2]
      dsimp only
      rw [hbad, h3]
      have h4 : ((c :: r).toArray.extract 0 (c :: r).toArray.size) = (c :: r).toArray := Array.extract_size
      have h5 := no_find hs
      rw [if_pos (by rfl)]
      rw [h4, h5, hbo, Option.getD_none, h4, Nat.zero_add, List.size_toArray]
      congr 3
      congr 1
      have := utf8_fold (c :: r) #[]
      simpa using this
    · intro a
      have h1 : ¬ ((utf8L (c :: r)).toArray.size > sizeLine) := by
        rw [List.size_toArray]; simp only [gt_iff_lt, Nat.not_lt]; omega
      have h2 : (c :: r).toArray[(c :: r).length]? = none := by simp
      dsimp only
      rw [if_neg h1, h2]
section
variable {prog : Program} {w : World} {A : Around} {E : Value → Shared → Prop} {s : Shared} {Q : Value → Shared → Prop}
theorem encode_call {cs : List Nat} {t : Tok} (hs : ∀ c ∈ cs, Str.isSurrogate c = false) (hl : cs.length ≤ 1000) (h : ∀ t' k, Q (.bytes (utf8L cs).toArray t') { s with toks := k }) :
    wpAny (model prog w) A (call (.builtin "str.encode") [.str (strL cs) t]) Q E s := by
  have hle : (4000 : Nat) ≤ sizeLine := Nat.le_of_ble_eq_true rfl
  have hu := utf8L_len cs
  refine wpAny_call_entry F.slot_str_encode (typeIs_str _ _ _) F.entry_str_encode ?_ (F.args_str_encode_1 _)
  rw [encode_tree, encodeRoad_utf8, enc_eq _ _ cs hs hl, pure_bind]
  exact wpAny_bind (wpAny_mkBytes (wpAny_pure ⟨_, rfl, h _ _⟩) (by rw [List.size_toArray]; omega))
end
/-- the octets as naturals -/
def octs (l : List UInt8) : List Nat := l.map UInt8.toNat
theorem octs_lt {l : List UInt8} {c : Nat} (h : c ∈ octs l) : c < 256 := by
  obtain ⟨b, _, rfl⟩ := List.mem_map.mp h
  exact b.toNat_lt
section
variable {prog : Program} {w : World} {A : Around} {E : Value → Shared → Prop} {s : Shared} {env : Env} {h₀ : Heap} {x : Str} {body : List Stmt} {Q : Flow → Shared → Prop}
/-- a loop over octets that turns one name by a fold -/
theorem fold1_bytes {α : Type} (mk : α → Tok → Value) (Inv : α → Prop) (l : List UInt8) (g : α → Nat → α) (y : Str) (stored : List Str) (a₀ : α)
    {tx : Tok} {m₀ : Str → Option Value} {news : List (Addr × Obj)} {t₀ : Tok}
    (hh : A.handled = none) (F : Fr h₀ env.locals s.heap m₀) (N : News h₀ env.locals s.heap news)
    (hy : m₀ y = some (mk a₀ t₀)) (hi0 : Inv a₀) (hig : ∀ a c, c ∈ octs l → Inv a → Inv (g a c))
    (turn : ∀ c tb a ta (u : Str → Option Value) h tk own, c ∈ octs l → Inv a → OwnOff own (news.map (·.1)) →
      Fr h₀ env.locals h (fun z => if z = x then some (vn c tb) else if z = y then some (mk a ta) else if stored.contains z then u z else m₀ z) → News h₀ env.locals h (news ++ own) →
      wpAny (model prog w) A (execs body env) (End1 h₀ env.locals mk x y stored m₀ news own (g a c) { s with heap := h, toks := tk } Q) E { s with heap := h, toks := tk })
    (done : ∀ (u : Str → Option Value) t h tk, Inv ((octs l).foldl g a₀) → Fr h₀ env.locals h (fun z => if z = x then u z else if z = y then some (mk ((octs l).foldl g a₀) t) else if stored.contains z then u z else m₀ z) → News h₀ env.locals h news → Q .next { s with heap := h, toks := tk }) :
    wpAny (model prog w) A (pyIter (.bytes l.toArray tx)) (fun it s₂ => LoopAtV prog w A h₀ env x body Q E it s₂) E s := by
  refine KBw.pyIter_bytes ?_
  refine fold1 mk vn Inv (octs l) g y stored a₀ (KBw.walks hh s.heap.objs.size l.toArray tx) (by simp [octs]) ?_ (Nat.ne_of_lt F.ns.lt) (next_is_new F) (fun p hp => Nat.ne_of_lt (Heap.lt_size (N p hp).1)) ⟨_, Heap.get?_push_size _ rfl, rfl, rfl⟩ (F.push _)
    (fun p hp => ⟨Heap.get?_push_of_some _ (N p hp).1, (N p hp).2⟩) hy hi0 hig ?_ ?_
  · rintro i v hi ⟨c, u, hc, rfl⟩
    exact ⟨c.toNat, u, by have hc' : l[i]? = some c := by simpa using hc
                          simp [octs, hc'], rfl⟩
  · exact turn
  · exact done
end
section
variable {prog : Program} {w : World} {mean : ExcName → Option Value} {mg mb : Str → Option Value} {A : Around} {s : Shared} {Q E : Value → Shared → Prop}
set_option maxHeartbeats 2000000 in
theorem law_along {n : Nat} {l : List UInt8} {t u : Tok} (g : G w mean mg mb s.heap) (hroom : A.depth < recursionLimit) (hh : A.handled = none)
    (ret : ∀ t h' tk, Ext s.heap h' → Q (vn (alongN n (octs l)) t) { s with heap := h', toks := tk }) : wpAny (model prog w) A (call (.ref 103) [vn n t, .bytes l.toArray u]) Q E s := by
  have X := g.X
  have T := g.T
  refine enter g (binds := [(Str.ofString "poly", vn n t), (Str.ofString "octets", .bytes l.toArray u)]) (by k_is) (by k_is) hroom (by exact BindsTo.of_eq rfl) (by exact locs rfl) ?_ (by rfl) (by rfl) (by rfl) (by decide)
  intro L h₁ F
  have N : News s.heap L h₁ [] := News.nil
  refine wpAny_execs_cons ?_
  refine For_invVF F rfl rfl ?_
  walk1
  refine fold1_bytes vn (fun _ => True) l alongC (Str.ofString "poly") [Str.ofString "place"] n hh F N rfl trivial (fun _ _ _ _ => trivial) ?_ ?_
  · intro c tb a ta u h tk own _ _ off F N
    refine wpAny_execs_cons ?_
    refine For_invVF F rfl rfl ?_
    iterate 7 walk1
    refine fold1_range vn (fun _ => True) 8 (alongStep c) (Str.ofString "poly") [] a hh (by assumption) (by rfl) (by rfl) (by assumption) (by assumption) rfl trivial (fun _ _ _ _ => trivial) ?_ ?_
    · intro k tb a ta u h tk own _ _ off F N
      repeat walk1
      all_goals (repeat walk1)
      · walk_at "my end"
        unfold alongStep upStep; rw [if_neg (by assumption)]
      · walk_at "my end"
        unfold alongStep upStep; rw [if_pos (by assumption)]
    · intro u t h tk _ F N
      repeat walk1
      walk_at "my end"
      rfl
  · intro u t h tk _ F N
    repeat walk1
    exact ret _ _ _ (Fr.keep (by assumption))
set_option maxHeartbeats 2000000 in
theorem law_sum {l : List UInt8} {t : Tok} (g : G w mean mg mb s.heap) (hroom : A.depth + 1 < recursionLimit) (hh : A.handled = none)
    (ret : ∀ t h' tk, Ext s.heap h' → Q (vn (sumR (octs l) ^^^ 4294967295) t) { s with heap := h', toks := tk }) : wpAny (model prog w) A (call (.ref 82) [.bytes l.toArray t]) Q E s := by
  have X := g.X
  have T := g.T
  have hx : ∀ c ∈ octs l, c < 2 ^ 32 := fun c h => Nat.lt_of_lt_of_le (octs_lt h) (by decide)
  refine enter g (binds := [(Str.ofString "octets", .bytes l.toArray t)]) (by k_is) (by k_is) (by omega) (by exact BindsTo.of_eq rfl) (by exact locs rfl) ?_ (by rfl) (by rfl) (by rfl) (by decide)
  intro L h₁ F
  have N : News s.heap L h₁ [] := News.nil
  iterate 5 walk1
  refine For_invVF (by assumption) rfl rfl ?_
  walk1
  refine fold1_bytes vn (fun r => r < 2 ^ 32) l (fun r c => crc8 (r ^^^ c)) (Str.ofString "register") [] 4294967295 hh (by assumption) (by assumption) rfl (by decide) (fun a c hc ha => crc8_lt (Nat.xor_lt_two_pow ha (hx c hc))) ?_ ?_
  · intro c tb a ta u h tk own hc ha off F N
    iterate 11 walk1
    refine ⟨g.X.keeps (Fr.keep (by assumption)), ?_⟩
    refine' withFr (by assumption) (by assumption) ?C ?_
    case C => intro Q' hq; exact gen_crc (g.keeps (Fr.keep (by assumption))) (by show A.depth + 1 < _; omega) (by exact hh) hq
    intro t' h' tk' ext F' N'
    have hb : crc8 (a ^^^ c) < 2 ^ 32 := crc8_lt (Nat.xor_lt_two_pow ha (hx c hc))
    repeat walk1
    · exact absurd (shr_zero hb) (by assumption)
    · repeat walk1
      walk_at "my end"
      rfl
  · intro u t h tk _ F N
    repeat walk1
    exact ret _ _ _ (Fr.keep (by assumption))
end
/-- a pair of values in the heap -/
def PairV (h : Heap) (v : Value) (p : Value × Value) : Prop := ∃ a, v = .ref a ∧ h.IsTuple a #[p.1, p.2]
theorem PairV.up {h h' : Heap} {v : Value} {p : Value × Value} (x : PairV h v p) (e : Ext h h') : PairV h' v p := let ⟨a, q, r⟩ := x; ⟨a, q, IsTuple.up r e⟩
section
variable {prog : Program} {w : World} {A : Around} {E : Value → Shared → Prop} {s : Shared} {env : Env} {h₀ hf : Heap} {L : Addr} {Q : Flow → Shared → Prop} {m : Str → Option Value}
theorem chg1 {h h' : Heap} {news : List (Addr × Obj)} {I : Addr} (F : Fr h₀ L h m) (N : News h₀ L h news) (hI : h₀.get? I = none) (hLI : L ≠ I) (ho : ∀ p ∈ news, p.1 ≠ I)
    (hk : ∀ b o, b ≠ I → h.get? b = some o → h'.get? b = some o) : Fr h₀ L h' m ∧ News h₀ L h' news :=
  ⟨⟨F.ns.at' fun o q => hk _ o hLI q, fun b o q => hk b o (fun z => by rw [z, hI] at q; cases q) (F.keep b o q), F.above⟩, fun p hp => ⟨hk _ _ (ho p hp) (N p hp).1, (N p hp).2⟩⟩
set_option maxHeartbeats 1000000 in
/-- for a, b in a list of pairs -/
theorem for_pairs {xi xv : Str} {pi pv pt pos : Pos} {kt : Nat} {iter : Expr} {body : List Stmt} (hLe : env.locals = L) (hh : A.handled = none)
    (h : wpAny (model prog w) A (eval iter env) (fun xv' s₁ => ∃ (J : Nat → (Str → Option Value) → List (Addr × Obj) → Prop) (l : Addr) (hf : Heap) (vs : List Value) (ps : List (Value × Value)) (m : Str → Option Value) (news : List (Addr × Obj)), xv' = .ref l ∧ hf.IsList l vs.toArray ∧ Paired (PairV hf) vs ps ∧ Fr h₀ L s₁.heap m ∧ News h₀ L s₁.heap news ∧ J 0 m news ∧
      (∀ i m nx h, J i m nx → Fr h₀ L h m → News h₀ L h nx → Ext hf h) ∧
      (∀ h' tk' m' nx, Fr h₀ L h' m' → News h₀ L h' nx → J ps.length m' nx → Q .next { s₁ with heap := h', toks := tk' }) ∧
      (∀ (i : Nat) p m₁ nx h tk (I : Addr) (oI : Obj) (Q' : Flow → Shared → Prop) (E' : Value → Shared → Prop), ps[i]? = some p → J i m₁ nx → Fr h₀ L h m₁ → News h₀ L h ((I, oI) :: nx) → (∀ q ∈ nx, q.1 ≠ I) →
        (∀ h' tk' m₂ nx', Fr h₀ L h' m₂ → News h₀ L h' ((I, oI) :: nx') → (∀ q ∈ nx', ∃ r ∈ nx, r.1 = q.1) → J (i + 1) m₂ nx' → Q' .next { s₁ with heap := h', toks := tk' }) →
        wpAny (model prog w) A (assign (.Name xi pi) env p.1) (fun _ s₂ => wpAny (model prog w) A (assign (.Name xv pv) env p.2) (fun _ s₃ => wpAny (model prog w) A (execs body env) Q' E' s₃) E' s₂) E' { s₁ with heap := h, toks := tk })) E s)
    (hs : ∀ x, foldedSetIterable iter env x = pure x := by intro _; rfl) :
    wpAny (model prog w) A (exec (.For (.Tuple [.Name xi pi, .Name xv pv] kt pt) iter body [] pos) env) Q E s := by
  subst hLe
  refine wpAny_For (wpAny_mono h (fun xval s₁ h₁ => ?_) fun _ _ e => e) hs
  obtain ⟨J, l, hf, vs, ps, m, news, rfl, hl, hps, F, N, h0, hE, hdone, hbody⟩ := h₁
  have e1 := hE _ _ _ _ h0 F N
  have hlen := Paired.len hps
  refine wpAny_pyIter_list (IsList.at' hl e1) ?_
  have nI : s₁.heap.get? s₁.heap.objs.size = none := Heap.get?_none_of_le (Nat.le_refl _)
  have hitI : (s₁.heap.push { cls := .type "list_iterator", data := .fields #[.ref l, .int 0 0] }).IsListIter s₁.heap.objs.size l 0 := ⟨_, Heap.get?_push_size _ rfl, rfl, rfl⟩
  have n0 : h₀.get? s₁.heap.objs.size = none := by
    cases q : h₀.get? s₁.heap.objs.size with
    | none => rfl
    | some o => rw [F.keep _ _ q] at nI; cases nI
  obtain ⟨oL, _, _, hL, _⟩ := F.ns
  have hLI : env.locals ≠ s₁.heap.objs.size := fun q => by rw [q, nI] at hL; cases hL
  have ho : ∀ p ∈ news, p.1 ≠ s₁.heap.objs.size := fun p hp q => by have z := (N p hp).1; rw [q, nI] at z; cases z
  have ext1 : Ext s₁.heap (s₁.heap.push { cls := .type "list_iterator", data := .fields #[.ref l, .int 0 0] }) := fun b o e => Heap.get?_push_of_some _ e
  have F1 := F.keeps ext1
  have N1 := N.grown ext1
  generalize hI' : s₁.heap.objs.size = I at *
  generalize hH : s₁.heap.push { cls := .type "list_iterator", data := .fields #[.ref l, .int 0 0] } = H1 at *
  refine codeAny_forLoop_any
    (fun k s' => ∃ h' tk m' nx i, s' = { s₁ with heap := h', toks := tk } ∧ h'.IsListIter I l i ∧ Fr h₀ env.locals h' m' ∧ News h₀ env.locals h' nx ∧ (∀ q ∈ nx, q.1 ≠ I) ∧ J i m' nx ∧ i ≤ vs.length ∧ k = vs.length + 1 - i) ?_ (vs.length + 1)
    ⟨H1, s₁.toks, m, news, 0, rfl, hitI, F1, N1, ho, h0, Nat.zero_le _, rfl⟩
  rintro k s' ⟨H, tk, m', nx, i, rfl, hit', F', N', ho', hJ, hi, rfl⟩
  have eH := hE _ _ _ _ hJ F' N'
  have hl' := IsList.at' hl eH
  by_cases hlt : i < vs.length
  · obtain ⟨p, hp⟩ : ∃ p, ps[i]? = some p := ⟨ps[i]'(hlen ▸ hlt), by simp⟩
    obtain ⟨v, hv, a, rfl, ha⟩ := Paired.at hps hp
    have hlH : @LT.lt Nat _ I H.objs.size := by obtain ⟨oi, hoi, _⟩ := id hit'; exact Heap.lt_size hoi
    refine wpAny_pyNext_list_item hit' hl' (x := .ref a) (by simpa using hv) fun h₁ hit₁ hs₁ => ?_
    refine wpAny_letOwnedTupleGo_listiter hit₁ ?_
    obtain ⟨F₁, N₁⟩ := chg1 F' N' n0 hLI ho' (h' := h₁) fun b o hb x => hs₁.extBut b o hb x
    have e₁ := hE _ _ _ _ hJ F₁ N₁
    refine wpAny_assign_Tuple hh (IsTuple.up ha e₁) rfl rfl fun h₂ hx₂ => ?_
    have ext2 : Ext h₁ h₂ := fun b o x => hx₂ b o (fun q => by have := Heap.lt_size x; rw [q] at this; exact absurd this (Nat.lt_irrefl _)) x
    have F₂ := F₁.keeps ext2
    have N₂ := N₁.grown ext2
    have hit₂ : h₂.IsListIter I l (i + 1) := hit₁.at fun o x => ext2 _ _ x
    obtain ⟨oI, hoI, cI, dI⟩ := id hit₂
    have N₂' : News h₀ env.locals h₂ ((I, oI) :: nx) := by
      intro q hq
      rcases List.mem_cons.mp hq with rfl | hq
      · exact ⟨hoI, Ne.symm hLI, n0⟩
      · exact N₂ q hq
    show wpAny _ A (do holding [p.2] (assign (.Name xi pi) env p.1); holding [] (assign (.Name xv pv) env p.2); pure ()) _ _ _
    refine wpAny_bind (wpAny_holding (wpAny_mono (hbody i p m' nx h₂ _ I oI _ _ hp hJ F₂ N₂' ho' fun h₆ tk₆ m₂ nx' F₆ N₆ hsub hJ₆ => ?_) (fun _ s₃ h₃ => wpAny_bind (wpAny_holding (wpAny_mono h₃ (fun _ s₄ h₄ => wpAny_pure h₄) fun _ _ e => e))) fun _ _ e => e))
    refine ⟨vs.length + 1 - (i + 1), by omega, h₆, tk₆, m₂, nx', i + 1, rfl, ?_, F₆, fun q hq => N₆ q (List.mem_cons_of_mem _ hq), fun q hq => ?_, hJ₆, hlt, rfl⟩
    · exact ⟨oI, (N₆ _ List.mem_cons_self).1, cI, dI⟩
    · obtain ⟨r, hr, e⟩ := hsub q hq
      rw [← e]; exact ho' r hr
  · obtain rfl : i = vs.length := Nat.le_antisymm hi (Nat.not_lt.mp hlt)
    refine wpAny_pyNext_list_end hh hit' hl' (by simp) fun h₁ he₁ => wpAny_execs_nil ?_
    obtain ⟨F₁, N₁⟩ := chg1 F' N' n0 hLI ho' fun b o hb x => he₁ b o hb x
    exact hdone h₁ tk m' nx F₁ N₁ (hlen ▸ hJ)
end
def lessStep (p r : Nat × Nat) : Nat × Nat := if p.1 ^^^ r.1 < p.1 then (p.1 ^^^ r.1, p.2 ^^^ r.2) else p
def lessN (p : Nat × Nat) (rs : List (Nat × Nat)) : Nat × Nat := rs.foldl lessStep p
/-- a pair of naturals in the heap -/
def RowAt (h : Heap) (v : Value) (r : Nat × Nat) : Prop := ∃ a t u, v = .ref a ∧ h.IsTuple a #[vn r.1 t, vn r.2 u]
theorem RowAt.up {h h' : Heap} {v : Value} {r : Nat × Nat} (x : RowAt h v r) (e : Ext h h') : RowAt h' v r := let ⟨a, t, u, q, z⟩ := x; ⟨a, t, u, q, IsTuple.up z e⟩
theorem rows_pairs {h : Heap} : ∀ {vs : List Value} {rs : List (Nat × Nat)}, Paired (RowAt h) vs rs → ∃ ps : List (Value × Value), Paired (PairV h) vs ps ∧ Paired (fun p r => ∃ t u, p = (vn r.1 t, vn r.2 u)) ps rs
  | _, _, .nil => ⟨[], .nil, .nil⟩
  | _, _, .cons ⟨a, t, u, e, z⟩ q => by
    obtain ⟨ps, h1, h2⟩ := rows_pairs q
    exact ⟨(_, _) :: ps, .cons ⟨a, e, z⟩ h1, .cons ⟨t, u, rfl⟩ h2⟩
section
variable {prog : Program} {w : World} {mean : ExcName → Option Value} {mg mb : Str → Option Value} {A : Around} {s : Shared} {Q E : Value → Shared → Prop}
set_option maxHeartbeats 2000000 in
theorem law_lessened {a b : Nat} {t u : Tok} {l : Addr} {vs : List Value} {rs : List (Nat × Nat)} (g : G w mean mg mb s.heap) (hroom : A.depth < recursionLimit) (hh : A.handled = none) (hl : s.heap.IsList l vs.toArray) (hr : Paired (RowAt s.heap) vs rs)
    (ret : ∀ T t u h' tk, Ext s.heap h' → h'.IsTuple T #[vn (lessN (a, b) rs).1 t, vn (lessN (a, b) rs).2 u] → Q (.ref T) { s with heap := h', toks := tk }) : wpAny (model prog w) A (call (.ref 110) [vn a t, vn b u, .ref l]) Q E s := by
  have X := g.X
  have T := g.T
  refine enter g (binds := [(Str.ofString "poly", vn a t), (Str.ofString "row", vn b u), (Str.ofString "rows", .ref l)]) (by k_is) (by k_is) hroom (by exact BindsTo.of_eq rfl) (by exact locs rfl) ?_ (by rfl) (by rfl) (by rfl) (by decide)
  intro L h₁ F
  have N : News s.heap L h₁ [] := News.nil
  obtain ⟨ps, hps, hpr⟩ := rows_pairs hr
  refine wpAny_execs_cons ?_
  refine for_pairs (h₀ := s.heap) (L := L) rfl hh ?_
  walk1
  refine ⟨fun i m nx => nx = [] ∧ (∃ t, m (Str.ofString "poly") = some (vn (lessN (a, b) (rs.take i)).1 t)) ∧ (∃ t, m (Str.ofString "row") = some (vn (lessN (a, b) (rs.take i)).2 t)), l, s.heap, vs, ps, _, [], rfl, hl, hps, F, N, ⟨rfl, ⟨t, rfl⟩, ⟨u, rfl⟩⟩, fun _ _ _ _ _ F _ => F.keep, ?_, ?_⟩
  · rintro h' tk' m' nx F1 N1 ⟨rfl, ⟨t1, e1⟩, ⟨t2, e2⟩⟩
    rw [Paired.len hpr, List.take_length] at e1 e2
    have hm : m' = fun z => if z = Str.ofString "poly" then some (vn (lessN (a, b) rs).1 t1) else if z = Str.ofString "row" then some (vn (lessN (a, b) rs).2 t2) else m' z := by
      funext z
      by_cases q1 : z = Str.ofString "poly"
      · rw [if_pos q1, q1, e1]
      · rw [if_neg q1]
        by_cases q2 : z = Str.ofString "row"
        · rw [if_pos q2, q2, e2]
        · rw [if_neg q2]
    rw [hm] at F1
    clear F N
    iterate 8 walk1
    refine wpAny_newTuple ?_ (Nat.le_of_ble_eq_true rfl)
    exact ret _ _ _ _ _ (fun b o e => Heap.get?_push_of_some _ (F1.keep b o e)) ⟨_, Heap.get?_push_size _ rfl, rfl, _, rfl⟩
  · rintro i p m₁ nx h tk I oI Q' E' hp ⟨rfl, ⟨t1, e1⟩, ⟨t2, e2⟩⟩ F1 N1 ho done
    obtain ⟨r, hri, t3, t4, rfl⟩ := Paired.get hpr hp
    have hs : lessN (a, b) (rs.take (i + 1)) = lessStep (lessN (a, b) (rs.take i)) r := by
      unfold lessN; rw [List.take_add_one, hri]; simp
    generalize lessN (a, b) (rs.take i) = pr at e1 e2 hs
    have hm : m₁ = fun z => if z = Str.ofString "poly" then some (vn pr.1 t1) else if z = Str.ofString "row" then some (vn pr.2 t2) else m₁ z := by
      funext z
      by_cases q1 : z = Str.ofString "poly"
      · rw [if_pos q1, q1, e1]
      · rw [if_neg q1]
        by_cases q2 : z = Str.ofString "row"
        · rw [if_pos q2, q2, e2]
        · rw [if_neg q2]
    rw [hm] at F1
    clear F N hm
    dsimp only
    refine wpAny_assign_Name ?_
    refine st_n F1 N1 (fun h2 tk2 F2 N2 => ?_) rfl rfl
    refine wpAny_assign_Name ?_
    refine st_n F2 N2 (fun h3 tk3 F3 N3 => ?_) rfl rfl
    clear F1 N1 F2 N2
    iterate 12 walk1
    · repeat walk1
      rename News _ _ _ _ => N5
      rename Fr _ _ _ _ => F5
      refine wpAny_unpackItems_tuple (items := #[vn (pr.1 ^^^ r.1) _, vn (pr.2 ^^^ r.2) _]) hh ⟨_, (N5 _ List.mem_cons_self).1, rfl, _, rfl⟩ ?_
      intro h6 he6
      have ext6 : Ext _ h6 := fun c o e => he6 c o (fun q => by have := Heap.lt_size e; rw [q] at this; exact absurd this (Nat.lt_irrefl _)) e
      have F6 := F5.keeps ext6
      have N6 : News s.heap L h6 [(I, oI)] := fun p hp => (N5.grown ext6) p (List.mem_cons_of_mem _ hp)
      refine assignInOrder_cons ?_
      refine wpAny_bindName ?_
      refine st_n F6 N6 (fun h7 tk7 F7 N7 => ?_) rfl rfl
      refine assignInOrder_cons ?_
      refine wpAny_bindName ?_
      refine st_n F7 N7 (fun h8 tk8 F8 N8 => ?_) rfl rfl
      refine assignInOrder_nil ?_
      have e : lessStep pr r = (pr.1 ^^^ r.1, pr.2 ^^^ r.2) := by
        unfold lessStep
        rw [if_pos (by omega)]
      refine wpAny_execs_nil ?_
      refine wpAny_execs_nil ?_
      refine done h8 _ _ [] F8 N8 (fun _ hq => nomatch hq) ⟨rfl, ?_, ?_⟩
      · rw [hs, e]; exact ⟨_, rfl⟩
      · rw [hs, e]; exact ⟨_, rfl⟩
    · have e : lessStep pr r = pr := by
        unfold lessStep
        rw [if_neg (by omega)]
      refine wpAny_execs_nil ?_
      refine wpAny_execs_nil ?_
      refine done h3 _ _ [] F3 N3 (fun _ hq => nomatch hq) ⟨rfl, ?_, ?_⟩
      · rw [hs, e]; exact ⟨_, rfl⟩
      · rw [hs, e]; exact ⟨_, rfl⟩
end
/-- a hand's table as the law writes it: the sign, what is written -/
def tabK (k : Nat) : List (PyData × PyData) := (escT k).map fun p => (.str (strL [p.1]), .str (strL p.2))
def HandAt (prog : Program) (w : World) (h : Heap) (v : Value) (k : Nat × Addr) : Prop := ∃ a, v = .ref a ∧ h.IsTuple a #[.ref (escA k.1), .ref k.2] ∧ StrTab prog w h k.2 (tabK k.1)
theorem hand_of {prog : Program} {w : World} {h : Heap} {a d : Addr} {k : Nat} (ht : h.IsTuple a #[.ref (escA k), .ref d]) (hs : StrTab prog w h d (tabK k)) : HandAt prog w h (.ref a) (k, d) := ⟨a, rfl, ht, hs⟩
theorem fp_cons {x y x' y' : Str} {t : Tok} {kvs : List (Str × Value)} {D : List (PyData × PyData)} (hx : x = x') (hy : y = y') (r : PyProof.V.FlatPairs PyData.str kvs D) : PyProof.V.FlatPairs PyData.str ((x, .str y t) :: kvs) ((.str x', .str y') :: D) := by
  subst hx hy; exact .cons (.str _ _) r
theorem tab_of {prog : Program} {w : World} {h : Heap} {d : Addr} {o : Obj} {kvs : List (Str × Value)} {D : List (PyData × PyData)} {news : List (Addr × Obj)} (N : Held news h) (lo : (d == sysModules) = false) (hm : (d, o) ∈ news) (hd : o.IsDictOf (PySem.strKind prog w) kvs) (hf : PyProof.V.FlatPairs PyData.str kvs D) : StrTab prog w h d D :=
  TabAt.ofObj lo (N (d, o) hm) hd hf
section
variable {prog : Program} {w : World} {mean : ExcName → Option Value} {mg mb : Str → Option Value} {A : Around} {s : Shared} {Q E : Value → Shared → Prop}
set_option maxHeartbeats 4000000 in
theorem law_hands (g : G w mean mg mb s.heap) (hroom : A.depth < recursionLimit)
    (ret : ∀ l vs d0 d1 d2 d3 d4 h' tk tl, (∀ h, Held tl h → h.IsList l (List.toArray vs) ∧ Paired (HandAt prog w h) vs [(0, d0), (1, d1), (2, d2), (3, d3), (4, d4)]) → Fresh tl s.heap h' → Ext s.heap h' → Q (.ref l) { s with heap := h', toks := tk }) : wpAny (model prog w) A (call (.ref 70) []) Q E s := by
  have X := g.X
  have T := g.T
  refine enter g (binds := []) (by k_is) (by k_is) hroom (by exact BindsTo.of_eq rfl) (by exact locs rfl) ?_ (by rfl) (by rfl) (by rfl) (by decide)
  intro L h₁ F
  have N : News s.heap L h₁ [] := News.nil
  repeat walk1
  rename News _ _ _ _ => N
  refine' ret _ [_, _, _, _, _] _ _ _ _ _ _ _ _ ?main (fun p hp => ⟨(N p hp).1, (N p hp).2.2⟩) (Fr.keep (by assumption))
  case main =>
    intro h NH
    refine ⟨list_of NH (by k_mem), ?_⟩
    repeat' (first
      | exact Paired.nil
      | refine Paired.cons ?_ ?_
      | exact PyProof.V.FlatPairs.nil
      | refine fp_cons (by decide +kernel) (by decide +kernel) ?_
      | refine hand_of (tup_of NH (by k_mem)) ?_
      | refine tab_of NH (by assumption) (by k_mem) (by assumption) ?_)
end
section
variable {prog : Program} {w : World} {mean : ExcName → Option Value} {mg mb : Str → Option Value}
/-- a def whose names are cells -/
theorem enterC {A : Around} {s : Shared} {Q E : Value → Shared → Prop} {name qual : Str} {params : Arguments} {body : List Stmt} {scope : Scope} {dV kV doc pm cdv ct oc : Value} {an od : Option Addr} {osl : Array (Option Value)} {f : Addr} {args : List Value} {binds : List (Str × Value)}
    (g : G w mean mg mb s.heap)
    (ho : (hd.heap_39 w.params).lookup f = some ⟨oc, od, .func (fnOf name qual params body scope dV kV doc pm an cdv ct), osl⟩) (hcd : codeIn (hd.heap_39 w.params) cdv qual = true) (hroom : A.depth < recursionLimit)
    (hbind : bindArgs (fnOf name qual params body scope dV kV doc pm an cdv ct) ⟨args, []⟩ = pure binds)
    (hkind : ∀ x ∈ binds, scope.names.lookup x.1 = some .local ∨ (scope.names.lookup x.1 = some .cell ∧ ((cellsFrom (s.heap.objs.size + 1) scope.names []).lookup x.1).isSome = true))
    (h : ∀ L h₁ tk cells, L = s.heap.objs.size → Fr s.heap L h₁ (bindL (envOfC qual scope L f cdv).kindOf binds fun _ => none) → News s.heap L h₁ cells → CellsAre (bindC (envOfC qual scope L f cdv).kindOf binds fun _ => none) (cellsFrom (L + 1) scope.names []) cells →
      wpAny (model prog w) (A.deeper (envOfC qual scope L f cdv)) (execs body (envOfC qual scope L f cdv))
        (fun fl s' => Q (retOf fl) s') (fun _ _ => False) { s with heap := h₁, toks := tk })
    (hnd : ((cellsFrom (s.heap.objs.size + 1) scope.names []).map (·.1)).Nodup)
    (hco : scope.isCoroutine = false) (hgen : scope.isGenerator = false) (hk : scope.kind = .function) :
    wpAny (model prog w) A (call (.ref f) args) Q E s := by
  refine wpAny_call ?_
  refine codeAny_call_cells (fd := fnOf name qual params body scope dV kV doc pm an cdv ct) (body := body) (binds := binds) hroom (g.X _ _ ho) rfl g.T.nolimit (codeRec_of g.X hcd) rfl hbind rfl hkind (fun s₁ hs₁ => ?_) hco hgen hk
  obtain ⟨⟨⟨h₁, tk, rfl⟩, hns, hk₁, hab⟩, hcell, hap, habove⟩ := hs₁
  obtain ⟨cells, N, X⟩ := Cl.news (h₀ := s.heap) (h := h₁) (L := s.heap.objs.size) (Nat.le_refl _) (cs := cellsFrom (s.heap.objs.size + 1) scope.names []) (cm := bindC (envOfC qual scope s.heap.objs.size f cdv).kindOf binds fun _ => none) fun n c hm =>
    ⟨hcell n c (lookup_of_mem_nodup hnd hm), habove n c hm⟩
  refine wpAny_mono (h s.heap.objs.size h₁ tk cells rfl ⟨hns, hk₁, hab⟩ N X) (fun fl s' hl => ?_) fun _ _ y => y.elim
  cases fl <;> exact hl
end
/-- the signs that the law's menu can make -/
def signSet : List Nat := [38, 60, 62, 34, 13, 10, 9, 59, 35, 97, 109, 112, 39, 32, 233, 8364, 66376]
def menuL : List (List Nat) := [[38], [60], [62], [34], [13], [10], [9], [59], [35], [97], [97, 109, 112, 59], [39], [32], [233], [8364], [66376]]
/-- values that are the texts told -/
def TextsAre (vs : List Value) (css : List (List Nat)) : Prop := Paired (fun v cs => ∃ t, v = .str (strL cs) t) vs css
theorem TextsAre.strs : ∀ {vs : List Value} {css : List (List Nat)}, TextsAre vs css → StrsAre vs (css.map strL)
  | _, _, .nil => .nil
  | _, _, .cons ⟨t, e⟩ r => by subst e; exact .cons _ t (TextsAre.strs r)
theorem strL_app (a b : List Nat) : strL a ++ strL b = strL (a ++ b) := by
  apply congrArg Str.mk
  simp
theorem join_texts : ∀ css : List (List Nat), Str.join ⟨#[]⟩ (css.map strL) = strL css.flatten
  | [] => rfl
  | [a] => by simp [Str.join]
  | a :: b :: r => by
    have ih := join_texts (b :: r)
    show strL a ++ strL [] ++ Str.join ⟨#[]⟩ ((b :: r).map strL) = _
    rw [ih, strL_app, strL_app]
    simp
theorem texts_sum : ∀ css : List (List Nat), ((css.map strL).map (·.length)).sum = css.flatten.length
  | [] => rfl
  | a :: r => by
    have := texts_sum r
    simp only [List.map_cons, List.sum_cons, List.flatten_cons, List.length_append] at this ⊢
    rw [this]
    have : (strL a).length = a.length := rfl
    omega
section
variable {prog : Program} {w : World} {A : Around} {E : Value → Shared → Prop} {s : Shared} {env : Env} {Q : Value → Shared → Prop}
theorem join_calls {e : Expr} {k1 : Nat} {p1 p2 p3 : Pos} {x : Str} (hx : x = ⟨#[]⟩) (hline : (p2.endLine == p3.line) = true) (hs : starEach [e] env = [(false, eval e env)])
    (h : ∀ tk, wpAny (model prog w) A (eval e env) (fun v s₁ => ∃ D ys css, v = .ref D ∧ s₁.heap.IsList D (List.toArray ys) ∧ TextsAre ys css ∧ css.flatten.length + css.length ≤ 10000 ∧ ∀ t k, Q (.str (strL css.flatten) t) { s₁ with toks := k }) E { s with toks := tk }) :
    wpAny (model prog w) A (eval (.Call (.Attribute (.Constant (.str x) k1 p1) (Str.ofString "join") p2) [e] [] p3) env) Q E s := by
  subst hx
  refine wpAny_Call_method_lateS rfl (by rw [hs]; rfl) hline ?_
  refine Constant_str ?_
  refine ⟨"str", "str.join", F.plainAttrs_str, F.slot_str_join, F.type_str_join, typeIs_str _ _ _, GM.noRef, ?_⟩
  refine callWith_method1 ?_ hs
  rw [hs]
  refine spliced_cons (wpAny_mono (h _) (fun v s₁ h₁ => ?_) fun _ _ e => e)
  obtain ⟨D, ys, css, rfl, hl, ho, hc, q⟩ := h₁
  refine spliced_nil ?_
  refine join_listW hl (by simpa using ho.strs) (by decide) ?_ ?_
  · rw [texts_sum, List.length_map]; omega
  · intro t k
    rw [txt_join, join_texts]
    exact q t k
end
noncomputable def signsBody : List Stmt := match lawRow.main.body.getD 11 (.Pass ⟨0, 0, 0, 0⟩) with
  | .FunctionDef _ _ b _ _ _ _ _ _ _ => b
  | _ => []
noncomputable def signsScope : Scope := match lawRow.main.body.getD 11 (.Pass ⟨0, 0, 0, 0⟩) with
  | .FunctionDef _ _ _ _ _ _ s _ _ _ => s
  | _ => { kind := .function, names := [], isGenerator := false, isCoroutine := false }
noncomputable abbrev sEnv (L f : Addr) (cd : Value) : Env := envOfC (Str.ofString "_law_signs") signsScope L f cd
noncomputable abbrev sg (k : Nat) : Stmt := signsBody.getD k (.Pass ⟨0, 0, 0, 0⟩)
section
variable {prog : Program} {w : World} {mean : ExcName → Option Value} {mg mb : Str → Option Value} {A : Around} {E : Value → Shared → Prop} {s : Shared} {h₀ hp : Heap} {tk : Nat} {L f : Addr} {cd : Value} {Q : Flow → Shared → Prop}
theorem x_boot {nm : Str} {sc : Scope} {x : Str} {v : Value} {pos : Pos} {Q : Value → Shared → Prop} (g : G w mean mg mb hp) (e : nsIn (hd.heap_39 w.params) mainGlobals x = some none) (hv : bootBuiltins x = some v) (hn : x ≠ "__name__") (h : Q v { s with heap := hp, toks := tk })
    (hk : sc.kind = .function := by rfl) (hx : (envOfC nm sc L f cd).kindOf x = some .globalImplicit := by rfl) (hd : (x == ("__debug__" : Str)) = false := by decide) :
    wpAny (model prog w) A (eval (.Name x pos) (envOfC nm sc L f cd)) Q E { s with heap := hp, toks := tk } :=
  Name_function_global hk hx (loadGlobal_builtin (env := envOfC nm sc L f cd) (s := { s with heap := hp, toks := tk }) g.T.g (mg_none_of g.X g.T.g e) g.T.b ((g.T.builtins x hn).trans hv) h) hd
theorem con_s {x : Str} {cs : List Nat} {env : Env} {kk : Nat} {pos : Pos} {Q : Value → Shared → Prop} (hx : x = strL cs) (h : ∀ t tk', Q (.str (strL cs) t) { s with heap := hp, toks := tk' }) : wpAny (model prog w) A (eval (.Constant (.str x) kk pos) env) Q E { s with heap := hp, toks := tk } := by
  subst hx; exact Constant_str (h _ _)
theorem chr_con {z : Int} {c : Nat} {kk : Nat} {p1 p2 p3 : Pos} {Q : Value → Shared → Prop} {nm : Str} {sc : Scope} (g : G w mean mg mb hp) (hz : z = (c : Int)) (hc : c < 1114112) (h : ∀ t tk', Q (.str (strL [c]) t) { s with heap := hp, toks := tk' })
    (hk : sc.kind = .function := by rfl) (hx : (envOfC nm sc L f cd).kindOf (Str.ofString "chr") = some .globalImplicit := by rfl) :
    wpAny (model prog w) A (eval (.Call (.Name (Str.ofString "chr") p1) [.Constant (.int z) kk p2] [] p3) (envOfC nm sc L f cd)) Q E { s with heap := hp, toks := tk } := by
  refine Call_ ?_
  refine x_boot g (by k_is) (by boot_by_name) (by decide) ?_ hk hx
  refine callWith_method1 ?_
  refine spliced_cons (const_n (k := kk) (pos := p2) hz ?_)
  intro _ _
  refine spliced_nil ?_
  exact chr_n hc fun t' tk' => h t' tk'
set_option maxHeartbeats 1000000 in
theorem sg1 {oM oN : Obj} (g : G w mean mg mb h₀) (F : Fr h₀ L hp (fun _ => none)) (N : News h₀ L hp [(L + 1 + 1, oM), (L + 1, oN)]) (dM : oM.data = .cell none)
    (k : ∀ h' tk' b ob ys oM', ListObj ob ys → TextsAre ys menuL → oM'.data = .cell (some (.ref b)) → Fr h₀ L h' (fun _ => none) → News h₀ L h' [(b, ob), (L + 1 + 1, oM'), (L + 1, oN)] → Q .next { s with heap := h', toks := tk' }) :
    wpAny (model prog w) A (exec (sg 0) (sEnv L f cd)) Q E { s with heap := hp, toks := tk } := by
  have gp := g.keeps F.keep
  refine' wpAny_Assign_Name ?_ ?h2
  case h2 => rfl
  refine List_ ?_
  refine spliced_cons ?_
  show wpAny _ _ (eval _ _) _ _ _
  refine' con_s (cs := [38]) ?_ ?_
  · decide +kernel
  intro _ _
  refine spliced_cons ?_
  show wpAny _ _ (eval _ _) _ _ _
  refine' con_s (cs := [60]) ?_ ?_
  · decide +kernel
  intro _ _
  refine spliced_cons ?_
  show wpAny _ _ (eval _ _) _ _ _
  refine' con_s (cs := [62]) ?_ ?_
  · decide +kernel
  intro _ _
  refine spliced_cons ?_
  show wpAny _ _ (eval _ _) _ _ _
  refine' con_s (cs := [34]) ?_ ?_
  · decide +kernel
  intro _ _
  refine spliced_cons ?_
  show wpAny _ _ (eval _ _) _ _ _
  refine' con_s (cs := [13]) ?_ ?_
  · decide +kernel
  intro _ _
  refine spliced_cons ?_
  show wpAny _ _ (eval _ _) _ _ _
  refine' con_s (cs := [10]) ?_ ?_
  · decide +kernel
  intro _ _
  refine spliced_cons ?_
  show wpAny _ _ (eval _ _) _ _ _
  refine' con_s (cs := [9]) ?_ ?_
  · decide +kernel
  intro _ _
  refine spliced_cons ?_
  show wpAny _ _ (eval _ _) _ _ _
  refine' con_s (cs := [59]) ?_ ?_
  · decide +kernel
  intro _ _
  refine spliced_cons ?_
  show wpAny _ _ (eval _ _) _ _ _
  refine' con_s (cs := [35]) ?_ ?_
  · decide +kernel
  intro _ _
  refine spliced_cons ?_
  show wpAny _ _ (eval _ _) _ _ _
  refine' con_s (cs := [97]) ?_ ?_
  · decide +kernel
  intro _ _
  refine spliced_cons ?_
  show wpAny _ _ (eval _ _) _ _ _
  refine' con_s (cs := [97, 109, 112, 59]) ?_ ?_
  · decide +kernel
  intro _ _
  refine spliced_cons ?_
  show wpAny _ _ (eval _ _) _ _ _
  refine' con_s (cs := [39]) ?_ ?_
  · decide +kernel
  intro _ _
  refine spliced_cons ?_
  show wpAny _ _ (eval _ _) _ _ _
  refine' con_s (cs := [32]) ?_ ?_
  · decide +kernel
  intro _ _
  refine spliced_cons ?_
  show wpAny _ _ (eval _ _) _ _ _
  refine' chr_con (c := 233) gp ?_ ?_ ?_
  · rfl
  · decide
  intro _ _
  refine spliced_cons ?_
  show wpAny _ _ (eval _ _) _ _ _
  refine' chr_con (c := 8364) gp ?_ ?_ ?_
  · rfl
  · decide
  intro _ _
  refine spliced_cons ?_
  show wpAny _ _ (eval _ _) _ _ _
  refine' chr_con (c := 66376) gp ?_ ?_ ?_
  · rfl
  · decide
  intro _ _
  refine spliced_nil ?_
  refine newList_N (s := { s with heap := hp, toks := _ }) F N (fun h1 F1 N1 => ?_) (Nat.le_of_ble_eq_true rfl)
  have hb : hp.objs.size ≠ L + 1 + 1 := fun e => by
    have q := Heap.lt_size (N (L + 1 + 1, oM) (by simp)).1
    rw [e] at q; exact absurd q (Nat.lt_irrefl _)
  have N2 : News h₀ L h1 ([(hp.objs.size, _)] ++ (L + 1 + 1, oM) :: [(L + 1, oN)]) := N1
  refine stCN (s := { s with heap := h1, toks := _ }) F1 N2 (by rfl) dM ?_ ?_ ?_
  · intro p hp'
    rw [List.mem_singleton.mp hp']; exact hb
  · intro p hp'
    rw [List.mem_singleton.mp hp']; refine neN ?_; simp
  intro h' o' F' N' d'
  refine k h' _ _ _ _ o' ⟨rfl, _, rfl⟩ ?_ d' F' N'
  repeat (first | exact Paired.nil | refine Paired.cons ⟨_, rfl⟩ ?_)
end
section
variable {prog : Program} {w : World} {mean : ExcName → Option Value} {mg mb : Str → Option Value} {A : Around} {E : Value → Shared → Prop} {s : Shared} {h₀ hp : Heap} {tk : Nat} {L f : Addr} {cd : Value} {Q : Flow → Shared → Prop}
theorem menu_ok : ∀ cs ∈ menuL, cs.length ≤ 4 ∧ ∀ c ∈ cs, c ∈ signSet := by decide
set_option maxHeartbeats 1000000 in
theorem sg2 {b : Addr} {ob oM oN : Obj} {ys : List Value} {z : Int} {t : Tok} (g : G w mean mg mb h₀) (hh : A.handled = none) (F : Fr h₀ L hp (fun _ => none)) (N : News h₀ L hp [(b, ob), (L + 1 + 1, oM), (L + 1, oN)]) (hb : ListObj ob ys) (hy : TextsAre ys menuL) (dM : oM.data = .cell (some (.ref b))) (dN : oN.data = .cell (some (.int z t)))
    (k : ∀ h' tk' cs t, (∀ c ∈ cs, c ∈ signSet) → cs.length ≤ 8 → Ext h₀ h' → Q (.ret (.str (strL cs) t)) { s with heap := h', toks := tk' }) :
    wpAny (model prog w) A (exec (sg 1) (sEnv L f cd)) Q E { s with heap := hp, toks := tk } := by
  have X := g.X
  have T := g.T
  refine' wpAny_Return_some ?_
  refine' join_calls ?_ ?_ ?_ ?_
  · decide +kernel
  · rfl
  · rfl
  intro tk0
  refine comp_eval (h₀ := h₀) (L := L) (m := fun _ => none) (news := [(b, ob), (L + 1 + 1, oM), (L + 1, oN)]) hh ?_ rfl (by decide) rfl (by decide) rfl (fun _ => rfl)
  refine Call_ ?_
  refine x_boot (g.keeps F.keep) (by k_is) (by boot_by_name) (by decide) ?_
  refine Pv.callWith_type1 ?_
  refine spliced_cons ?_
  refine wpAny_BinOp ?_
  refine ldCN N (by rfl) (by k_mem) dN ?_
  refine const_n (n := 3) rfl ?_
  intro _ _
  refine mod_n (by decide) ?_
  intro c t2 tk2 hc3 _
  refine spliced_nil ?_
  refine range1_rows (s := { s with heap := hp, toks := _ }) F N ?_
  intro h2 tk3 t1 u1 v1 hr F2 N2 ext2
  refine SrcOk.vals (fun i y => ∃ cs, cs ∈ menuL ∧ ∃ t, y = .str (strL cs) t) (iterOf_range (n := c) hr (by rfl) (small_one (by decide) (by decide) (by omega) (by omega))) F2 N2 (Nat.le_trans (Nat.le_of_lt hc3) (Nat.le_of_ble_eq_true rfl)) ?_ ?_
  · rintro i v C m₂ h tk E' hi ⟨t, rfl⟩ ext hC hn hx F N
    refine Subscript_ ?_
    refine c_cell (c := L + 1 + 1) (cell_at N (by k_mem) dM) rfl ?_
    refine wpAny_BinOp ?_
    refine wpAny_BinOp ?_
    refine wpAny_BinOp ?_
    refine c_cell (c := L + 1) (cell_at N (by k_mem) dN) rfl ?_
    refine const_n (n := 3) rfl ?_
    intro _ _
    refine floordiv_i (by decide) (by decide) ?_
    intro _ _
    refine wpAny_BinOp ?_
    refine const_n (n := 16) rfl ?_
    intro _ _
    refine c_own hn hx ?_
    refine pow_n (by decide) (by omega) ?_
    intro _ _
    have h16 : (16 : Nat) ^ i < 1000 := by
      have : i = 0 ∨ i = 1 := by omega
      rcases this with rfl | rfl <;> decide
    have h16' : 0 < (16 : Nat) ^ i := Nat.pow_pos (by decide)
    generalize (16 : Nat) ^ i = p16 at h16 h16'
    refine floordiv_i (by omega) (by omega) ?_
    intro _ _
    refine const_n (n := 16) rfl ?_
    intro _ _
    refine mod_n (by decide) ?_
    intro kk t9 tk9 hkk _
    obtain ⟨cs, hcs⟩ : ∃ cs, menuL[kk]? = some cs := ⟨menuL[kk]'(by show kk < 16; omega), by simp⟩
    obtain ⟨x, hxx, tx, rfl⟩ := Paired.at hy hcs
    refine tail_list (ListObj.at hb N (by k_mem)) hxx (by omega) ?_
    exact ⟨h, _, rfl, fun _ _ e => e, cs, List.mem_of_getElem? hcs, tx, rfl⟩
  · intro zs led hlen hzs D h tk ext F N fr
    have hcss : ∃ css : List (List Nat), TextsAre zs css ∧ ∀ cs ∈ css, cs ∈ menuL := by
      have : ∀ zs : List Value, (∀ y ∈ zs, ∃ cs, cs ∈ menuL ∧ ∃ t, y = .str (strL cs) t) → ∃ css : List (List Nat), TextsAre zs css ∧ ∀ cs ∈ css, cs ∈ menuL := by
        intro zs
        induction zs with
        | nil => exact fun _ => ⟨[], .nil, fun _ h => nomatch h⟩
        | cons y r ih =>
          intro h
          obtain ⟨cs, h1, t, rfl⟩ := h y List.mem_cons_self
          obtain ⟨css, h2, h3⟩ := ih fun z hz => h z (List.mem_cons_of_mem _ hz)
          refine ⟨cs :: css, .cons ⟨t, rfl⟩ h2, fun d hd => ?_⟩
          rcases List.mem_cons.mp hd with rfl | hd
          · exact h1
          · exact h3 d hd
      exact this zs fun y hy => by
        obtain ⟨i, hi, e⟩ := List.mem_iff_getElem.mp hy
        exact hzs i y (by simp [hi, e])
    obtain ⟨css, h1, h3⟩ := hcss
    have hl : css.length = c := by rw [← Paired.len h1]; exact hlen
    have hfl : css.flatten.length ≤ 4 * css.length := by
      clear h1 hl
      induction css with
      | nil => simp
      | cons a r ih =>
        have := (menu_ok a (h3 a List.mem_cons_self)).1
        have := ih fun d hd => h3 d (List.mem_cons_of_mem _ hd)
        rw [List.flatten_cons, List.length_append, List.length_cons]; omega
    refine ⟨D, zs, css, rfl, ⟨_, (fr (D, lstO zs) List.mem_cons_self).1, rfl, _, rfl⟩, h1, by omega, fun t k' => ?_⟩
    refine k h _ css.flatten t (fun d hd => ?_) (by omega) F.keep
    obtain ⟨cs, hcs, hd⟩ := List.mem_flatten.mp hd
    exact (menu_ok cs (h3 cs hcs)).2 d hd
end
section
variable {prog : Program} {w : World} {mean : ExcName → Option Value} {mg mb : Str → Option Value} {A : Around} {E : Value → Shared → Prop} {s : Shared} {h₀ hp : Heap} {tk : Nat} {L f : Addr} {cd : Value} {Q : Flow → Shared → Prop}
set_option maxHeartbeats 300000 in
theorem signs_body {oM oN : Obj} {z : Int} {t : Tok} (g : G w mean mg mb h₀) (hh : A.handled = none) (F : Fr h₀ L hp (fun _ => none)) (N : News h₀ L hp [(L + 1 + 1, oM), (L + 1, oN)]) (dM : oM.data = .cell none) (dN : oN.data = .cell (some (.int z t)))
    (k : ∀ h' tk' cs t, (∀ c ∈ cs, c ∈ signSet) → cs.length ≤ 8 → Ext h₀ h' → Q (.ret (.str (strL cs) t)) { s with heap := h', toks := tk' }) :
    wpAny (model prog w) A (execs [sg 0, sg 1] (sEnv L f cd)) Q E { s with heap := hp, toks := tk } := by
  with_reducible refine' wpAny_execs_cons ?_
  with_reducible refine' sg1 g F N dM ?_
  intro h1 tk1 b ob ys oM' hb hy dM' F1 N1
  refine' wpAny_execs_cons ?_
  exact sg2 g hh F1 N1 hb hy dM' dN k
end
section
variable {prog : Program} {w : World} {mean : ExcName → Option Value} {mg mb : Str → Option Value} {A : Around} {s : Shared} {Q E : Value → Shared → Prop}
set_option maxHeartbeats 300000 in
theorem law_signs {z : Int} {t : Tok} (g : G w mean mg mb s.heap) (hroom : A.depth < recursionLimit) (hh : A.handled = none)
    (ret : ∀ cs t h' tk, (∀ c ∈ cs, c ∈ signSet) → cs.length ≤ 8 → Ext s.heap h' → Q (.str (strL cs) t) { s with heap := h', toks := tk }) : wpAny (model prog w) A (call (.ref 75) [.int z t]) Q E s := by
  have X := g.X
  have T := g.T
  refine enterC g (binds := [(Str.ofString "number", .int z t)]) (by k_is) (by k_is) hroom (by rfl) (fun x hx => by rw [List.mem_singleton.mp hx]; exact Or.inr ⟨rfl, rfl⟩) ?_ (by show ([Str.ofString "menu", Str.ofString "number"] : List Str).Nodup; decide) (by rfl) (by rfl) (by rfl)
  intro L h₁ tk cells hLs F0 N XC
  obtain ⟨oM, oN, rfl, dM0, dN0⟩ := CellsAre.two XC
  show wpAny _ _ (execs [sg 0, sg 1] (sEnv L 75 (.ref 74))) _ _ _
  have F : Fr s.heap L h₁ (fun _ => none) := F0
  have dM : oM.data = .cell none := dM0
  have dN : oN.data = .cell (some (.int z t)) := dN0
  have hh' : (A.deeper (sEnv L 75 (.ref 74))).handled = none := hh
  with_reducible refine' signs_body g ?_ F N dM dN ?_
  · exact hh'
  intro h' tk' cs t h1 h2 h3
  exact ret cs t h' tk' h1 h2 h3
end
/-- the frame; all that is held but the cell of number, which the last loop turns -/
structure Kq (h₀ : Heap) (L : Addr) (o4 : Obj) (hf hp : Heap) (m : Str → Option Value) : Prop where
  F : Fr h₀ L hp m
  N : ∃ news, News h₀ L hp ((L + 1 + 1 + 1 + 1, o4) :: news) ∧ (∀ p ∈ news, p.1 ≠ L + 1 + 1 + 1 + 1) ∧ ∀ h, Held news h → Ext hf h
theorem Kq.e {h₀ hf hp : Heap} {L : Addr} {o4 : Obj} {m : Str → Option Value} (x : Kq h₀ L o4 hf hp m) : Ext hf hp := let ⟨_, n, _, k⟩ := x.N; k hp fun p hp => (n p (List.mem_cons_of_mem _ hp)).1
theorem Kq.keeps {h₀ hf hp h : Heap} {L : Addr} {o4 : Obj} {m : Str → Option Value} (x : Kq h₀ L o4 hf hp m) (e : Ext hp h) : Kq h₀ L o4 hf h m := let ⟨_, n, q, k⟩ := x.N; ⟨x.F.keeps e, _, n.grown e, q, k⟩
theorem Kq.grow {h₀ hf h : Heap} {L : Addr} {o4 : Obj} {m : Str → Option Value} {tl news : List (Addr × Obj)} (F : Fr h₀ L h m) (N : News h₀ L h ((L + 1 + 1 + 1 + 1, o4) :: (tl ++ news))) (hn : ∀ p ∈ news, p.1 ≠ L + 1 + 1 + 1 + 1) (ht : ∀ p ∈ tl, p.1 ≠ L + 1 + 1 + 1 + 1) (k : ∀ h, Held news h → Ext hf h) :
    ∃ hf', Ext hf hf' ∧ Held tl hf' ∧ Kq h₀ L o4 hf' h m := by
  obtain ⟨hf', h1, h2⟩ := frozen (led := tl ++ news) (h := h) fun p hp => (N p (List.mem_cons_of_mem _ hp)).1
  refine ⟨hf', k hf' fun p hp => h1 p (List.mem_append_right _ hp), fun p hp => h1 p (List.mem_append_left _ hp), F, _, N, fun p hp => ?_, h2⟩
  rcases List.mem_append.mp hp with hp | hp
  · exact ht p hp
  · exact hn p hp
theorem Kq.make {h₀ h : Heap} {L : Addr} {o4 : Obj} {m : Str → Option Value} {tl : List (Addr × Obj)} (F : Fr h₀ L h m) (N : News h₀ L h ((L + 1 + 1 + 1 + 1, o4) :: tl)) (ht : ∀ p ∈ tl, p.1 ≠ L + 1 + 1 + 1 + 1) :
    ∃ hf', Held tl hf' ∧ Kq h₀ L o4 hf' h m := by
  obtain ⟨hf', h1, h2⟩ := frozen (led := tl) (h := h) fun p hp => (N p (List.mem_cons_of_mem _ hp)).1
  exact ⟨hf', h1, F, _, N, ht, h2⟩
section
variable {prog : Program} {w : World} {mean : ExcName → Option Value} {mg mb : Str → Option Value} {A : Around} {E : Value → Shared → Prop} {s : Shared} {h₀ hp hf : Heap} {tk : Nat} {L f : Addr} {cd : Value} {Q : Flow → Shared → Prop} {m : Str → Option Value}
set_option maxHeartbeats 2000000 in
theorem st1 {o1 o2 o3 o4 : Obj} (g : G w mean mg mb h₀) (F : Fr h₀ L hp (fun _ => none)) (N : News h₀ L hp [(L + 1 + 1 + 1 + 1, o4), (L + 1 + 1 + 1, o3), (L + 1 + 1, o2), (L + 1, o1)]) (d2 : o2.data = .cell none)
    (k : ∀ h' tk' b ob o2' bs, ListObj ob bs → bs.length = 3 → (∀ v ∈ bs, IsInt v) → o2'.data = .cell (some (.ref b)) → b ≠ L + 1 + 1 + 1 + 1 → b ≠ L + 1 + 1 + 1 → Fr h₀ L h' (fun _ => none) →
      News h₀ L h' [(b, ob), (L + 1 + 1 + 1 + 1, o4), (L + 1 + 1 + 1, o3), (L + 1 + 1, o2'), (L + 1, o1)] → Q .next { s with heap := h', toks := tk' }) :
    wpAny (model prog w) A (exec (ls 0) (lawEnv L f cd)) Q E { s with heap := hp, toks := tk } := by
  have X := g.X
  have T := g.T
  have lt : ∀ c o, (c, o) ∈ [(L + 1 + 1 + 1 + 1, o4), (L + 1 + 1 + 1, o3), (L + 1 + 1, o2), (L + 1, o1)] → hp.objs.size ≠ c := fun c o hm e => by
    have q := Heap.lt_size (N (c, o) hm).1
    rw [e] at q; exact absurd q (Nat.lt_irrefl _)
  refine wpAny_Assign_Name ?_ rfl
  refine List_ ?_
  iterate 6 walk1
  refine spliced_nil ?_
  refine newList_N (s := { s with heap := hp, toks := _ }) F N (fun h1 F1 N1 => ?_) (Nat.le_of_ble_eq_true rfl)
  have N2 : News h₀ L h1 ([(hp.objs.size, _), (L + 1 + 1 + 1 + 1, o4), (L + 1 + 1 + 1, o3)] ++ (L + 1 + 1, o2) :: [(L + 1, o1)]) := N1
  refine stCN (s := { s with heap := h1, toks := _ }) F1 N2 (by rfl) d2 ?_ ?_ ?_
  · intro p hp'
    simp only [List.mem_cons, List.not_mem_nil, or_false] at hp'
    rcases hp' with rfl | rfl | rfl
    · exact lt _ o2 (by simp)
    · refine neN ?_; dsimp only; omega
    · refine neN ?_; dsimp only; omega
  · intro p hp'
    rw [List.mem_singleton.mp hp']; refine neN ?_; dsimp only; omega
  intro h' o' F' N' d'
  refine k h' _ _ _ o' [_, _, _] ⟨rfl, _, rfl⟩ rfl ?_ d' (lt _ o4 (by simp)) (lt _ o3 (by simp)) F' N'
  intro v hv
  simp only [List.mem_cons, List.not_mem_nil, or_false] at hv
  rcases hv with rfl | rfl | rfl <;> exact ⟨_, _, rfl⟩
set_option maxHeartbeats 2000000 in
theorem st2 {o1 o2 o3 o4 ob : Obj} {b l : Addr} {bs vs : List Value} {ns : List Int} (g : G w mean mg mb h₀) (hh : A.handled = none) (F : Fr h₀ L hp (fun _ => none)) (N : News h₀ L hp [(b, ob), (L + 1 + 1 + 1 + 1, o4), (L + 1 + 1 + 1, o3), (L + 1 + 1, o2), (L + 1, o1)])
    (d1 : o1.data = .cell (some (.ref l))) (d2 : o2.data = .cell (some (.ref b))) (hb : ListObj ob bs) (hbl : bs.length = 3) (hbi : ∀ v ∈ bs, IsInt v) (hl : h₀.IsList l vs.toArray) (hi : IntsAre vs ns) (hn : ns.length ≤ 63)
    (k : ∀ h' tk' D bs, bs.length = 3 → (∀ v ∈ bs, IsInt v) → Fr h₀ L h' (fun z => if z = Str.ofString "own" then some (.ref D) else none) →
      News h₀ L h' ((D, lstO bs) :: [(b, ob), (L + 1 + 1 + 1 + 1, o4), (L + 1 + 1 + 1, o3), (L + 1 + 1, o2), (L + 1, o1)]) → D ≠ L + 1 + 1 + 1 + 1 → D ≠ L + 1 + 1 + 1 → Q .next { s with heap := h', toks := tk' }) :
    wpAny (model prog w) A (exec (ls 1) (lawEnv L f cd)) Q E { s with heap := hp, toks := tk } := by
  have X := g.X
  have T := g.T
  refine comp_assign (h₀ := h₀) (L := L) (m := fun _ => none) (news := [(b, ob), (L + 1 + 1 + 1 + 1, o4), (L + 1 + 1 + 1, o3), (L + 1 + 1, o2), (L + 1, o1)]) hh rfl ?_ (by with_unfolding_all rfl) rfl (by decide) rfl (by decide) rfl rfl rfl (fun _ => rfl)
  iterate 7 walk1
  dsimp only
  refine SrcOk.vals (fun _ y => IsInt y) (iterOf_range (n := 3) (by assumption) (by rfl) (by rfl)) (by assumption) (by assumption) (Nat.le_of_ble_eq_true rfl) ?_ ?_
  · rintro i v C m₂ h tk E' hi' ⟨t, rfl⟩ ext hC hn hx F N
    refine wpAny_BinOp ?_
    refine Subscript_ ?_
    refine c_cell (c := L + 1 + 1) (cell_at N (by k_mem) d2) rfl ?_
    refine c_own hn hx ?_
    obtain ⟨x, hx'⟩ : ∃ x, bs[i]? = some x := ⟨bs[i], by simp [hbl, hi']⟩
    refine tail_list (ListObj.at hb N (by k_mem)) hx' (by omega) ?_
    walk1
    refine c_boot (g.keeps F.keep) (by k_is) (by boot_by_name) (by decide) ?_
    iterate 2 walk1
    refine Subscript_ ?_
    refine Subscript_ ?_
    refine c_cell (c := L + 1) (cell_at N (by k_mem) d1) rfl ?_
    iterate 5 walk1
    refine tail_slice (IsList.at' hl F.keep) IsPart.none (IsPart.int _ _) IsPart.none (by decide) (Nat.le_trans (by simp [hi.length]; omega) (Nat.le_of_ble_eq_true rfl : 63 ≤ sizeLine)) ?_ (by with_unfolding_all rfl)
    intro D h1 ext1 hD nD
    iterate 2 walk1
    refine c_own (hn.keeps ext1) hx ?_
    iterate 3 walk1
    refine tail_slice hD (IsPart.int _ _) IsPart.none (IsPart.int _ _) (by decide) ?_ ?_ (by with_unfolding_all rfl)
    · exact Nat.le_trans (slicePick_size_le _ _ _ _) (Nat.le_trans (by simp [hi.length]; omega) (Nat.le_of_ble_eq_true rfl : 63 ≤ sizeLine))
    intro D2 h2 ext2 hD2 nD2
    walk1
    refine sum_ext hh hD2 (fun v hv => isInt_of hi v (by simpa using pick_mem (pick_mem hv))) ?_
    intro z t' h3 tk3 ext3
    obtain ⟨z0, t0, rfl⟩ := hbi x (List.mem_of_getElem? hx')
    refine add_int ?_
    exact ⟨_, _, rfl, fun b o e => ext3 b o (ext2 b o (ext1 b o e)), _, _, rfl⟩
  · intro ys led hlen hys D h tk F N ap
    have N' : News h₀ L h ((D, lstO ys) :: [(b, ob), (L + 1 + 1 + 1 + 1, o4), (L + 1 + 1 + 1, o3), (L + 1 + 1, o2), (L + 1, o1)]) := fun p hp => N p (by
      simp only [List.mem_cons, List.mem_append, List.not_mem_nil, or_false] at hp ⊢
      rcases hp with h | h | h | h | h | h <;> simp [h])
    exact k h _ D ys hlen (fun v hv => by obtain ⟨i, hi, e⟩ := List.mem_iff_getElem.mp hv; exact hys i v (by simp [hi, e])) F N'
      (ap _ List.mem_cons_self (L + 1 + 1 + 1 + 1, o4) (by simp)) (ap _ List.mem_cons_self (L + 1 + 1 + 1, o3) (by simp))
end
section
variable {prog : Program} {w : World} {mean : ExcName → Option Value} {mg mb : Str → Option Value} {A : Around} {E : Value → Shared → Prop} {s : Shared} {h₀ hp hf : Heap} {tk : Nat} {L f : Addr} {cd : Value} {Q : Flow → Shared → Prop} {m : Str → Option Value}
set_option maxHeartbeats 2000000 in
theorem st3 {o1 o2 o3 o4 ob : Obj} {b D : Addr} {bs : List Value} (g : G w mean mg mb h₀) (hh : A.handled = none) (hroom : A.depth + 1 < recursionLimit) (F : Fr h₀ L hp (fun z => if z = Str.ofString "own" then some (.ref D) else none))
    (N : News h₀ L hp ((D, lstO bs) :: [(b, ob), (L + 1 + 1 + 1 + 1, o4), (L + 1 + 1 + 1, o3), (L + 1 + 1, o2), (L + 1, o1)])) (d3' : o3.data = .cell none) (hbl : bs.length = 3) (hbi : ∀ v ∈ bs, IsInt v) (hD4 : D ≠ L + 1 + 1 + 1 + 1) (hD3 : D ≠ L + 1 + 1 + 1) (hb4 : b ≠ L + 1 + 1 + 1 + 1) (hb3 : b ≠ L + 1 + 1 + 1)
    (k : ∀ h' tk' hf d kk, kk < 5 → hf.IsList D bs.toArray → StrTab prog w hf d (tabK kk) → hf.IsCell (L + 1 + 1 + 1) (some (.ref d)) → Kq h₀ L o4 hf h' (fun z => if z = Str.ofString "writer" then some (.ref (escA kk)) else if z = Str.ofString "own" then some (.ref D) else none) → Q .next { s with heap := h', toks := tk' }) :
    wpAny (model prog w) A (exec (ls 2) (lawEnv L f cd)) Q E { s with heap := hp, toks := tk } := by
  have X := g.X
  refine Assign_Tuple ?_ (by with_unfolding_all rfl) (by with_unfolding_all rfl)
  refine Subscript_ ?_
  refine Call_ ?_
  refine e_glob (g.keeps F.keep) (by k_is) ?_
  refine callWith_K0 (X.keeps F.keep) (by k_is) ?_
  refine law_hands (g.keeps F.keep) (by omega) ?_
  intro l5 vs5 d0 d1 d2 d3 d4 h1 tk1 tl hv fr ext1
  have F1 := F.keeps ext1
  have N1 := N.grown ext1
  refine wpAny_BinOp ?_
  obtain ⟨x2, hx2⟩ : ∃ x, bs[2]? = some x := ⟨bs[2], by simp [hbl]⟩
  obtain ⟨z, tz, rfl⟩ := hbi x2 (List.mem_of_getElem? hx2)
  refine sub_list (i := 2) rfl F1 (by rfl) ⟨_, (N1 (D, lstO bs) (by simp)).1, rfl, _, rfl⟩ hx2 (by decide) fun _ => ?_
  refine const_n (n := 5) rfl ?_
  intro _ _
  refine mod_n (by decide) ?_
  intro kk t2 tk2 hkk _
  have held : Held tl h1 := fun p hp => (fr p hp).1
  obtain ⟨hl5, hp5⟩ := hv h1 held
  obtain ⟨d, hkk'⟩ : ∃ d, [(0, d0), (1, d1), (2, d2), (3, d3), (4, d4)][kk]? = some (kk, d) := by
    have : kk = 0 ∨ kk = 1 ∨ kk = 2 ∨ kk = 3 ∨ kk = 4 := by omega
    rcases this with rfl | rfl | rfl | rfl | rfl <;> exact ⟨_, rfl⟩
  obtain ⟨y, hy, a, rfl, ha, hd⟩ := Paired.at hp5 hkk'
  refine tail_list hl5 hy (by omega) ?_
  refine wpAny_assign_Tuple (items := #[.ref (escA kk), .ref d]) hh ha rfl rfl fun h2 hx₂ => ?_
  have ext2 : Ext h1 h2 := fun b o x => hx₂ b o (fun q => by have := Heap.lt_size x; rw [q] at this; exact absurd this (Nat.lt_irrefl _)) x
  have F2 := F1.keeps ext2
  have N2 := N1.grown ext2
  have fr2 : Fresh tl hp h2 := fun p hp => ⟨ext2 _ _ (fr p hp).1, (fr p hp).2⟩
  have N3 := news_more F N2 fr2
  show wpAny _ A (do holding [.ref d] (assign (.Name (Str.ofString "writer") _) (lawEnv L f cd) (.ref (escA kk))); holding [] (assign (.Name (Str.ofString "table") _) (lawEnv L f cd) (.ref d)); pure ()) _ _ _
  refine wpAny_bind (wpAny_holding (wpAny_assign_Name ?_))
  refine e_st F2 N3 fun h3 tk3 F3 N4 => ?_
  refine wpAny_bind (wpAny_holding (wpAny_assign_Name ?_))
  have N5 : News h₀ L h3 ((tl ++ [(D, lstO bs), (b, ob), (L + 1 + 1 + 1 + 1, o4)]) ++ (L + 1 + 1 + 1, o3) :: [(L + 1 + 1, o2), (L + 1, o1)]) := by
    simpa [List.append_assoc] using N4
  have h3' : hp.get? (L + 1 + 1 + 1) = some o3 := (N (L + 1 + 1 + 1, o3) (by simp)).1
  have h4' : hp.get? (L + 1 + 1 + 1 + 1) = some o4 := (N (L + 1 + 1 + 1 + 1, o4) (by simp)).1
  refine stCN F3 N5 (by rfl) d3' ?_ ?_ ?_
  · intro p hp'
    rcases List.mem_append.mp hp' with hp' | hp'
    · intro e; have q := (fr p hp').2; rw [e, h3'] at q; cases q
    · simp only [List.mem_cons, List.not_mem_nil, or_false] at hp'
      rcases hp' with rfl | rfl | rfl
      · exact hD3
      · exact hb3
      · refine neN ?_; dsimp only; omega
  · intro p hp'
    simp only [List.mem_cons, List.not_mem_nil, or_false] at hp'
    rcases hp' with rfl | rfl <;> (refine neN ?_; dsimp only; omega)
  intro h5 o5 F5 N6 d5
  refine wpAny_pure ?_
  have N7 : News h₀ L h5 ((L + 1 + 1 + 1 + 1, o4) :: (tl ++ [(D, lstO bs), (L + 1 + 1 + 1, o5)])) := fun p hp' => N6 p (by
    simp only [List.mem_cons, List.mem_append, List.not_mem_nil, or_false] at hp' ⊢
    rcases hp' with h | h | h | h <;> simp [h])
  obtain ⟨hf', q2, q3⟩ := Kq.make F5 N7 (fun p hp' => by
    rcases List.mem_append.mp hp' with hp' | hp'
    · intro e; have q := (fr p hp').2; rw [e, h4'] at q; cases q
    · simp only [List.mem_cons, List.not_mem_nil, or_false] at hp'
      rcases hp' with rfl | rfl
      · exact hD4
      · refine neN ?_; dsimp only; omega)
  have ht : Held tl hf' := fun p hp' => q2 p (List.mem_append_left _ hp')
  obtain ⟨hl6, hp6⟩ := hv hf' ht
  obtain ⟨y', hy', a', e', ha', hd'⟩ := Paired.at hp6 hkk'
  exact k h5 _ hf' d kk hkk ⟨_, q2 (D, lstO bs) (by simp), rfl, _, rfl⟩ hd' ⟨o5, q2 (L + 1 + 1 + 1, o5) (by simp), d5⟩ q3
end
section
variable {prog : Program} {w : World} {mean : ExcName → Option Value} {mg mb : Str → Option Value} {A : Around} {E : Value → Shared → Prop} {s : Shared} {h₀ hp hf : Heap} {tk : Nat} {L f : Addr} {cd : Value} {Q : Flow → Shared → Prop} {m : Str → Option Value} {o4 : Obj}
set_option maxHeartbeats 2000000 in
theorem st4 {D : Addr} {bs : List Value} (g : G w mean mg mb h₀) (hh : A.handled = none) (hroom : A.depth + 1 < recursionLimit) (K : Kq h₀ L o4 hf hp m) (hm : m (Str.ofString "own") = some (.ref D)) (hD : hf.IsList D bs.toArray) (hbl : bs.length = 3) (hbi : ∀ v ∈ bs, IsInt v)
    (k : ∀ h' tk' a1 a2 t1 t2, (∀ c ∈ a1, c ∈ signSet) → a1.length ≤ 8 → (∀ c ∈ a2, c ∈ signSet) → a2.length ≤ 8 → Kq h₀ L o4 hf h' (fun y => if y = Str.ofString "ahead" then some (.str (strL a1) t1) else if y = Str.ofString "behind" then some (.str (strL a2) t2) else m y) → Q .next { s with heap := h', toks := tk' }) :
    wpAny (model prog w) A (exec (ls 3) (lawEnv L f cd)) Q E { s with heap := hp, toks := tk } := by
  have e0 := K.e
  obtain ⟨F, ⟨news, N, hn4, hE⟩⟩ := K
  have X := g.X
  obtain ⟨x0, hx0⟩ : ∃ x, bs[0]? = some x := ⟨bs[0], by simp [hbl]⟩
  obtain ⟨x1, hx1⟩ : ∃ x, bs[1]? = some x := ⟨bs[1], by simp [hbl]⟩
  obtain ⟨z0, tz0, rfl⟩ := hbi x0 (List.mem_of_getElem? hx0)
  obtain ⟨z1, tz1, rfl⟩ := hbi x1 (List.mem_of_getElem? hx1)
  refine Assign_Tuple_swapped (names := [Str.ofString "ahead", Str.ofString "behind"]) ?_ (by with_unfolding_all rfl) (by with_unfolding_all rfl)
  refine Tuple_ ?_
  refine spliced_cons ?_
  refine Call_ ?_
  refine e_glob (g.keeps F.keep) (by k_is) ?_
  refine callWith_K (X.keeps F.keep) (by k_is) ?_
  refine spliced_cons ?_
  refine sub_list (i := 0) rfl F hm (IsList.at' hD e0) hx0 (by decide) fun _ => ?_
  refine spliced_nil ?_
  refine ⟨X.keeps F.keep, ?_⟩
  refine law_signs (g.keeps F.keep) (by omega) (by exact hh) ?_
  intro a1 t1 h1 tk1 ha1 hl1 ext1
  have F1 := F.keeps ext1
  have N1 := N.grown ext1
  have e1 := ext_trans e0 ext1
  refine spliced_cons ?_
  refine Call_ ?_
  refine e_glob (g.keeps F1.keep) (by k_is) ?_
  refine callWith_K (X.keeps F1.keep) (by k_is) ?_
  refine spliced_cons ?_
  refine sub_list (i := 1) rfl F1 hm (IsList.at' hD e1) hx1 (by decide) fun _ => ?_
  refine spliced_nil ?_
  refine ⟨X.keeps F1.keep, ?_⟩
  refine law_signs (g.keeps F1.keep) (by omega) (by exact hh) ?_
  intro a2 t2 h2 tk2 ha2 hl2 ext2
  have F2 := F1.keeps ext2
  have N2 := N1.grown ext2
  refine spliced_nil ?_
  refine wpAny_newTuple ?_ (Nat.le_of_ble_eq_true rfl)
  refine wpAny_unpackItems_tuple (items := #[.str (strL a1) t1, .str (strL a2) t2]) hh ⟨_, Heap.get?_push_size _ rfl, rfl, _, rfl⟩ ?_
  intro h' he'
  have ext' : Ext h2 h' := fun c o e => he' c o (fun q => by have := Heap.lt_size e; rw [q] at this; simp only [Heap.size_push] at this; exact absurd (Nat.lt_trans (Nat.lt_succ_self _) this) (Nat.lt_irrefl _)) (Heap.get?_push_of_some _ e)
  have F' := F2.keeps ext'
  have N' := N2.grown ext'
  refine assignInOrder_cons ?_
  refine wpAny_bindName ?_
  refine e_st F' N' fun h3 tk3 F3 N3 => ?_
  refine assignInOrder_cons ?_
  refine wpAny_bindName ?_
  refine e_st F3 N3 fun h4 tk4 F4 N4 => ?_
  refine assignInOrder_nil ?_
  exact k h4 tk4 a1 a2 t1 t2 ha1 hl1 ha2 hl2 ⟨F4, news, N4, hn4, hE⟩
end
theorem escN_append (rs : List (Nat × List Nat)) : ∀ a b : List Nat, escN rs (a ++ b) = escN rs a ++ escN rs b := by
  induction rs with
  | nil => intro a b; rfl
  | cons p r ih =>
    intro a b
    show escN r (repl p.1 p.2 (a ++ b)) = escN r (repl p.1 p.2 a) ++ escN r (repl p.1 p.2 b)
    rw [repl_append, ih]
theorem escN_not {rs : List (Nat × List Nat)} : ∀ {l : List Nat}, (∀ p ∈ rs, p.1 ∉ l) → escN rs l = l := by
  induction rs with
  | nil => intro l _; rfl
  | cons p r ih =>
    intro l h
    show escN r (repl p.1 p.2 l) = l
    rw [repl_not (h p List.mem_cons_self)]
    exact ih fun q hq => h q (List.mem_cons_of_mem _ hq)
theorem escN_flat (rs : List (Nat × List Nat)) : ∀ l : List Nat, (l.map fun c => escN rs [c]).flatten = escN rs l
  | [] => (escN_not fun _ _ => List.not_mem_nil).symm
  | c :: r => by
    rw [List.map_cons, List.flatten_cons, escN_flat rs r, ← escN_append]; rfl
/-- what the law's table gives for a sign -/
theorem tab_get {k c : Nat} (hk : k < 5) (hc : c ∈ signSet) : (PySem.Spec.lookup (.str (strL [c])) (tabK k)).getD (.str (strL [c])) = .str (strL (escN (escT k) [c])) := by
  have hk' : k = 0 ∨ k = 1 ∨ k = 2 ∨ k = 3 ∨ k = 4 := by omega
  simp only [signSet, List.mem_cons, List.not_mem_nil, or_false] at hc
  rcases hk' with rfl | rfl | rfl | rfl | rfl <;> rcases hc with rfl | rfl | rfl | rfl | rfl | rfl | rfl | rfl | rfl | rfl | rfl | rfl | rfl | rfl | rfl | rfl | rfl <;> rfl
theorem esc_small : ∀ k : Fin 5, ∀ c ∈ signSet, (escN (escT k) [c]).length ≤ 6 ∧ ∀ d ∈ escN (escT k) [c], Str.isSurrogate d = false := by decide +kernel
section
variable {prog : Program} {w : World} {mean : ExcName → Option Value} {mg mb : Str → Option Value} {A : Around} {E : Value → Shared → Prop} {s : Shared} {h₀ hp hf : Heap} {tk : Nat} {L f : Addr} {cd : Value} {Q : Flow → Shared → Prop} {m : Str → Option Value} {o4 : Obj}
theorem flat_strL {v : Value} {y : Str} (h : PyProof.V.Flat v (.str y)) : ∃ t, v = .str y t := PyProof.V.Flat.str_inv h
set_option maxHeartbeats 2000000 in
theorem get_call {d : Addr} {D : List (PyData × PyData)} {x : Str} {t : Tok} {dd : PyData} {dflt : Value} {pos : Pos} {Q : Value → Shared → Prop} {e1 e2 : Expr} {env : Env} {tb : Str} {p1 p2 : Pos} (T : StrTab prog w s.heap d D) (hx : PyProof.V.Flat dflt dd) (hline : (p2.endLine == pos.line) = true)
    (hs : starEach [e1, e2] env = [(false, eval e1 env), (false, eval e2 env)]) (hs2 : starEach [e2] env = [(false, eval e2 env)])
    (h1 : ∀ Q E, Q (.ref d) s → wpAny (model prog w) A (eval (.Name tb p1) env) Q E s)
    (h2 : ∀ Q E, Q (.str x t) s → wpAny (model prog w) A (eval e1 env) Q E s) (h3 : ∀ Q E, Q dflt s → wpAny (model prog w) A (eval e2 env) Q E s)
    (h : ∀ v, PyProof.V.Flat v ((PySem.Spec.lookup (.str x) D).getD dd) → Q v { s with toks := s.toks + 1 }) :
    wpAny (model prog w) A (eval (.Call (.Attribute (.Name tb p1) (Str.ofString "get") p2) [e1, e2] [] pos) env) Q E s := by
  have T' := T
  obtain ⟨lo, kvs, hd, hfl⟩ := T'
  refine wpAny_Call_method_lateS rfl (by rw [hs]; rfl) hline ?_
  refine h1 _ _ ?_
  refine ⟨"dict", "dict.get", F.plainAttrs_dict, F.slot_dict_get, F.type_dict_get, hd.typeIs, hd.mapOf.noDict, ?_⟩
  refine callWith_method1 ?_ (by rw [hs, hs2]) (by rw [hs2]; rfl)
  rw [hs]
  refine spliced_cons ?_
  refine h2 _ _ ?_
  refine spliced_cons ?_
  refine h3 _ _ ?_
  refine spliced_nil ?_
  exact call_get2_strTab T hx h
set_option maxHeartbeats 2000000 in
theorem stJ {n : Nat} {x y : Str} {k1 : Nat} {pa pb pc pd pe pf pg ph pi pj pk pl pm : Pos} {scope : Scope} {cs : List Nat} {kk : Nat} {d : Addr} {t : Tok}
    (hls : ls n = .Assign [.Name y pa] (.Call (.Attribute (.Constant (.str (Str.ofString "")) k1 pb) (Str.ofString "join") pc) [.ListComp (.Call (.Attribute (.Name (Str.ofString "table") pd) (Str.ofString "get") pe) [.Name (Str.ofString "sign") pf, .Name (Str.ofString "sign") pg] [] ph) [⟨.Name (Str.ofString "sign") pi, .Name x pj, [], 0⟩] scope pk] [] pl) pm)
    (hsc : scope = { kind := .function, names := [(Str.ofString ".0", .local), (Str.ofString "sign", .local), (Str.ofString "table", .free)], isGenerator := false, isCoroutine := false, more := [] }) (hl1 : (pc.endLine == pl.line) = true) (hl2 : (pe.endLine == ph.line) = true)
    (g : G w mean mg mb h₀) (hh : A.handled = none) (K : Kq h₀ L o4 hf hp m) (hT : StrTab prog w hf d (tabK kk)) (hc : hf.IsCell (L + 1 + 1 + 1) (some (.ref d))) (hk : kk < 5) (hmx : m x = some (.str (strL cs) t)) (hcs : ∀ c ∈ cs, c ∈ signSet) (hlen : cs.length ≤ 8)
    (k : ∀ h' tk' t, Kq h₀ L o4 hf h' (fun z => if z = y then some (.str (strL (escN (escT kk) cs)) t) else m z) → Q .next { s with heap := h', toks := tk' })
    (hkx : (lawEnv L f cd).kindOf x = some .local := by rfl) (hky : (lawEnv L f cd).kindOf y = some .local := by rfl) (hdx : (x == ("__debug__" : Str)) = false := by decide) :
    wpAny (model prog w) A (exec (ls n) (lawEnv L f cd)) Q E { s with heap := hp, toks := tk } := by
  subst hsc
  have e0 := K.e
  obtain ⟨F, ⟨news, N, hn4, hE⟩⟩ := K
  have X := g.X
  rw [hls]
  refine wpAny_Assign_Name ?_ rfl
  refine join_calls (by decide +kernel) hl1 rfl ?_
  intro tk0
  dsimp only
  refine comp_eval (h₀ := h₀) (L := L) (m := m) (news := (L + 1 + 1 + 1 + 1, o4) :: news) hh ?_ rfl (by decide) rfl (by decide) rfl (fun _ => rfl)
  refine e_loc F hmx ?_ rfl hkx hdx
  refine SrcOk.vals (fun i v => ∃ c t, cs[i]? = some c ∧ v = .str (strL (escN (escT kk) [c])) t) (iterOf_text (x := strL cs) (t := t)) F N (by show cs.toArray.size ≤ sizeLine; rw [List.size_toArray]; exact Nat.le_trans hlen (Nat.le_of_ble_eq_true rfl)) ?_ ?_
  · rintro i v C m₂ h tk E' hi ⟨c, u, hc', rfl⟩ ext hC hn hx F N
    have hci : cs[i]? = some c := by simpa using hc'
    have hcm := hcs c (List.mem_of_getElem? hci)
    have ext2 : Ext hf h := fun b o e => ext b o (e0 b o e)
    refine get_call (s := { s with heap := h, toks := _ }) (d := d) (D := tabK kk) (x := strL [c]) (t := u) (dd := .str (strL [c])) (dflt := .str (strL [c]) u) (TabAt.keep hT ext2) (PyProof.V.Flat.str _ _) hl2 rfl rfl ?_ ?_ ?_ ?_
    · intro Q' E' q
      exact c_cell (c := L + 1 + 1 + 1) (cell_up hc ext2) rfl q
    · intro Q' E' q
      exact c_own hn hx q
    · intro Q' E' q
      exact c_own hn hx q
    · intro v hv
      rw [tab_get hk hcm] at hv
      obtain ⟨t2, rfl⟩ := flat_strL hv
      exact ⟨h, _, rfl, fun _ _ e => e, c, t2, hci, rfl⟩
  · intro zs led hlen2 hzs D h tk ext F N fr
    have hT2 : TextsAre zs (cs.map fun c => escN (escT kk) [c]) := paired_len (by rw [hlen2, List.length_map]; show cs.toArray.size = _; simp) fun i z n e hn => by
      obtain ⟨c, t, h1, rfl⟩ := hzs i z e
      rw [List.getElem?_map, h1] at hn
      cases hn
      exact ⟨t, rfl⟩
    have hflat : ∀ cs : List Nat, (∀ c ∈ cs, c ∈ signSet) → (cs.map fun c => escN (escT kk) [c]).flatten.length ≤ 6 * cs.length := by
      intro cs
      induction cs with
      | nil => intro _; simp
      | cons c r ih =>
        intro h
        have h6 : (escN (escT kk) [c]).length ≤ 6 := (esc_small ⟨kk, hk⟩ c (h c List.mem_cons_self)).1
        have := ih fun d hd => h d (List.mem_cons_of_mem _ hd)
        rw [List.map_cons, List.flatten_cons, List.length_append, List.length_cons]
        omega
    have hfl := hflat cs hcs
    refine ⟨D, zs, _, rfl, ⟨_, (fr (D, lstO zs) List.mem_cons_self).1, rfl, _, rfl⟩, hT2, by rw [List.length_map]; omega, fun t k' => ?_⟩
    rw [escN_flat]
    have N2 : News h₀ L h ((L + 1 + 1 + 1 + 1, o4) :: news) := fun p hp => N p (by simp only [List.mem_cons, List.mem_append] at hp ⊢; rcases hp with h | h <;> simp [h])
    exact e_st F N2 (fun h2 tk2 F2 N3 => k h2 tk2 t ⟨F2, news, N3, hn4, hE⟩) hky
end
/-- an expression of the law's own block that comes to a natural -/
def Ev (prog : Program) (w : World) (A : Around) (s : Shared) (h₀ hf : Heap) (o4 : Obj) (L f : Addr) (cd : Value) (m : Str → Option Value) (e : Expr) (n : Nat) : Prop :=
  ∀ hp tk (Q E : Value → Shared → Prop), Kq h₀ L o4 hf hp m → (∀ t h' tk', Ext hp h' → Q (vn n t) { s with heap := h', toks := tk' }) → wpAny (model prog w) A (eval e (lawEnv L f cd)) Q E { s with heap := hp, toks := tk }
/-- the same for a text -/
def EvS (prog : Program) (w : World) (A : Around) (s : Shared) (h₀ hf : Heap) (o4 : Obj) (L f : Addr) (cd : Value) (m : Str → Option Value) (e : Expr) (cs : List Nat) : Prop :=
  ∀ hp tk (Q E : Value → Shared → Prop), Kq h₀ L o4 hf hp m → (∀ t tk', Q (.str (strL cs) t) { s with heap := hp, toks := tk' }) → wpAny (model prog w) A (eval e (lawEnv L f cd)) Q E { s with heap := hp, toks := tk }
section
variable {prog : Program} {w : World} {mean : ExcName → Option Value} {mg mb : Str → Option Value} {A : Around} {s : Shared} {h₀ hf : Heap} {o4 : Obj} {L f : Addr} {cd : Value} {m : Str → Option Value} {e e1 e2 : Expr} {a b : Nat} {p p1 p2 p3 : Pos} {kk : Nat}
theorem Ev.name {x : Str} {t : Tok} (hm : m x = some (vn a t)) (hk : (lawEnv L f cd).kindOf x = some .local := by rfl) (hd : (x == ("__debug__" : Str)) = false := by decide) : Ev prog w A s h₀ hf o4 L f cd m (.Name x p) a :=
  fun hp _ _ _ K q => e_loc K.F hm (q _ hp _ fun _ _ e => e) rfl hk hd
theorem Ev.con {z : Int} (hz : z = (a : Int)) : Ev prog w A s h₀ hf o4 L f cd m (.Constant (.int z) kk p) a :=
  fun hp _ _ _ _ q => const_n hz fun t _ => q t hp _ fun _ _ e => e
theorem Ev.sub {x : Str} {z : Int} {i : Nat} {D : Addr} {ys : List Value} {t : Tok} (hm : m x = some (.ref D)) (hl : hf.IsList D ys.toArray) (hy : ys[i]? = some (vn a t)) (hz : z = (i : Int)) (hi : i < 2 ^ 62)
    (hk : (lawEnv L f cd).kindOf x = some .local := by rfl) (hd : (x == ("__debug__" : Str)) = false := by decide) : Ev prog w A s h₀ hf o4 L f cd m (.Subscript (.Name x p1) (.Constant (.int z) kk p2) p3) a :=
  fun hp _ _ _ K q => sub_list hz K.F hm (IsList.at' hl K.e) hy hi (fun _ => q _ hp _ fun _ _ e => e) hk hd
theorem Ev.xor (h1 : Ev prog w A s h₀ hf o4 L f cd m e1 a) (h2 : Ev prog w A s h₀ hf o4 L f cd m e2 b) : Ev prog w A s h₀ hf o4 L f cd m (.BinOp e1 .BitXor e2 p) (a ^^^ b) :=
  fun _ _ _ _ K q => wpAny_BinOp (h1 _ _ _ _ K fun _ _ _ x1 => h2 _ _ _ _ (K.keeps x1) fun _ h' _ x2 => xor_n fun t _ => q t h' _ (ext_trans x1 x2))
theorem Ev.add (h1 : Ev prog w A s h₀ hf o4 L f cd m e1 a) (h2 : Ev prog w A s h₀ hf o4 L f cd m e2 b) : Ev prog w A s h₀ hf o4 L f cd m (.BinOp e1 .Add e2 p) (a + b) :=
  fun _ _ _ _ K q => wpAny_BinOp (h1 _ _ _ _ K fun _ _ _ x1 => h2 _ _ _ _ (K.keeps x1) fun _ h' _ x2 => add_n fun t _ => q t h' _ (ext_trans x1 x2))
theorem Ev.mul (ha : a < 2 ^ 64) (h1 : Ev prog w A s h₀ hf o4 L f cd m e1 a) (h2 : Ev prog w A s h₀ hf o4 L f cd m e2 b) : Ev prog w A s h₀ hf o4 L f cd m (.BinOp e1 .Mult e2 p) (a * b) :=
  fun _ _ _ _ K q => wpAny_BinOp (h1 _ _ _ _ K fun _ _ _ x1 => h2 _ _ _ _ (K.keeps x1) fun _ h' _ x2 => mul_n ha fun t _ => q t h' _ (ext_trans x1 x2))
theorem EvS.con {x : Str} {cs : List Nat} (hx : x = strL cs) : EvS prog w A s h₀ hf o4 L f cd m (.Constant (.str x) kk p) cs :=
  fun _ _ _ _ _ q => Constant_str (by subst hx; exact q _ _)
/-- one argument, two arguments -/
theorem Ev.call1 {x : Str} {fa : Addr} {n : Nat} (g : G w mean mg mb h₀) (hx : nsIn (hd.heap_39 w.params) mainGlobals x = some (some (.ref fa))) (hkeep : keepIn (hd.heap_39 w.params) (.ref fa) = true)
    (C : ∀ hp tk t (Q E : Value → Shared → Prop), Ext h₀ hp → (∀ t h' tk', Ext hp h' → Q (vn n t) { s with heap := h', toks := tk' }) → wpAny (model prog w) A (call (.ref fa) [vn a t]) Q E { s with heap := hp, toks := tk })
    (h1 : Ev prog w A s h₀ hf o4 L f cd m e1 a)
    (hs : starEach [e1] (lawEnv L f cd) = [(false, eval e1 (lawEnv L f cd))]) (hk : lawScope.kind = .function := by rfl) (hxk : (lawEnv L f cd).kindOf x = some .globalImplicit := by rfl) (hd' : (x == ("__debug__" : Str)) = false := by decide) :
    Ev prog w A s h₀ hf o4 L f cd m (.Call (.Name x p1) [e1] [] p2) n := by
  intro hp tk Q E K q
  have X := g.X
  refine Call_ ?_
  refine e_glob (g.keeps K.F.keep) hx ?_ hk hxk hd'
  refine callWith_K (X.keeps K.F.keep) hkeep ?_ hs rfl
  rw [hs]
  refine spliced_cons ?_
  refine h1 _ _ _ _ K fun t h' tk' x1 => ?_
  refine spliced_nil ?_
  refine ⟨X.keeps (K.keeps x1).F.keep, ?_⟩
  exact C _ _ _ _ _ (K.keeps x1).F.keep fun t2 h2 tk2 x2 => q t2 h2 tk2 (ext_trans x1 x2)
theorem Ev.call2 {x : Str} {fa : Addr} {n : Nat} (g : G w mean mg mb h₀) (hx : nsIn (hd.heap_39 w.params) mainGlobals x = some (some (.ref fa))) (hkeep : keepIn (hd.heap_39 w.params) (.ref fa) = true)
    (C : ∀ hp tk t u (Q E : Value → Shared → Prop), Ext h₀ hp → (∀ t h' tk', Ext hp h' → Q (vn n t) { s with heap := h', toks := tk' }) → wpAny (model prog w) A (call (.ref fa) [vn a t, vn b u]) Q E { s with heap := hp, toks := tk })
    (h1 : Ev prog w A s h₀ hf o4 L f cd m e1 a) (h2 : Ev prog w A s h₀ hf o4 L f cd m e2 b)
    (hs : starEach [e1, e2] (lawEnv L f cd) = [(false, eval e1 (lawEnv L f cd)), (false, eval e2 (lawEnv L f cd))]) (hs2 : starEach [e2] (lawEnv L f cd) = [(false, eval e2 (lawEnv L f cd))])
    (hk : lawScope.kind = .function := by rfl) (hxk : (lawEnv L f cd).kindOf x = some .globalImplicit := by rfl) (hd' : (x == ("__debug__" : Str)) = false := by decide) :
    Ev prog w A s h₀ hf o4 L f cd m (.Call (.Name x p1) [e1, e2] [] p2) n := by
  intro hp tk Q E K q
  have X := g.X
  refine Call_ ?_
  refine e_glob (g.keeps K.F.keep) hx ?_ hk hxk hd'
  refine callWith_K (X.keeps K.F.keep) hkeep ?_ (by rw [hs, hs2]) (by rw [hs2]; rfl)
  rw [hs]
  refine spliced_cons ?_
  refine h1 _ _ _ _ K fun t h' tk' x1 => ?_
  refine spliced_cons ?_
  refine h2 _ _ _ _ (K.keeps x1) fun t2 h2 tk2 x2 => ?_
  refine spliced_nil ?_
  have x3 := ext_trans x1 x2
  refine ⟨X.keeps (K.keeps x3).F.keep, ?_⟩
  exact C _ _ _ _ _ _ (K.keeps x3).F.keep fun t2 h2 tk2 x2 => q t2 h2 tk2 (ext_trans x3 x2)
theorem ev_assign {x : Str} {Q : Flow → Shared → Prop} {E : Value → Shared → Prop} {hp : Heap} {tk : Nat} (K : Kq h₀ L o4 hf hp m) (h : Ev prog w A s h₀ hf o4 L f cd m e a)
    (k : ∀ h' tk' t, Kq h₀ L o4 hf h' (fun z => if z = x then some (vn a t) else m z) → Q .next { s with heap := h', toks := tk' })
    (hu : swapsWith e (some (.Name x p1)) p2.line (lawEnv L f cd) = pure false := by rfl) (hky : (lawEnv L f cd).kindOf x = some .local := by rfl) :
    wpAny (model prog w) A (exec (.Assign [.Name x p1] e p2) (lawEnv L f cd)) Q E { s with heap := hp, toks := tk } := by
  refine wpAny_Assign_Name ?_ hu
  refine h _ _ _ _ K fun t h' tk' x1 => ?_
  obtain ⟨F, news, N, hn4, hE⟩ := K.keeps x1
  exact e_st F N (fun h2 tk2 F2 N2 => k h2 tk2 t ⟨F2, news, N2, hn4, hE⟩) hky
end
section
variable {prog : Program} {w : World} {mean : ExcName → Option Value} {mg mb : Str → Option Value} {A : Around} {E : Value → Shared → Prop} {s : Shared} {h₀ hp hf : Heap} {tk : Nat} {L f : Addr} {cd : Value} {m : Str → Option Value} {o4 : Obj} {e e1 e2 : Expr} {a b : Nat} {p p1 p2 p3 p4 : Pos}
theorem ev_up (g : G w mean mg mb h₀) (hroom : A.depth < recursionLimit) (hh : A.handled = none) (hb : b < 1000000) (h1 : Ev prog w A s h₀ hf o4 L f cd m e1 a) (h2 : Ev prog w A s h₀ hf o4 L f cd m e2 b)
    (hs : starEach [e1, e2] (lawEnv L f cd) = [(false, eval e1 (lawEnv L f cd)), (false, eval e2 (lawEnv L f cd))]) (hs2 : starEach [e2] (lawEnv L f cd) = [(false, eval e2 (lawEnv L f cd))]) :
    Ev prog w A s h₀ hf o4 L f cd m (.Call (.Name (Str.ofString "_law_up") p1) [e1, e2] [] p2) (upN a b) :=
  Ev.call2 g (fa := 96) (by k_is) (by k_is) (fun _ _ _ _ _ _ x q => law_up (g.keeps x) hroom hh hb q) h1 h2 hs hs2
theorem EvS.name {x : Str} {cs : List Nat} {t : Tok} (hm : m x = some (.str (strL cs) t)) (hk : (lawEnv L f cd).kindOf x = some .local := by rfl) (hd : (x == ("__debug__" : Str)) = false := by decide) : EvS prog w A s h₀ hf o4 L f cd m (.Name x p) cs :=
  fun _ _ _ _ K q => e_loc K.F hm (q _ _) rfl hk hd
theorem EvS.add {c1 c2 : List Nat} (hl : c1.length + c2.length ≤ 1000) (h1 : EvS prog w A s h₀ hf o4 L f cd m e1 c1) (h2 : EvS prog w A s h₀ hf o4 L f cd m e2 c2) : EvS prog w A s h₀ hf o4 L f cd m (.BinOp e1 .Add e2 p) (c1 ++ c2) :=
  fun _ _ _ _ K q => wpAny_BinOp (h1 _ _ _ _ K fun _ _ => h2 _ _ _ _ K fun _ _ => add_cs hl fun t tk => q t tk)
/-- an expression that comes to octets -/
def EvB (prog : Program) (w : World) (A : Around) (s : Shared) (h₀ hf : Heap) (o4 : Obj) (L f : Addr) (cd : Value) (m : Str → Option Value) (e : Expr) (bs : List UInt8) : Prop :=
  ∀ hp tk (Q E : Value → Shared → Prop), Kq h₀ L o4 hf hp m → (∀ t tk', Q (.bytes bs.toArray t) { s with heap := hp, toks := tk' }) → wpAny (model prog w) A (eval e (lawEnv L f cd)) Q E { s with heap := hp, toks := tk }
theorem EvB.enc {cs : List Nat} (hline : (p1.endLine == p2.line) = true) (hbase : attributeBase e (Str.ofString "encode") (lawEnv L f cd) (eval e (lawEnv L f cd)) = eval e (lawEnv L f cd)) (hs : ∀ c ∈ cs, Str.isSurrogate c = false) (hl : cs.length ≤ 1000) (h : EvS prog w A s h₀ hf o4 L f cd m e cs) :
    EvB prog w A s h₀ hf o4 L f cd m (.Call (.Attribute e (Str.ofString "encode") p1) [] [] p2) (utf8L cs) := by
  intro hp tk Q E K q
  refine Call_method0 hbase hline ?_
  refine h _ _ _ _ K fun t tk' => ?_
  refine ⟨"str", "str.encode", F.plainAttrs_str, F.slot_str_encode, F.type_str_encode, typeIs_str _ _ _, GM.noRef, ?_⟩
  refine callWith_builtin rfl (PySem.evalArgs_none ?_)
  exact encode_call (s := { s with heap := hp, toks := tk' }) hs hl fun t2 k2 => q t2 k2
theorem ev_lenB {bs : List UInt8} (g : G w mean mg mb h₀) (hb : bs.length < 1000000) (h1 : EvB prog w A s h₀ hf o4 L f cd m e1 bs)
    (hs : starEach [e1] (lawEnv L f cd) = [(false, eval e1 (lawEnv L f cd))]) :
    Ev prog w A s h₀ hf o4 L f cd m (.Call (.Name (Str.ofString "len") p1) [e1] [] p2) bs.length := by
  intro hp tk Q E K q
  refine Call_ ?_
  refine e_boot (g.keeps K.F.keep) (by k_is) (by boot_by_name) (by decide) ?_
  refine callWith_method1 ?_ hs rfl
  rw [hs]
  refine spliced_cons ?_
  refine h1 _ _ _ _ K fun t tk' => ?_
  refine spliced_nil ?_
  refine len_bytes (b := bs.toArray) (by rw [List.size_toArray]; omega) ?_
  have e : ((bs.toArray.size : Nat) : Int) = (bs.length : Int) := by simp
  rw [e]
  exact q _ hp _ fun _ _ e => e
theorem ev_alongB {bs : List UInt8} (g : G w mean mg mb h₀) (hroom : A.depth < recursionLimit) (hh : A.handled = none) (h1 : Ev prog w A s h₀ hf o4 L f cd m e1 a) (h2 : EvB prog w A s h₀ hf o4 L f cd m e2 bs)
    (hs : starEach [e1, e2] (lawEnv L f cd) = [(false, eval e1 (lawEnv L f cd)), (false, eval e2 (lawEnv L f cd))]) (hs2 : starEach [e2] (lawEnv L f cd) = [(false, eval e2 (lawEnv L f cd))]) :
    Ev prog w A s h₀ hf o4 L f cd m (.Call (.Name (Str.ofString "_law_along") p1) [e1, e2] [] p2) (alongN a (octs bs)) := by
  intro hp tk Q E K q
  have X := g.X
  refine Call_ ?_
  refine e_glob (v := .ref 103) (g.keeps K.F.keep) (by k_is) ?_
  refine callWith_K (X.keeps K.F.keep) (by k_is) ?_ (by rw [hs, hs2]) (by rw [hs2]; rfl)
  rw [hs]
  refine spliced_cons ?_
  refine h1 _ _ _ _ K fun t h' tk' x1 => ?_
  refine spliced_cons ?_
  refine h2 _ _ _ _ (K.keeps x1) fun t2 tk2 => ?_
  refine spliced_nil ?_
  refine ⟨X.keeps (K.keeps x1).F.keep, ?_⟩
  exact law_along (g.keeps (K.keeps x1).F.keep) hroom hh fun t2 h2 tk2 x2 => q t2 h2 tk2 (ext_trans x1 x2)
set_option maxHeartbeats 2000000 in
theorem st6 {cs : List Nat} {t : Tok} {Q : Flow → Shared → Prop} {E : Value → Shared → Prop} (g : G w mean mg mb h₀) (hh : A.handled = none) (hroom : A.depth + 1 < recursionLimit) (K : Kq h₀ L o4 hf hp m) (hm : m (Str.ofString "end") = some (.str (strL cs) t)) (hs : ∀ c ∈ cs, Str.isSurrogate c = false) (hl : cs.length ≤ 100)
    (k : ∀ h' tk' t, Kq h₀ L o4 hf h' (fun z => if z = Str.ofString "power" then some (vn (upN 1 (39 + 8 * (utf8L cs).length)) t) else m z) → Q .next { s with heap := h', toks := tk' }) :
    wpAny (model prog w) A (exec (ls 6) (lawEnv L f cd)) Q E { s with heap := hp, toks := tk } := by
  have hu := utf8L_len cs
  exact ev_assign (a := upN 1 (39 + 8 * (utf8L cs).length)) K (ev_up g (by omega) hh (by omega) (Ev.con (a := 1) rfl) (Ev.add (Ev.con (a := 39) rfl) (Ev.mul (by decide) (Ev.con (a := 8) rfl) (ev_lenB g (by omega) (EvB.enc rfl rfl hs (by omega) (EvS.name hm)) rfl))) rfl rfl) k
end
section
variable {prog : Program} {w : World} {mean : ExcName → Option Value} {mg mb : Str → Option Value} {A : Around} {E : Value → Shared → Prop} {s : Shared} {h₀ hp hf : Heap} {tk : Nat} {L f : Addr} {cd : Value} {m : Str → Option Value} {o4 : Obj} {Q : Flow → Shared → Prop}
set_option maxHeartbeats 2000000 in
theorem st7 (K : Kq h₀ L o4 hf hp m) (hh : A.handled = none)
    (k : ∀ h' tk' R P oR oP t news, oR = { cls := .type "list", data := .seq ([] : List Value).toArray } → oP = { cls := .type "list", data := .seq ([] : List Value).toArray } → R ≠ P → R ≠ L + 1 + 1 + 1 + 1 → P ≠ L + 1 + 1 + 1 + 1 → (∀ p ∈ news, p.1 ≠ R ∧ p.1 ≠ P ∧ p.1 ≠ L + 1 + 1 + 1 + 1) → (∀ h, Held news h → Ext hf h) →
      Fr h₀ L h' (fun y => if y = Str.ofString "rows" then some (.ref R) else if y = Str.ofString "twin" then some (vn 0 t) else if y = Str.ofString "powers" then some (.ref P) else m y) →
      News h₀ L h' ((R, oR) :: (P, oP) :: (L + 1 + 1 + 1 + 1, o4) :: news) → Q .next { s with heap := h', toks := tk' }) :
    wpAny (model prog w) A (exec (ls 7) (lawEnv L f cd)) Q E { s with heap := hp, toks := tk } := by
  obtain ⟨F, ⟨news, N, hn4, hE⟩⟩ := K
  refine Assign_Tuple_swapped (names := [Str.ofString "rows", Str.ofString "twin", Str.ofString "powers"]) ?_ (by with_unfolding_all rfl) (by with_unfolding_all rfl)
  refine Tuple_ ?_
  refine spliced_cons ?_
  refine List_ ?_
  refine spliced_nil ?_
  refine newList_N (s := { s with heap := hp, toks := _ }) F N (fun h1 F1 N1 => ?_) (Nat.le_of_ble_eq_true rfl)
  have no : ∀ {h : Heap} {nw : List (Addr × Obj)}, News h₀ L h nw → ∀ p ∈ nw, p.1 ≠ h.objs.size := fun n p hp e => by
    have q := Heap.lt_size (n p hp).1
    rw [e] at q; exact absurd q (Nat.lt_irrefl _)
  have n0 := no N
  refine spliced_cons ?_
  show wpAny _ _ (eval _ _) _ _ _
  refine const_n (n := 0) rfl ?_
  intro t0 tk0
  refine spliced_cons ?_
  refine List_ ?_
  refine spliced_nil ?_
  refine newList_N (s := { s with heap := h1, toks := _ }) F1 N1 (fun h2 F2 N2 => ?_) (Nat.le_of_ble_eq_true rfl)
  have n1 := no N1
  refine spliced_nil ?_
  refine wpAny_newTuple ?_ (Nat.le_of_ble_eq_true rfl)
  refine wpAny_unpackItems_tuple (items := #[.ref hp.objs.size, vn 0 t0, .ref h1.objs.size]) hh ⟨_, Heap.get?_push_size _ rfl, rfl, _, rfl⟩ ?_
  intro h' he'
  have ext' : Ext h2 h' := fun c o e => he' c o (fun q => by have := Heap.lt_size e; rw [q] at this; simp only [Heap.size_push] at this; exact absurd (Nat.lt_trans (Nat.lt_succ_self _) this) (Nat.lt_irrefl _)) (Heap.get?_push_of_some _ e)
  have F' := F2.keeps ext'
  have N' := N2.grown ext'
  refine assignInOrder_cons ?_
  refine wpAny_bindName ?_
  refine e_st F' N' fun h3 tk3 F3 N3 => ?_
  refine assignInOrder_cons ?_
  refine wpAny_bindName ?_
  refine e_st F3 N3 fun h4 tk4 F4 N4 => ?_
  refine assignInOrder_cons ?_
  refine wpAny_bindName ?_
  refine e_st F4 N4 fun h5 tk5 F5 N5 => ?_
  refine assignInOrder_nil ?_
  have hRP : hp.objs.size ≠ h1.objs.size := n1 _ List.mem_cons_self
  refine k h5 tk5 hp.objs.size h1.objs.size { cls := .type "list", data := .seq ([] : List Value).toArray } { cls := .type "list", data := .seq ([] : List Value).toArray } t0 news rfl rfl hRP (Ne.symm (n0 _ List.mem_cons_self)) (Ne.symm (n1 _ (List.mem_cons_of_mem _ List.mem_cons_self))) (fun p hp' => ⟨n0 p (List.mem_cons_of_mem _ hp'), n1 p (List.mem_cons_of_mem _ (List.mem_cons_of_mem _ hp')), hn4 p hp'⟩) hE F5 (fun p hp' => N5 p ?_)
  simp only [List.mem_cons] at hp' ⊢
  rcases hp' with h | h | h | h <;> simp [h]
end
section
variable {prog : Program} {w : World} {A : Around} {E : Value → Shared → Prop} {s : Shared} {env : Env} {h₀ hf : Heap} {L : Addr} {Q : Flow → Shared → Prop} {m : Str → Option Value}
set_option maxHeartbeats 1000000 in
/-- for a name in a range, whatever a turn makes -/
theorem for_one {x : Str} {px pos : Pos} {iter : Expr} {body : List Stmt} (hLe : env.locals = L) (hh : A.handled = none) (hx : env.kindOf x = some .local)
    (hp' : (env.scope.kind == .class || (env.scope.kind == .module && env.locals != env.globals)) = false) (J : Nat → (Str → Option Value) → List (Addr × Obj) → Prop)
    (h : wpAny (model prog w) A (eval iter env) (fun xv' s₁ => ∃ (r : Addr) (a b c : Int) (t u v : Tok) (n : Nat) (m : Str → Option Value) (news : List (Addr × Obj)), xv' = .ref r ∧ IsRange s₁.heap r a b c t u v ∧ Builtin.Range.small a b c = true ∧ Builtin.Range.rangeSize a b c = (n : Int) ∧ Fr h₀ L s₁.heap m ∧ News h₀ L s₁.heap news ∧ J 0 m news ∧
      (∀ h' tk' m' nx, Fr h₀ L h' m' → News h₀ L h' nx → J n m' nx → Q .next { s₁ with heap := h', toks := tk' }) ∧
      (∀ (i : Nat) m₁ nx h tk (I : Addr) (oI : Obj) t (Q' : Flow → Shared → Prop) (E' : Value → Shared → Prop), i < n → J i m₁ nx → Fr h₀ L h (fun y => if y = x then some (.int (a + (i : Int) * c) t) else m₁ y) → News h₀ L h ((I, oI) :: nx) → (∀ q ∈ nx, q.1 ≠ I) →
        (∀ h' tk' m₂ nx', Fr h₀ L h' m₂ → News h₀ L h' ((I, oI) :: nx') → (∀ q ∈ nx', q.1 ≠ I) → J (i + 1) m₂ nx' → Q' .next { s₁ with heap := h', toks := tk' }) →
        wpAny (model prog w) A (execs body env) Q' E' { s₁ with heap := h, toks := tk })) E s)
    (hs : ∀ x, foldedSetIterable iter env x = pure x := by intro _; rfl) :
    wpAny (model prog w) A (exec (.For (.Name x px) iter body [] pos) env) Q E s := by
  subst hLe
  refine wpAny_For (wpAny_mono h (fun xval s₁ h₁ => ?_) fun _ _ e => e) hs
  obtain ⟨r, a, b, c, t, u, v, n, m, news, rfl, hr, hsm, hn, F, N, h0, hdone, hbody⟩ := h₁
  refine wpAny_pyIter_range hr hsm ?_
  have W := (Walks.range (prog := prog) (w := w) hh s₁.heap.objs.size a c n).bound
  have nI : s₁.heap.get? s₁.heap.objs.size = none := Heap.get?_none_of_le (Nat.le_refl _)
  have hst : IsRangeIter (s₁.heap.push { cls := .type "range_iterator", data := .fields #[rawInt a, rawInt (Builtin.Range.rangeSize a b c), rawInt c] }) s₁.heap.objs.size (a + ((0 : Nat) : Int) * c) ((n : Int) - ((0 : Nat) : Int)) c := by
    show Heap.get? _ _ = _
    rw [hn]; simpa using Heap.get?_push_size _ rfl
  have n0 : h₀.get? s₁.heap.objs.size = none := by
    cases q : h₀.get? s₁.heap.objs.size with
    | none => rfl
    | some o => rw [F.keep _ _ q] at nI; cases nI
  obtain ⟨oL, _, _, hL, _⟩ := F.ns
  have hLI : env.locals ≠ s₁.heap.objs.size := fun q => by rw [q, nI] at hL; cases hL
  have ho : ∀ p ∈ news, p.1 ≠ s₁.heap.objs.size := fun p hp q => by have z := (N p hp).1; rw [q, nI] at z; cases z
  have ext1 : Ext s₁.heap (s₁.heap.push { cls := .type "range_iterator", data := .fields #[rawInt a, rawInt (Builtin.Range.rangeSize a b c), rawInt c] }) := fun b o e => Heap.get?_push_of_some _ e
  have F1 := F.keeps ext1
  have N1 := N.grown ext1
  generalize hI' : s₁.heap.objs.size = I at *
  generalize hH : s₁.heap.push { cls := .type "range_iterator", data := .fields #[rawInt a, rawInt (Builtin.Range.rangeSize a b c), rawInt c] } = H1 at *
  refine codeAny_forLoop_any
    (fun k s' => ∃ h' tk m' nx i, s' = { s₁ with heap := h', toks := tk } ∧ IsRangeIter h' I (a + (i : Nat) * c) ((n : Int) - (i : Nat)) c ∧ Fr h₀ env.locals h' m' ∧ News h₀ env.locals h' nx ∧ (∀ q ∈ nx, q.1 ≠ I) ∧ J i m' nx ∧ i ≤ n ∧ k = n + 1 - i) ?_ (n + 1)
    ⟨H1, s₁.toks, m, news, 0, rfl, hst, F1, N1, ho, h0, Nat.zero_le _, rfl⟩
  rintro k s' ⟨H, tk, m', nx, i, rfl, hit', F', N', ho', hJ, hi, rfl⟩
  by_cases hlt : i < n
  · refine W.item i _ _ _ hlt hit' fun v h₁ tk₁ hPv hst₁ hk₁ => ?_
    obtain ⟨_, tv, rfl⟩ := hPv
    refine wpAny_of_eq rfl ?_
    obtain ⟨F₁, N₁⟩ := chg1 F' N' n0 hLI ho' (h' := h₁) fun b o hb x => hk₁ b o (by simpa using hb) x
    refine wpAny_assign_Name (wpAny_storeName_local hx F₁.ns (fun h₂ hn₂ hs₂ => ?_) hp')
    have F₂ := F₁.set hn₂ hs₂
    have N₂ := N₁.set hs₂
    have hit₂ : IsRangeIter h₂ I (a + ((i + 1 : Nat) : Int) * c) ((n : Int) - ((i + 1 : Nat) : Int)) c := hs₂.extBut _ _ (Ne.symm hLI) hst₁
    obtain ⟨oI, hoI, hIt⟩ : ∃ o, h₂.get? I = some o ∧ ∀ h', h'.get? I = some o → IsRangeIter h' I (a + ((i + 1 : Nat) : Int) * c) ((n : Int) - ((i + 1 : Nat) : Int)) c := ⟨_, hit₂, fun _ e => e⟩
    have N₂' : News h₀ env.locals h₂ ((I, oI) :: nx) := by
      intro q hq
      rcases List.mem_cons.mp hq with rfl | hq
      · exact ⟨hoI, Ne.symm hLI, n0⟩
      · exact N₂ q hq
    refine hbody i m' nx h₂ _ I oI tv _ _ hlt hJ F₂ N₂' ho' fun h₆ tk₆ m₂ nx' F₆ N₆ hsub hJ₆ => ?_
    exact ⟨n + 1 - (i + 1), by omega, h₆, tk₆, m₂, nx', i + 1, rfl, hIt _ (N₆ _ List.mem_cons_self).1, F₆, fun q hq => N₆ q (List.mem_cons_of_mem _ hq), hsub, hJ₆, hlt, rfl⟩
  · obtain rfl : i = n := Nat.le_antisymm hi (Nat.not_lt.mp hlt)
    refine W.done _ _ _ hit' fun h₁ tk₁ hk₁ => wpAny_execs_nil ?_
    obtain ⟨F₁, N₁⟩ := chg1 F' N' n0 hLI ho' (h' := h₁) fun b o hb x => hk₁ b o (by simpa using hb) x
    exact hdone h₁ _ m' nx F₁ N₁ hJ
end
/-- a list as the law's own statements leave it -/
abbrev lobj (vs : List Value) (n : Nat) : Obj := { cls := .type "list", data := .seq vs.toArray n }
theorem lobj_push (vs : List Value) (n : Nat) (v : Value) : ({ cls := .type "list", data := .seq (vs.toArray.push v) (n + 1) } : Obj) = lobj (vs ++ [v]) (n + 1) := by simp
section
variable {prog : Program} {w : World} {mean : ExcName → Option Value} {mg mb : Str → Option Value} {A : Around} {E : Value → Shared → Prop} {s : Shared} {h₀ hp hf : Heap} {tk : Nat} {L f : Addr} {cd : Value} {m : Str → Option Value} {Q : Flow → Shared → Prop}
theorem tail_last {value slice : Expr} {l : Addr} {its : List Value} {z : Int} {u : Tok} {x : Value} {Q : Value → Shared → Prop} (hz : z = -1) (hl : hp.IsList l (its ++ [x]).toArray) (hn : its.length < 1000000) (h : Q x { s with heap := hp, toks := tk })
    (hs : subscripted slice false (.ref l) (.int z u) = operate [.ref l, .int z u] (getItem (.ref l) (.int z u)) := by with_unfolding_all rfl) :
    wpAny (model prog w) A (subscriptTail value slice (.ref l) (.int z u)) Q E { s with heap := hp, toks := tk } := by
  subst hz
  refine kba_turn (value' := Expr.Name (Str.ofString "_") ⟨0, 0, 0, 0⟩) (fun _ => rfl) ?_
  refine subscriptTail_ops (s := { s with heap := hp, toks := tk }) (Heap.IsList.typeIs (s := { s with heap := hp, toks := tk }) hl) list_getitem_lookup
    (wpAny_getItem_list_neg (s := { s with heap := hp, toks := tk }) hl (by decide) (by simp; omega) (by decide) ?_ h) hs (fun _ => rfl)
  have e : (-1 + ((its ++ [x]).toArray.size : Int)).toNat = its.length := by simp; omega
  rw [e]; simp
theorem app_stmt {x : Str} {e : Expr} {D : Addr} {vs : List Value} {n : Nat} {p1 p2 p3 p4 : Pos} (P : Value → Heap → Prop) (Ff : Fr h₀ L hp m) (hm : m x = some (.ref D)) (hD : hp.get? D = some (lobj vs n)) (hn : vs.length ≤ 1000) (hline : (p2.endLine == p3.line) = true)
    (hs : starEach [e] (lawEnv L f cd) = [(false, eval e (lawEnv L f cd))])
    (he : ∀ (Q' E' : Value → Shared → Prop), (∀ v h' tk', Ext hp h' → P v h' → Q' v { s with heap := h', toks := tk' }) → wpAny (model prog w) A (eval e (lawEnv L f cd)) Q' E' { s with heap := hp, toks := tk })
    (k : ∀ v h1 h' tk', Ext hp h1 → P v h1 → Heap.SameBut D h1 h' → h'.get? D = some (lobj (vs ++ [v]) (n + 1)) → Q .next { s with heap := h', toks := tk' })
    (hsw : swapsWith (.Call (.Attribute (.Name x p1) (Str.ofString "append") p2) [e] [] p3) none p4.line (lawEnv L f cd) = pure false := by rfl)
    (hk : (lawEnv L f cd).kindOf x = some .local := by rfl) (hd : (x == ("__debug__" : Str)) = false := by decide) :
    wpAny (model prog w) A (exec (.Expr (.Call (.Attribute (.Name x p1) (Str.ofString "append") p2) [e] [] p3) p4) (lawEnv L f cd)) Q E { s with heap := hp, toks := tk } := by
  refine wpAny_Expr ?_ rfl hsw
  refine wpAny_Call_method_lateS rfl (by rw [hs]; rfl) hline ?_
  refine e_loc Ff hm ?_ rfl hk hd
  refine ⟨"list", "list.append", F.plainAttrs_list, F.slot_list_append, F.type_list_append, ⟨_, hD, rfl⟩, (fun a ea => by cases ea; exact ⟨_, hD, rfl⟩), ?_⟩
  refine callWith_method1 ?_ hs rfl
  rw [hs]
  refine spliced_cons ?_
  refine he _ _ fun v h1 tk1 x1 hP => ?_
  refine spliced_nil ?_
  refine append_at (s := { s with heap := h1, toks := tk1 }) (x1 _ _ hD) (fun h' hs' hD' => ?_) (by rw [List.size_toArray]; exact Nat.le_trans hn (Nat.le_of_ble_eq_true rfl))
  rw [lobj_push] at hD'
  exact k v h1 h' _ x1 hP hs' hD'
end
/-- the law's first loop: rows, twin, powers, power -/
structure S8 where
  (rs : List (Nat × Nat)) (tw : Nat) (ps : List Nat) (pw : Nat)
def step8 (x : S8) (j : Nat) : S8 :=
  { rs := if (lessN (x.pw ^^^ 1 <<< j, 1 <<< (31 - j)) x.rs).1 = 0 then x.rs else x.rs ++ [lessN (x.pw ^^^ 1 <<< j, 1 <<< (31 - j)) x.rs]
    tw := if (lessN (x.pw ^^^ 1 <<< j, 1 <<< (31 - j)) x.rs).1 = 0 then (lessN (x.pw ^^^ 1 <<< j, 1 <<< (31 - j)) x.rs).2 else x.tw
    ps := x.ps ++ [x.pw ^^^ 1 <<< j]
    pw := upN x.pw 8 }
def st8N (pw n : Nat) : S8 := (List.range n).foldl step8 ⟨[], 0, [], pw⟩
theorem st8N_succ (pw n : Nat) : st8N pw (n + 1) = step8 (st8N pw n) n := by
  unfold st8N; rw [List.range_succ, List.foldl_append]; rfl
theorem st8N_len (pw : Nat) : ∀ n, (st8N pw n).rs.length ≤ n ∧ (st8N pw n).ps.length = n
  | 0 => ⟨Nat.le_refl _, rfl⟩
  | n + 1 => by
    have ⟨h1, h2⟩ := st8N_len pw n
    rw [st8N_succ]
    refine ⟨?_, ?_⟩
    · show (if _ then _ else _ : List (Nat × Nat)).length ≤ _
      split
      · omega
      · rw [List.length_append, List.length_singleton]; omega
    · show (_ ++ _ : List Nat).length = _
      rw [List.length_append, h2, List.length_singleton]
def Same8 (m m' : Str → Option Value) : Prop := ∀ z, z ≠ Str.ofString "place" → z ≠ Str.ofString "power" → z ≠ Str.ofString "poly" → z ≠ Str.ofString "row" → z ≠ Str.ofString "twin" → m' z = m z
/-- what holds between the turns of the law's first loop -/
def J8 (L : Addr) (hf : Heap) (o4 : Obj) (R P : Addr) (pw : Nat) (m : Str → Option Value) (i : Nat) (m' : Str → Option Value) (nx : List (Addr × Obj)) : Prop :=
  ∃ hf' nw vs us kR kP, nx = (R, lobj vs kR) :: (P, lobj us kP) :: (L + 1 + 1 + 1 + 1, o4) :: nw ∧ NatsAt us (st8N pw i).ps ∧ Paired (RowAt hf') vs (st8N pw i).rs ∧ Ext hf hf' ∧ (∀ h, Held nw h → Ext hf' h) ∧
    (∀ p ∈ nw, p.1 ≠ R ∧ p.1 ≠ P ∧ p.1 ≠ L + 1 + 1 + 1 + 1) ∧ (∃ t, m' (Str.ofString "twin") = some (vn (st8N pw i).tw t)) ∧ (∃ t, m' (Str.ofString "power") = some (vn (st8N pw i).pw t)) ∧ Same8 m m'
noncomputable def b8 (k : Nat) : Stmt := match ls 8 with
  | .For _ _ b _ _ => b.getD k (.Pass ⟨0, 0, 0, 0⟩)
  | _ => .Pass ⟨0, 0, 0, 0⟩
section
variable {prog : Program} {w : World} {mean : ExcName → Option Value} {mg mb : Str → Option Value} {A : Around} {E : Value → Shared → Prop} {s : Shared} {h₀ hp hf : Heap} {tk : Nat} {L f : Addr} {cd : Value} {m : Str → Option Value} {Q : Flow → Shared → Prop} {o4 : Obj}
theorem chgAt {h h' : Heap} {own rest : List (Addr × Obj)} {d : Addr} {o o' : Obj} (F : Fr h₀ L h m) (N : News h₀ L h (own ++ (d, o) :: rest)) (h1 : ∀ p ∈ own, p.1 ≠ d) (h2 : ∀ p ∈ rest, p.1 ≠ d) (hs : Heap.SameBut d h h') (ho : h'.get? d = some o') :
    Fr h₀ L h' m ∧ News h₀ L h' (own ++ (d, o') :: rest) := by
  have hd := N (d, o) (List.mem_append_right _ (.head _))
  exact ⟨F.change hs hd.2.1 hd.2.2, N.setAt h1 h2 hs ho⟩
set_option maxHeartbeats 2000000 in
theorem st8_fin {R P I : Addr} {oI : Obj} {i pw : Nat} {x : S8} {us vs7 : List Value} {t2 tw : Tok} {kP kR7 : Nat} {hf7 : Heap} {nw7 : List (Addr × Obj)} {m7 : Str → Option Value} {Q' : Flow → Shared → Prop} (g : G w mean mg mb h₀) (hh : A.handled = none) (hroom : A.depth + 1 < recursionLimit)
    (hsucc : st8N pw (i + 1) = step8 x i) (hus : NatsAt us x.ps) (F : Fr h₀ L hp m7) (N : News h₀ L hp ((I, oI) :: (R, lobj vs7 kR7) :: (P, lobj (us ++ [vn (x.pw ^^^ 1 <<< i) t2]) (kP + 1)) :: (L + 1 + 1 + 1 + 1, o4) :: nw7))
    (hvs : Paired (RowAt hf7) vs7 (step8 x i).rs) (hef : Ext hf hf7) (hEw : ∀ h, Held nw7 h → Ext hf7 h) (hnw : ∀ p ∈ nw7, p.1 ≠ R ∧ p.1 ≠ P ∧ p.1 ≠ L + 1 + 1 + 1 + 1) (hnI : ∀ p ∈ nw7, p.1 ≠ I) (hIR : I ≠ R) (hIP : I ≠ P) (hI4 : I ≠ L + 1 + 1 + 1 + 1)
    (htw : ∃ t, m7 (Str.ofString "twin") = some (vn (step8 x i).tw t)) (hw : m7 (Str.ofString "power") = some (vn x.pw tw)) (same : Same8 m m7)
    (done : ∀ h' tk' m₂ nx', Fr h₀ L h' m₂ → News h₀ L h' ((I, oI) :: nx') → (∀ q ∈ nx', q.1 ≠ I) → J8 L hf o4 R P pw m (i + 1) m₂ nx' → Q' .next { s with heap := h', toks := tk' }) :
    wpAny (model prog w) A (execs [b8 3] (lawEnv L f cd)) Q' E { s with heap := hp, toks := tk } := by
  have X := g.X
  refine wpAny_execs_cons ?_
  refine wpAny_Assign_Name ?_ rfl
  refine Call_ ?_
  refine e_glob (g.keeps F.keep) (by k_is) ?_
  refine callWith_K (X.keeps F.keep) (by k_is) ?_
  refine spliced_cons ?_
  refine e_loc F hw ?_
  refine spliced_cons ?_
  show wpAny _ _ (eval _ _) _ _ _
  refine const_n (n := 8) rfl ?_
  intro _ _
  refine spliced_nil ?_
  refine ⟨X.keeps F.keep, ?_⟩
  refine law_up (g.keeps F.keep) (by omega) hh (by decide) ?_
  intro t h2 tk2 x2
  refine e_st (F.keeps x2) (N.grown x2) fun h3 tk3 F3 N3 => ?_
  refine wpAny_execs_nil ?_
  refine done h3 tk3 _ _ F3 N3 (fun q hq => ?_) ⟨hf7, nw7, vs7, us ++ [vn (x.pw ^^^ 1 <<< i) t2], kR7, kP + 1, rfl, ?_, ?_, hef, hEw, hnw, ?_, ?_, fun z h1 h2 h3 h4 h5 => ?_⟩
  · rcases List.mem_cons.mp hq with rfl | hq
    · exact Ne.symm hIR
    · rcases List.mem_cons.mp hq with rfl | hq
      · exact Ne.symm hIP
      · rcases List.mem_cons.mp hq with rfl | hq
        · exact Ne.symm hI4
        · exact hnI q hq
  · rw [hsucc]; exact Paired.snoc hus ⟨t2, rfl⟩
  · rw [hsucc]; exact hvs
  · rw [hsucc]; exact htw
  · rw [hsucc]; exact ⟨t, rfl⟩
  · show (if z = _ then _ else _) = _
    rw [if_neg h2]; exact same z h1 h2 h3 h4 h5
set_option maxHeartbeats 4000000 in
theorem st8 {R P : Addr} {news : List (Addr × Obj)} {pw : Nat} {t0 t1 : Tok} (g : G w mean mg mb h₀) (hh : A.handled = none) (hroom : A.depth + 1 < recursionLimit) (hRP : R ≠ P) (hR4 : R ≠ L + 1 + 1 + 1 + 1) (hP4 : P ≠ L + 1 + 1 + 1 + 1)
    (hnew : ∀ p ∈ news, p.1 ≠ R ∧ p.1 ≠ P ∧ p.1 ≠ L + 1 + 1 + 1 + 1) (hE : ∀ h, Held news h → Ext hf h) (F : Fr h₀ L hp m) (N : News h₀ L hp ((R, lobj [] 0) :: (P, lobj [] 0) :: (L + 1 + 1 + 1 + 1, o4) :: news))
    (hmR : m (Str.ofString "rows") = some (.ref R)) (hmP : m (Str.ofString "powers") = some (.ref P)) (hmt : m (Str.ofString "twin") = some (vn 0 t0)) (hmw : m (Str.ofString "power") = some (vn pw t1))
    (k : ∀ h' tk' m' nx, Fr h₀ L h' m' → News h₀ L h' nx → J8 L hf o4 R P pw m 32 m' nx → Q .next { s with heap := h', toks := tk' }) :
    wpAny (model prog w) A (exec (ls 8) (lawEnv L f cd)) Q E { s with heap := hp, toks := tk } := by
  have X := g.X
  refine for_one (h₀ := h₀) (L := L) rfl hh rfl rfl (J8 L hf o4 R P pw m) ?_
  refine Call_ ?_
  refine e_boot (g.keeps F.keep) (by k_is) (by boot_by_name) (by decide) ?_
  refine Pv.callWith_type1 ?_
  refine spliced_cons ?_
  show wpAny _ _ (eval _ _) _ _ _
  refine const_n (n := 31) rfl ?_
  intro _ _
  refine spliced_cons ?_
  show wpAny _ _ (eval _ _) _ _ _
  refine UnaryOp_ ?_
  refine const_n (n := 1) rfl ?_
  intro _ _
  refine neg_int ?_
  refine spliced_cons ?_
  show wpAny _ _ (eval _ _) _ _ _
  refine UnaryOp_ ?_
  refine const_n (n := 1) rfl ?_
  intro _ _
  refine neg_int ?_
  refine spliced_nil ?_
  refine range3_rows (s := { s with heap := hp, toks := _ }) F N (by decide) ?_
  intro h2 tk2 ta ua va hr F2 N2 ext2
  refine ⟨_, _, _, _, _, _, _, 32, m, _, rfl, hr, by rfl, by rfl, F2, N2, ⟨hf, news, [], [], 0, 0, rfl, .nil, .nil, fun _ _ e => e, hE, hnew, ⟨t0, hmt⟩, ⟨t1, hmw⟩, fun _ _ _ _ _ _ => rfl⟩, fun h' tk' m' nx F' N' hJ => k h' tk' m' nx F' N' hJ, ?_⟩
  rintro i m₁ nx h tk3 I oI t Q' E' hi ⟨hf', nw, vs, us, kR, kP, rfl, hus, hvs, hef, hEw, hnw, ⟨tt, ht⟩, ⟨tw, hw⟩, same⟩ F1 N1 ho done
  dsimp only at done ⊢
  clear hr F2 N2 ext2
  have e31 : (((31 : Nat) : Int) + (i : Int) * -((1 : Nat) : Int)) = ((31 - i : Nat) : Int) := by omega
  rw [e31] at F1
  have hlen := st8N_len pw i
  have hsucc := st8N_succ pw i
  generalize st8N pw i = x at *
  have hrl : vs.length = x.rs.length := Paired.len hvs
  have hpl : us.length = x.ps.length := Paired.len hus
  have hIR : I ≠ R := Ne.symm (ho _ List.mem_cons_self)
  have hIP : I ≠ P := Ne.symm (ho _ (List.mem_cons_of_mem _ List.mem_cons_self))
  have hR1 : m₁ (Str.ofString "rows") = some (.ref R) := (same _ (by decide) (by decide) (by decide) (by decide) (by decide)).trans hmR
  have hP1 : m₁ (Str.ofString "powers") = some (.ref P) := (same _ (by decide) (by decide) (by decide) (by decide) (by decide)).trans hmP
  refine wpAny_execs_cons ?_
  refine app_stmt (fun v h1 => h1 = h ∧ ∃ t, v = vn (x.pw ^^^ 1 <<< i) t) F1 (by exact hP1) (N1 (P, lobj us kP) (by simp)).1 (by omega) rfl rfl ?_ ?_
  · intro Q2 E2 q
    refine wpAny_BinOp ?_
    refine e_loc F1 (by exact hw) ?_
    refine wpAny_BinOp ?_
    refine const_n (n := 1) rfl ?_
    intro _ _
    refine wpAny_BinOp ?_
    refine const_n (n := 31) rfl ?_
    intro _ _
    refine e_loc F1 (by rfl) ?_
    refine sub_int ?_
    have e : ((31 : Nat) : Int) - ((31 - i : Nat) : Int) = (i : Int) := by omega
    rw [e]
    refine shl_n (by decide) (by omega) ?_
    intro _ _
    refine xor_n ?_
    intro t2 tk4
    exact q _ h _ (fun _ _ e => e) ⟨rfl, t2, rfl⟩
  rintro v h1 h2' tk4 _ ⟨rfl, t2, rfl⟩ hs2 hD2
  obtain ⟨F2, N2⟩ := chgAt (own := [(I, oI), (R, lobj vs kR)]) (rest := (L + 1 + 1 + 1 + 1, o4) :: nw) F1 N1 (by
    intro p hp'
    simp only [List.mem_cons, List.not_mem_nil, or_false] at hp'
    rcases hp' with rfl | rfl
    · exact hIP
    · exact hRP) (by
    intro p hp'
    rcases List.mem_cons.mp hp' with rfl | hp'
    · exact Ne.symm hP4
    · exact (hnw p hp').2.1) hs2 hD2
  have N2m : ∀ p ∈ nw, h2'.get? p.1 = some p.2 := fun p hp' => (N2 p (by simp [hp'])).1
  have e2 := hEw h2' N2m
  generalize hp : x.pw ^^^ 1 <<< i = pp at *
  refine wpAny_execs_cons ?_
  refine Assign_Tuple ?_ (by with_unfolding_all rfl) (by with_unfolding_all rfl)
  refine Call_ ?_
  refine e_glob (g.keeps F2.keep) (by k_is) ?_
  refine callWith_K (X.keeps F2.keep) (by k_is) ?_
  refine spliced_cons ?_
  show wpAny _ _ (eval _ _) _ _ _
  refine Subscript_ ?_
  refine e_loc F2 (by exact hP1) ?_
  refine UnaryOp_ ?_
  refine const_n (n := 1) rfl ?_
  intro _ _
  refine neg_int ?_
  refine tail_last (its := us) (x := vn pp t2) rfl ⟨_, (N2 (P, lobj (us ++ [vn pp t2]) (kP + 1)) (by simp)).1, rfl, _, rfl⟩ (by omega) ?_
  refine spliced_cons ?_
  show wpAny _ _ (eval _ _) _ _ _
  refine wpAny_BinOp ?_
  refine const_n (n := 1) rfl ?_
  intro _ _
  refine e_loc F2 (by rfl) ?_
  refine shl_n (by decide) (by omega) ?_
  intro _ _
  refine spliced_cons ?_
  show wpAny _ _ (eval _ _) _ _ _
  refine e_loc F2 (by exact hR1) ?_
  refine spliced_nil ?_
  refine ⟨X.keeps F2.keep, ?_⟩
  refine law_lessened (rs := x.rs) (g.keeps F2.keep) (by omega) hh ⟨_, (N2 (R, lobj vs kR) (by simp)).1, rfl, _, rfl⟩ (Paired.imp (fun _ _ z => RowAt.up z e2) hvs) ?_
  intro T tp tr h3 tk5 x3 hT
  have F3 := F2.keeps x3
  have N3 := N2.grown x3
  refine wpAny_assign_Tuple hh hT rfl rfl fun h4 hx4 => ?_
  have x4 : Ext h3 h4 := fun b o z => hx4 b o (fun q => by have := Heap.lt_size z; rw [q] at this; exact absurd this (Nat.lt_irrefl _)) z
  have F4 := F3.keeps x4
  have N4 := N3.grown x4
  generalize hq : lessN (pp, 1 <<< (31 - i)) x.rs = qq at *
  show wpAny _ A (do holding [vn qq.2 tr] (assign (.Name (Str.ofString "poly") _) (lawEnv L f cd) (vn qq.1 tp)); holding [] (assign (.Name (Str.ofString "row") _) (lawEnv L f cd) (vn qq.2 tr)); pure ()) _ _ _
  refine wpAny_bind (wpAny_holding (wpAny_assign_Name ?_))
  refine e_st F4 N4 fun h5 tk6 F5 N5 => ?_
  refine wpAny_bind (wpAny_holding (wpAny_assign_Name ?_))
  refine e_st F5 N5 fun h6 tk7 F6 N6 => ?_
  refine wpAny_pure ?_
  clear F2 N2 F3 N3 F4 N4 F5 N5 hx4 x4 x3 hT
  have hI4 : I ≠ L + 1 + 1 + 1 + 1 := Ne.symm (ho _ (List.mem_cons_of_mem _ (List.mem_cons_of_mem _ List.mem_cons_self)))
  have hnI : ∀ p ∈ nw, p.1 ≠ I := fun p hp' => ho p (by simp [hp'])
  have hst : step8 x i = { rs := if qq.1 = 0 then x.rs else x.rs ++ [qq], tw := if qq.1 = 0 then qq.2 else x.tw, ps := x.ps ++ [pp], pw := upN x.pw 8 } := by
    unfold step8; rw [hp, hq]
  subst hp
  have e6 := hEw h6 fun p hp' => (N6 p (by simp [hp'])).1
  refine wpAny_execs_cons ?_
  refine wpAny_If ?_
  refine isTrue_plain ?_ rfl
  refine e_loc F6 (by rfl) ?_
  refine truthy_n ?_ ?_
  · intro hne
    rw [if_pos rfl]
    refine wpAny_execs_cons ?_
    refine app_stmt (fun v h1 => v = .ref h6.objs.size ∧ h1 = h6.push { cls := .type "tuple", data := .seq [vn qq.1 tp, vn qq.2 tr].toArray }) F6 (by exact hR1) (N6 (R, lobj vs kR) (by simp)).1 (by omega) rfl rfl ?_ ?_
    · intro Q2 E2 q
      refine Tuple_ ?_
      refine spliced_cons ?_
      refine e_loc F6 (by rfl) ?_
      refine spliced_cons ?_
      refine e_loc F6 (by rfl) ?_
      refine spliced_nil ?_
      refine wpAny_newTuple ?_ (Nat.le_of_ble_eq_true rfl)
      exact q _ _ _ (fun b o e => Heap.get?_push_of_some _ e) ⟨rfl, rfl⟩
    rintro v h7 h8 tk8 x7 ⟨rfl, rfl⟩ hs8 hD8
    have fz : ∀ c o, (c, o) ∈ (I, oI) :: (R, lobj vs kR) :: (P, lobj (us ++ [vn (x.pw ^^^ 1 <<< i) t2]) (kP + 1)) :: (L + 1 + 1 + 1 + 1, o4) :: nw → h6.objs.size ≠ c := fun c o hm e => by
      have q := Heap.lt_size (N6 (c, o) hm).1
      rw [e] at q; exact absurd q (Nat.lt_irrefl _)
    have N7 := N6.push F6 { cls := .type "tuple", data := .seq [vn qq.1 tp, vn qq.2 tr].toArray }
    have F7 := F6.push { cls := .type "tuple", data := .seq [vn qq.1 tp, vn qq.2 tr].toArray }
    generalize hT : h6.objs.size = Tn at *
    generalize hoT : ({ cls := .type "tuple", data := .seq [vn qq.1 tp, vn qq.2 tr].toArray } : Obj) = oT at *
    obtain ⟨F8, N8⟩ := chgAt (own := [(Tn, oT), (I, oI)]) (rest := (P, lobj (us ++ [vn (x.pw ^^^ 1 <<< i) t2]) (kP + 1)) :: (L + 1 + 1 + 1 + 1, o4) :: nw) F7 N7 (by
      intro p hp'
      simp only [List.mem_cons, List.not_mem_nil, or_false] at hp'
      rcases hp' with rfl | rfl
      · exact fz R (lobj vs kR) (by simp)
      · exact hIR) (by
      intro p hp'
      rcases List.mem_cons.mp hp' with rfl | hp'
      · exact Ne.symm hRP
      · rcases List.mem_cons.mp hp' with rfl | hp'
        · exact Ne.symm hR4
        · exact (hnw p hp').1) hs8 hD8
    have N9 : News h₀ L h8 ((I, oI) :: (R, lobj (vs ++ [.ref Tn]) (kR + 1)) :: (P, lobj (us ++ [vn (x.pw ^^^ 1 <<< i) t2]) (kP + 1)) :: (L + 1 + 1 + 1 + 1, o4) :: (Tn, oT) :: nw) := fun p hp' => N8 p (by
      simp only [List.mem_cons, List.mem_append, List.not_mem_nil, or_false] at hp' ⊢
      rcases hp' with h | h | h | h | h | h <;> simp [h])
    obtain ⟨hf7, hh1, hh2⟩ := frozen (led := (Tn, oT) :: nw) (h := h8) fun p hp' => (N9 p (by
      rcases List.mem_cons.mp hp' with h | h <;> simp [h])).1
    have ef : Ext hf' hf7 := hEw hf7 fun p hp' => hh1 p (List.mem_cons_of_mem _ hp')
    refine wpAny_execs_nil ?_
    show wpAny _ _ (execs [b8 3] _) _ _ _
    refine st8_fin (x := x) (hf7 := hf7) (vs7 := vs ++ [.ref Tn]) (tw := tw) g hh hroom hsucc hus F8 N9 ?_ (ext_trans hef ef) hh2 ?_ ?_ hIR hIP hI4 ?_ ?_ ?_ done
    · rw [show (step8 x i).rs = x.rs ++ [qq] from by rw [hst]; exact if_neg hne]
      exact Paired.snoc (Paired.imp (fun _ _ z => RowAt.up z ef) hvs) ⟨Tn, tp, tr, rfl, oT, hh1 _ List.mem_cons_self, by rw [← hoT], _, by rw [← hoT]⟩
    · intro p hp'
      rcases List.mem_cons.mp hp' with rfl | hp'
      · exact ⟨fz R (lobj vs kR) (by simp), fz P (lobj (us ++ [vn (x.pw ^^^ 1 <<< i) t2]) (kP + 1)) (by simp), fz (L + 1 + 1 + 1 + 1) o4 (by simp)⟩
      · exact hnw p hp'
    · intro p hp'
      rcases List.mem_cons.mp hp' with rfl | hp'
      · exact fz I oI (by simp)
      · exact hnI p hp'
    · rw [show (step8 x i).tw = x.tw from by rw [hst]; exact if_neg hne]; exact ⟨tt, ht⟩
    · exact hw
    · intro z h1 h2 h3 h4 h5
      show (if z = _ then _ else if z = _ then _ else if z = _ then _ else _) = _
      rw [if_neg h4, if_neg h3, if_neg h1]
      exact same z h1 h2 h3 h4 h5
  · intro he
    rw [if_neg Bool.false_ne_true]
    refine wpAny_execs_cons ?_
    refine wpAny_Assign_Name ?_ rfl
    refine e_loc F6 (by rfl) ?_
    refine e_st F6 N6 fun h7 tk8 F7 N7 => ?_
    refine wpAny_execs_nil ?_
    show wpAny _ _ (execs [b8 3] _) _ _ _
    refine st8_fin (x := x) (hf7 := hf') (vs7 := vs) (tw := tw) g hh hroom hsucc hus F7 N7 ?_ hef hEw hnw hnI hIR hIP hI4 ?_ ?_ ?_ done
    · rw [show (step8 x i).rs = x.rs from by rw [hst]; exact if_pos he]; exact hvs
    · rw [show (step8 x i).tw = qq.2 from by rw [hst]; exact if_pos he]; exact ⟨_, rfl⟩
    · exact hw
    · intro z h1 h2 h3 h4 h5
      show (if z = _ then _ else if z = _ then _ else if z = _ then _ else if z = _ then _ else _) = _
      rw [if_neg h5, if_neg h4, if_neg h3, if_neg h1]
      exact same z h1 h2 h3 h4 h5
end
theorem J8.kq {h₀ hf h : Heap} {L : Addr} {o4 : Obj} {R P : Addr} {pw i : Nat} {m m' : Str → Option Value} {nx : List (Addr × Obj)} (J : J8 L hf o4 R P pw m i m' nx) (F : Fr h₀ L h m') (N : News h₀ L h nx) (hR4 : R ≠ L + 1 + 1 + 1 + 1) (hP4 : P ≠ L + 1 + 1 + 1 + 1) :
    ∃ hf' vs us, Ext hf hf' ∧ hf'.IsList R (List.toArray vs) ∧ hf'.IsList P (List.toArray us) ∧ NatsAt us (st8N pw i).ps ∧ Paired (RowAt hf') vs (st8N pw i).rs ∧ Kq h₀ L o4 hf' h m' ∧ (∃ t, m' (Str.ofString "twin") = some (vn (st8N pw i).tw t)) ∧ Same8 m m' := by
  obtain ⟨hf', nw, vs, us, kR, kP, rfl, hus, hvs, hef, hEw, hnw, ht, _, same⟩ := J
  have N' : News h₀ L h ((L + 1 + 1 + 1 + 1, o4) :: (R, lobj vs kR) :: (P, lobj us kP) :: nw) := fun p hp => N p (by
    simp only [List.mem_cons] at hp ⊢
    rcases hp with h | h | h | h <;> simp [h])
  obtain ⟨hf2, q1, q2⟩ := Kq.make F N' (fun p hp => by
    simp only [List.mem_cons] at hp
    rcases hp with rfl | rfl | hp
    · exact hR4
    · exact hP4
    · exact (hnw p hp).2.2)
  have e2 : Ext hf' hf2 := hEw hf2 fun p hp => q1 p (by simp [hp])
  exact ⟨hf2, vs, us, ext_trans hef e2, ⟨_, q1 (R, lobj vs kR) (by simp), rfl, _, rfl⟩, ⟨_, q1 (P, lobj us kP) (by simp), rfl, _, rfl⟩, hus, Paired.imp (fun _ _ z => RowAt.up z e2) hvs, q2, ht, same⟩
section
variable {prog : Program} {w : World} {mean : ExcName → Option Value} {mg mb : Str → Option Value} {A : Around} {E : Value → Shared → Prop} {s : Shared} {h₀ hp hf : Heap} {tk : Nat} {L f : Addr} {cd : Value} {m : Str → Option Value} {Q : Flow → Shared → Prop} {o4 : Obj}
theorem EvS.noughts {x : Str} {z : Int} {k1 k2 : Nat} {p p1 p2 : Pos} (hx : x = strL [48]) (hz : z = ((32 : Nat) : Int)) : EvS prog w A s h₀ hf o4 L f cd m (.BinOp (.Constant (.str x) k1 p1) .Mult (.Constant (.int z) k2 p2) p) (List.replicate 32 48) := by
  intro hp tk Q E K q
  subst hx
  refine wpAny_BinOp ?_
  refine con_s rfl fun t tk1 => ?_
  refine const_n hz ?_
  intro u tk2
  refine SB.mul (s := { s with heap := hp, toks := tk2 }) (mulOk_of 1 32 (by decide) (by decide) (by decide) (by decide) (by decide)) fun t' k => ?_
  have e : Txt.mul (strL [48]) ((32 : Nat) : Int) = strL (List.replicate 32 48) := by decide +kernel
  rw [e]; exact q _ _
def bareN (fr en : List Nat) : Nat := alongN 4294967295 (octs (utf8L (fr ++ List.replicate 32 48 ++ en))) ^^^ 4294967295
set_option maxHeartbeats 2000000 in
theorem st9 {fr en : List Nat} {t1 t2 : Tok} (g : G w mean mg mb h₀) (hh : A.handled = none) (hroom : A.depth + 1 < recursionLimit) (K : Kq h₀ L o4 hf hp m) (hf1 : m (Str.ofString "front") = some (.str (strL fr) t1)) (he1 : m (Str.ofString "end") = some (.str (strL en) t2))
    (hs1 : ∀ c ∈ fr, Str.isSurrogate c = false) (hs2 : ∀ c ∈ en, Str.isSurrogate c = false) (hl1 : fr.length ≤ 100) (hl2 : en.length ≤ 100)
    (k : ∀ h' tk' t, Kq h₀ L o4 hf h' (fun z => if z = Str.ofString "bare" then some (vn (bareN fr en) t) else m z) → Q .next { s with heap := h', toks := tk' }) :
    wpAny (model prog w) A (exec (ls 9) (lawEnv L f cd)) Q E { s with heap := hp, toks := tk } := by
  have hs : ∀ c ∈ fr ++ List.replicate 32 48 ++ en, Str.isSurrogate c = false := fun c hc => by
    rcases List.mem_append.mp hc with hc | hc
    · rcases List.mem_append.mp hc with hc | hc
      · exact hs1 c hc
      · rw [List.eq_of_mem_replicate hc]; decide
    · exact hs2 c hc
  exact ev_assign (a := bareN fr en) K (Ev.xor (ev_alongB g (by omega) hh (Ev.con (a := 4294967295) rfl) (EvB.enc rfl rfl hs (by simp; omega) (EvS.add (by simp; omega) (EvS.add (by simp; omega) (EvS.name hf1) (EvS.noughts (by decide +kernel) rfl)) (EvS.name he1))) rfl rfl) (Ev.con (a := 4294967295) rfl)) k
set_option maxHeartbeats 2000000 in
theorem st10 {R : Addr} {bare : Nat} {tb : Tok} {vs : List Value} {rs : List (Nat × Nat)} (g : G w mean mg mb h₀) (hh : A.handled = none) (hroom : A.depth + 1 < recursionLimit) (K : Kq h₀ L o4 hf hp m) (hb : m (Str.ofString "bare") = some (vn bare tb)) (hR : m (Str.ofString "rows") = some (.ref R)) (hl : hf.IsList R vs.toArray) (hr : Paired (RowAt hf) vs rs)
    (k : ∀ h' tk' t u, Kq h₀ L o4 hf h' (fun z => if z = Str.ofString "near" then some (vn (lessN (bare, 0) rs).2 u) else if z = Str.ofString "rest" then some (vn (lessN (bare, 0) rs).1 t) else m z) → Q .next { s with heap := h', toks := tk' }) :
    wpAny (model prog w) A (exec (ls 10) (lawEnv L f cd)) Q E { s with heap := hp, toks := tk } := by
  have e0 := K.e
  obtain ⟨F, ⟨news, N, hn4, hE⟩⟩ := K
  have X := g.X
  refine Assign_Tuple ?_ (by with_unfolding_all rfl) (by with_unfolding_all rfl)
  refine Call_ ?_
  refine e_glob (g.keeps F.keep) (by k_is) ?_
  refine callWith_K (X.keeps F.keep) (by k_is) ?_
  refine spliced_cons ?_
  refine e_loc F hb ?_
  refine spliced_cons ?_
  show wpAny _ _ (eval _ _) _ _ _
  refine const_n (n := 0) rfl ?_
  intro _ _
  refine spliced_cons ?_
  show wpAny _ _ (eval _ _) _ _ _
  refine e_loc F hR ?_
  refine spliced_nil ?_
  refine ⟨X.keeps F.keep, ?_⟩
  refine law_lessened (rs := rs) (g.keeps F.keep) (by omega) hh (IsList.at' hl e0) (Paired.imp (fun _ _ z => RowAt.up z e0) hr) ?_
  intro T tp tr h3 tk5 x3 hT
  refine wpAny_assign_Tuple hh hT rfl rfl fun h4 hx4 => ?_
  have x4 : Ext h3 h4 := fun b o z => hx4 b o (fun q => by have := Heap.lt_size z; rw [q] at this; exact absurd this (Nat.lt_irrefl _)) z
  have F4 := (F.keeps x3).keeps x4
  have N4 := (N.grown x3).grown x4
  show wpAny _ A (do holding [vn (lessN (bare, 0) rs).2 tr] (assign (.Name (Str.ofString "rest") _) (lawEnv L f cd) (vn (lessN (bare, 0) rs).1 tp)); holding [] (assign (.Name (Str.ofString "near") _) (lawEnv L f cd) (vn (lessN (bare, 0) rs).2 tr)); pure ()) _ _ _
  refine wpAny_bind (wpAny_holding (wpAny_assign_Name ?_))
  refine e_st F4 N4 fun h5 tk6 F5 N5 => ?_
  refine wpAny_bind (wpAny_holding (wpAny_assign_Name ?_))
  refine e_st F5 N5 fun h6 tk7 F6 N6 => ?_
  refine wpAny_pure ?_
  exact k h6 _ tp tr ⟨F6, news, N6, hn4, hE⟩
set_option maxHeartbeats 2000000 in
theorem st11 {D : Addr} {bs : List Value} (g : G w mean mg mb h₀) (hh : A.handled = none) (K : Kq h₀ L o4 hf hp m) (hm : m (Str.ofString "own") = some (.ref D)) (hD : hf.IsList D bs.toArray) (hbi : ∀ v ∈ bs, IsInt v)
    (k : ∀ h' tk' n t, n < 2 ^ 32 → Kq h₀ L o4 hf h' (fun z => if z = Str.ofString "third" then some (vn n t) else m z) → Q .next { s with heap := h', toks := tk' }) :
    wpAny (model prog w) A (exec (ls 11) (lawEnv L f cd)) Q E { s with heap := hp, toks := tk } := by
  have e0 := K.e
  have K0 := K
  obtain ⟨F, ⟨news, N, hn4, hE⟩⟩ := K
  refine wpAny_Assign_Name ?_ rfl
  refine wpAny_BinOp ?_
  refine wpAny_BinOp ?_
  refine wpAny_BinOp ?_
  refine Call_ ?_
  refine e_boot (g.keeps F.keep) (by k_is) (by boot_by_name) (by decide) ?_
  refine callWith_method1 ?_
  refine spliced_cons ?_
  refine e_loc F hm ?_
  refine spliced_nil ?_
  refine sum_ext hh (IsList.at' hD e0) (fun v hv => hbi v (by simpa using hv)) ?_
  intro z t h2 tk2 x2
  refine wpAny_BinOp ?_
  refine const_n (n := 2) rfl ?_
  intro _ _
  refine const_n (n := 32) rfl ?_
  intro _ _
  refine pow_n (by decide) (by decide) ?_
  intro _ _
  refine mod_n (by decide) ?_
  intro c t3 tk3 hc _
  refine const_n (n := 2654435761) rfl ?_
  intro _ _
  refine mul_n (by omega) ?_
  intro _ _
  refine wpAny_BinOp ?_
  refine const_n (n := 2) rfl ?_
  intro _ _
  refine const_n (n := 32) rfl ?_
  intro _ _
  refine pow_n (by decide) (by decide) ?_
  intro _ _
  refine mod_n (by decide) ?_
  intro d t4 tk4 hd _
  refine e_st (F.keeps x2) (N.grown x2) fun h5 tk6 F5 N5 => ?_
  exact k h5 _ d t4 hd ⟨F5, news, N5, hn4, hE⟩
end
def addN (third : Nat) (ps : List Nat) (a n : Nat) : Nat := (List.range n).foldl (fun a i => if third >>> i &&& 1 = 0 then a ^^^ 0 else a ^^^ ps.getD (31 - i) 0) a
theorem addN_succ (third : Nat) (ps : List Nat) (a n : Nat) : addN third ps a (n + 1) = if third >>> n &&& 1 = 0 then addN third ps a n ^^^ 0 else addN third ps a n ^^^ ps.getD (31 - n) 0 := by
  unfold addN; rw [List.range_succ, List.foldl_append]; rfl
section
variable {prog : Program} {w : World} {mean : ExcName → Option Value} {mg mb : Str → Option Value} {A : Around} {E : Value → Shared → Prop} {s : Shared} {h₀ hp hf : Heap} {tk : Nat} {L f : Addr} {cd : Value} {m : Str → Option Value} {Q : Flow → Shared → Prop} {o4 : Obj}
set_option maxHeartbeats 2000000 in
theorem st12 {P : Addr} {us : List Value} {ps : List Nat} {third bare : Nat} {t1 t2 : Tok} (g : G w mean mg mb h₀) (hh : A.handled = none) (K : Kq h₀ L o4 hf hp m) (hP : m (Str.ofString "powers") = some (.ref P)) (hl : hf.IsList P us.toArray) (hus : NatsAt us ps) (hpl : ps.length = 32)
    (h3 : m (Str.ofString "third") = some (vn third t1)) (hb : m (Str.ofString "bare") = some (vn bare t2))
    (k : ∀ h' tk' m' t, m' (Str.ofString "bare") = some (vn (addN third ps bare 32) t) → (∀ z, z ≠ Str.ofString "place" → z ≠ Str.ofString "bare" → m' z = m z) → Kq h₀ L o4 hf h' m' → Q .next { s with heap := h', toks := tk' }) :
    wpAny (model prog w) A (exec (ls 12) (lawEnv L f cd)) Q E { s with heap := hp, toks := tk } := by
  obtain ⟨F, ⟨news, N, hn4, hE⟩⟩ := K
  refine for_one (h₀ := h₀) (L := L) rfl hh rfl rfl (fun i m' nx => nx = (L + 1 + 1 + 1 + 1, o4) :: news ∧ (∃ t, m' (Str.ofString "bare") = some (vn (addN third ps bare i) t)) ∧ ∀ z, z ≠ Str.ofString "place" → z ≠ Str.ofString "bare" → m' z = m z) ?_
  refine Call_ ?_
  refine e_boot (g.keeps F.keep) (by k_is) (by boot_by_name) (by decide) ?_
  refine Pv.callWith_type1 ?_
  refine spliced_cons ?_
  show wpAny _ _ (eval _ _) _ _ _
  refine const_n (n := 32) rfl ?_
  intro _ _
  refine spliced_nil ?_
  refine range1_rows (s := { s with heap := hp, toks := _ }) F N ?_
  intro h2 tk2 ta ua va hr F2 N2 ext2
  refine ⟨_, _, _, _, _, _, _, 32, m, _, rfl, hr, by rfl, by rfl, F2, N2, ⟨rfl, ⟨t2, hb⟩, fun _ _ _ => rfl⟩, ?_, ?_⟩
  · rintro h' tk' m' nx F' N' ⟨rfl, ⟨t, ht⟩, same⟩
    exact k h' tk' m' t ht same ⟨F', news, N', hn4, hE⟩
  rintro i m₁ nx h tk3 I oI t Q' E' hi ⟨rfl, ⟨tb, htb⟩, same⟩ F1 N1 ho done
  dsimp only at done ⊢
  clear hr F2 N2 ext2
  have e1 : Ext hf h := hE h fun p hp' => (N1 p (by simp [hp'])).1
  have ei : ((0 : Int) + (i : Int) * 1) = (i : Int) := by omega
  rw [ei] at F1
  have h3' : m₁ (Str.ofString "third") = some (vn third t1) := (same _ (by decide) (by decide)).trans h3
  have hP' : m₁ (Str.ofString "powers") = some (.ref P) := (same _ (by decide) (by decide)).trans hP
  obtain ⟨pv, hpv⟩ : ∃ p, ps[31 - i]? = some p := ⟨ps[31 - i]'(by omega), by simp⟩
  obtain ⟨v, hv, tv, rfl⟩ := Paired.at hus hpv
  have fin : ∀ (a : Nat) h' tk' t', a = addN third ps bare (i + 1) → Fr h₀ L h' (fun y => if y = Str.ofString "bare" then some (vn a t') else if y = Str.ofString "place" then some (vn i t) else m₁ y) → News h₀ L h' ((I, oI) :: (L + 1 + 1 + 1 + 1, o4) :: news) → Q' .next { s with heap := h', toks := tk' } := by
    intro a h' tk' t' ea F' N'
    subst ea
    refine done h' tk' _ _ F' N' ho ⟨rfl, ⟨t', rfl⟩, fun z z1 z2 => ?_⟩
    show (if z = _ then _ else if z = _ then _ else _) = _
    rw [if_neg z2, if_neg z1]; exact same z z1 z2
  refine wpAny_execs_cons ?_
  refine wpAny_AugAssign_Name ?_
  refine ldnLoc F1 (by exact htb) ?_
  refine wpAny_IfExp ?_
  refine isTrue_plain ?_ rfl
  refine wpAny_BinOp ?_
  refine wpAny_BinOp ?_
  refine e_loc F1 (by exact h3') ?_
  refine e_loc F1 (by rfl) ?_
  refine shr_n ?_
  intro _ _
  refine const_n (n := 1) rfl ?_
  intro _ _
  refine and_n ?_
  intro _ _
  refine truthy_n ?_ ?_
  · intro hne
    rw [if_pos rfl]
    refine Subscript_ ?_
    refine e_loc F1 (by exact hP') ?_
    refine wpAny_BinOp ?_
    refine const_n (n := 31) rfl ?_
    intro _ _
    refine e_loc F1 (by rfl) ?_
    refine sub_int ?_
    have e : ((31 : Nat) : Int) - (i : Int) = ((31 - i : Nat) : Int) := by omega
    rw [e]
    refine tail_list (IsList.at' hl e1) hv (by omega) ?_
    refine ixor_n ?_
    intro t' _
    refine e_st F1 N1 fun h5 tk6 F5 N5 => ?_
    refine wpAny_execs_nil ?_
    refine fin _ h5 tk6 t' ?_ F5 N5
    rw [addN_succ, if_neg hne, List.getD_eq_getElem?_getD, hpv]; rfl
  · intro he
    rw [if_neg Bool.false_ne_true]
    refine const_n (n := 0) rfl ?_
    intro _ _
    refine ixor_n ?_
    intro t' _
    refine e_st F1 N1 fun h5 tk6 F5 N5 => ?_
    refine wpAny_execs_nil ?_
    refine fin _ h5 tk6 t' ?_ F5 N5
    rw [addN_succ, if_pos he]
end
/-- a row's digits -/
def dig (a : Nat) : List Nat := (List.range 32).map fun p => 48 + (a >>> p &&& 1)
noncomputable def b13 (k : Nat) : Stmt := match ls 13 with
  | .For _ _ b _ _ => b.getD k (.Pass ⟨0, 0, 0, 0⟩)
  | _ => .Pass ⟨0, 0, 0, 0⟩
section
variable {prog : Program} {w : World} {mean : ExcName → Option Value} {mg mb : Str → Option Value} {A : Around} {E : Value → Shared → Prop} {s : Shared} {h₀ hp hf : Heap} {tk : Nat} {L f : Addr} {cd : Value} {m : Str → Option Value} {Q : Flow → Shared → Prop} {o4 : Obj}
set_option maxHeartbeats 2000000 in
theorem t1 {a : Nat} {t : Tok} {I : Addr} {oI : Obj} {nw : List (Addr × Obj)} (g : G w mean mg mb h₀) (hh : A.handled = none) (F : Fr h₀ L hp m) (N : News h₀ L hp ((I, oI) :: (L + 1 + 1 + 1 + 1, o4) :: nw)) (d4 : o4.data = .cell (some (vn a t)))
    (k : ∀ h' tk' t', Fr h₀ L h' (fun z => if z = Str.ofString "digits" then some (.str (strL (dig a)) t') else m z) → News h₀ L h' ((I, oI) :: (L + 1 + 1 + 1 + 1, o4) :: nw) → Q .next { s with heap := h', toks := tk' }) :
    wpAny (model prog w) A (exec (b13 0) (lawEnv L f cd)) Q E { s with heap := hp, toks := tk } := by
  have X := g.X
  refine wpAny_Assign_Name ?_ rfl
  refine join_call (by decide +kernel) rfl rfl ?_
  intro tk0
  dsimp only
  refine comp_eval (h₀ := h₀) (L := L) (m := m) (news := (I, oI) :: (L + 1 + 1 + 1 + 1, o4) :: nw) hh ?_ rfl (by decide) rfl (by decide) rfl (fun _ => rfl)
  refine Call_ ?_
  refine e_boot (g.keeps F.keep) (by k_is) (by boot_by_name) (by decide) ?_
  refine Pv.callWith_type1 ?_
  refine spliced_cons ?_
  show wpAny _ _ (eval _ _) _ _ _
  refine const_n (n := 32) rfl ?_
  intro _ _
  refine spliced_nil ?_
  refine range1_rows (s := { s with heap := hp, toks := _ }) F N ?_
  intro h2 tk2 ta ua va hr F2 N2 ext2
  refine SrcOk.vals (fun i y => ∃ t, y = .str ⟨#[48 + (a >>> i &&& 1)]⟩ t) (iterOf_range (n := 32) hr (by rfl) (by rfl)) F2 N2 (Nat.le_of_ble_eq_true rfl) ?_ ?_
  · rintro j v C2 m₃ h3 tk3 E3 hj ⟨t, rfl⟩ ext3 hC2 hn2 hx2 F N
    refine Subscript_ ?_
    refine con_s (cs := [48, 49]) (by decide +kernel) ?_
    intro t5 tk5
    refine wpAny_BinOp ?_
    refine wpAny_BinOp ?_
    refine c_cell (c := L + 1 + 1 + 1 + 1) (cell_at N (by simp) d4) rfl ?_
    refine c_own hn2 hx2 ?_
    refine shr_n ?_
    intro _ _
    refine const_n (n := 1) rfl ?_
    intro _ _
    refine and_n ?_
    intro t6 tk6
    have hb : a >>> j &&& 1 = 0 ∨ a >>> j &&& 1 = 1 := by
      have : a >>> j &&& 1 ≤ 1 := Nat.and_le_right
      omega
    rcases hb with hb | hb <;> rw [hb]
    · walk1
      exact ⟨h3, _, rfl, fun _ _ e => e, _, rfl⟩
    · walk1
      exact ⟨h3, _, rfl, fun _ _ e => e, _, rfl⟩
  · intro ys2 led hyl2 hys2 D2 h3 tk3 ext3 F3 N3 fr3
    refine ⟨D2, ys2, dig a, rfl, ⟨_, (fr3 (D2, lstO ys2) (by simp)).1, rfl, _, rfl⟩, paired_fn _ hyl2 hys2, by simp [dig], fun t k' => ?_⟩
    have N4 : News h₀ L h3 ((I, oI) :: (L + 1 + 1 + 1 + 1, o4) :: nw) := fun p hp => N3 p (by simp only [List.mem_cons, List.mem_append] at hp ⊢; rcases hp with h | h | h <;> simp [h])
    exact e_st F3 N4 fun h5 tk6 F5 N5 => k h5 tk6 t F5 N5
set_option maxHeartbeats 2000000 in
theorem t2 {a1 a2 dd : List Nat} {kk : Nat} {tt1 tt2 tt3 : Tok} {nx : List (Addr × Obj)} (g : G w mean mg mb h₀) (hroom : A.depth + 1 < recursionLimit) (F : Fr h₀ L hp m) (N : News h₀ L hp nx)
    (hw : m (Str.ofString "writer") = some (.ref (escA kk))) (h1 : m (Str.ofString "ahead") = some (.str (strL a1) tt1)) (h2 : m (Str.ofString "behind") = some (.str (strL a2) tt2)) (h3 : m (Str.ofString "digits") = some (.str (strL dd) tt3)) (l1 : a1.length ≤ 8) (l2 : a2.length ≤ 8) (l3 : dd.length = 32)
    (k : ∀ h' tk' t', Fr h₀ L h' (fun z => if z = Str.ofString "writing" then some (.str (strL (escN (escT kk) (a1 ++ dd ++ a2))) t') else m z) → News h₀ L h' nx → Q .next { s with heap := h', toks := tk' }) :
    wpAny (model prog w) A (exec (b13 1) (lawEnv L f cd)) Q E { s with heap := hp, toks := tk } := by
  have X := g.X
  refine wpAny_Assign_Name ?_ rfl
  refine Call_ ?_
  refine e_loc F hw ?_
  refine callWith_K (X.keeps F.keep) (keep_esc w kk) ?_
  refine spliced_cons ?_
  show wpAny _ _ (eval _ _) _ _ _
  refine wpAny_BinOp ?_
  refine wpAny_BinOp ?_
  refine e_loc F h1 ?_
  refine e_loc F h3 ?_
  refine add_cs (by omega) fun _ _ => ?_
  refine e_loc F h2 ?_
  refine add_cs (by rw [List.length_append]; omega) fun _ _ => ?_
  refine spliced_nil ?_
  refine ⟨X.keeps F.keep, ?_⟩
  refine esc_any (g.keeps F.keep) (by omega) (by rw [List.length_append, List.length_append]; omega) fun t h' tk' ext => ?_
  exact e_st (F.keeps ext) (N.grown ext) fun h5 tk6 F5 N5 => k h5 tk6 t F5 N5
set_option maxHeartbeats 2000000 in
theorem t3 {ws : List Nat} {tt1 : Tok} {nx : List (Addr × Obj)} (g : G w mean mg mb h₀) (hh : A.handled = none) (hroom : A.depth + 1 < recursionLimit) (F : Fr h₀ L hp m) (N : News h₀ L hp nx)
    (hw : m (Str.ofString "writing") = some (.str (strL ws) tt1)) (hs : ∀ c ∈ ws, Str.isSurrogate c = false) (hl : ws.length ≤ 1000)
    (k : ∀ h' tk' t', Fr h₀ L h' (fun z => if z = Str.ofString "told" then some (vn (sumR (octs (utf8L ws)) ^^^ 4294967295) t') else m z) → News h₀ L h' nx → Q .next { s with heap := h', toks := tk' }) :
    wpAny (model prog w) A (exec (b13 2) (lawEnv L f cd)) Q E { s with heap := hp, toks := tk } := by
  have X := g.X
  refine wpAny_Assign_Name ?_ rfl
  refine Call_ ?_
  refine e_glob (g.keeps F.keep) (by k_is) ?_
  refine callWith_K (X.keeps F.keep) (by k_is) ?_
  refine spliced_cons ?_
  show wpAny _ _ (eval _ _) _ _ _
  refine Call_method0 rfl rfl ?_
  refine e_loc F hw ?_
  refine ⟨"str", "str.encode", _root_.PySem.F.plainAttrs_str, _root_.PySem.F.slot_str_encode, _root_.PySem.F.type_str_encode, typeIs_str _ _ _, GM.noRef, ?_⟩
  refine callWith_builtin rfl (PySem.evalArgs_none ?_)
  refine encode_call (s := { s with heap := hp, toks := tk }) hs hl fun t2 k2 => ?_
  refine spliced_nil ?_
  refine ⟨X.keeps F.keep, ?_⟩
  refine law_sum (g.keeps F.keep) hroom hh ?_
  intro t h' tk' ext
  exact e_st (F.keeps ext) (N.grown ext) fun h5 tk6 F5 N5 => k h5 tk6 t F5 N5
set_option maxHeartbeats 2000000 in
theorem t4 {fr dd en : List Nat} {told a due : Nat} {t1 t2 t3 t4 t5 t6 t7 : Tok} {I : Addr} {oI : Obj} {nw : List (Addr × Obj)} (g : G w mean mg mb h₀) (hh : A.handled = none) (hroom : A.depth + 1 < recursionLimit) (F : Fr h₀ L hp m) (N : News h₀ L hp ((I, oI) :: (L + 1 + 1 + 1 + 1, o4) :: nw)) (d4 : o4.data = .cell (some (vn a t7)))
    (hw : m (Str.ofString "writing") = some (.str (strL (fr ++ dd ++ en)) t1)) (h1 : m (Str.ofString "front") = some (.str (strL fr) t2)) (h2 : m (Str.ofString "digits") = some (.str (strL dd) t3)) (h3 : m (Str.ofString "end") = some (.str (strL en) t4)) (ht : m (Str.ofString "told") = some (vn told t5)) (hd : m (Str.ofString "due") = some (vn due t6))
    (hl : fr.length + dd.length + en.length ≤ 1000) (ok : turnedN (told ^^^ a) = due)
    (k : ∀ h' tk', Fr h₀ L h' m → News h₀ L h' ((I, oI) :: (L + 1 + 1 + 1 + 1, o4) :: nw) → Q .next { s with heap := h', toks := tk' }) :
    wpAny (model prog w) A (exec (b13 3) (lawEnv L f cd)) Q E { s with heap := hp, toks := tk } := by
  have X := g.X
  refine wpAny_If ?_
  refine isTrue_or ?_
  refine wpAny_isTrue_Compare1 ?_
  refine e_loc F hw ?_
  refine wpAny_BinOp ?_
  refine wpAny_BinOp ?_
  refine e_loc F h1 ?_
  refine e_loc F h2 ?_
  refine add_cs (by omega) fun _ _ => ?_
  refine e_loc F h3 ?_
  refine add_cs (by rw [List.length_append]; omega) fun _ _ => ?_
  refine ne_str ?_
  refine wpAny_truthy_bool ?_
  have eqq : (strL (fr ++ dd ++ en) != strL (fr ++ dd ++ en)) = false := bne_self_eq_false _
  rw [eqq, if_neg Bool.false_ne_true]
  refine isTrue_or ?_
  refine wpAny_isTrue_Compare1 ?_
  refine e_loc F ht ?_
  refine const_n (n := 0) rfl ?_
  intro _ _
  refine lt_int ?_
  refine wpAny_truthy_bool ?_
  have e0 : decide (((told : Nat) : Int) < ((0 : Nat) : Int)) = false := decide_eq_false (by omega)
  rw [e0, if_neg Bool.false_ne_true]
  refine isTrue_or ?_
  refine wpAny_isTrue_Compare1 ?_
  refine Call_ ?_
  refine e_glob (g.keeps F.keep) (by k_is) ?_
  refine callWith_K (X.keeps F.keep) (by k_is) ?_
  refine spliced_cons ?_
  show wpAny _ _ (eval _ _) _ _ _
  refine wpAny_BinOp ?_
  refine e_loc F ht ?_
  refine e_cell (c := L + 1 + 1 + 1 + 1) (cell_at (a := L + 1 + 1 + 1 + 1) N (by simp) d4) ?_
  refine xor_n ?_
  intro _ _
  refine spliced_nil ?_
  refine ⟨X.keeps F.keep, ?_⟩
  refine law_turned (g.keeps F.keep) (by omega) hh ?_
  intro t h' tk' ext
  refine e_loc (F.keeps ext) hd ?_
  rw [ok]
  refine ne_int ?_
  refine wpAny_truthy_bool ?_
  rw [show (((due : Nat) : Int) != ((due : Nat) : Int)) = false from bne_self_eq_false _, if_neg Bool.false_ne_true]
  refine isTrue_or_nil ?_
  rw [if_neg Bool.false_ne_true]
  refine wpAny_execs_nil ?_
  exact k h' tk' (F.keeps ext) (N.grown ext)
end
def Same13 (m m' : Str → Option Value) : Prop := ∀ z, z ≠ Str.ofString "due" → z ≠ Str.ofString "digits" → z ≠ Str.ofString "writing" → z ≠ Str.ofString "told" → m' z = m z
theorem News.rot {h₀ h : Heap} {L : Addr} {x0 x1 x2 x3 c : Addr × Obj} {tl : List (Addr × Obj)} (N : News h₀ L h (x3 :: x2 :: x1 :: x0 :: c :: tl)) : News h₀ L h (c :: x3 :: x2 :: x1 :: x0 :: tl) := fun p hp => N p (by
  simp only [List.mem_cons] at hp ⊢
  rcases hp with h | h | h | h | h | h <;> simp [h])
theorem rot_ne {c : Addr} {x0 x1 x2 x3 : Addr × Obj} {tl : List (Addr × Obj)} (h3 : x3.1 ≠ c) (h2 : x2.1 ≠ c) (h1 : x1.1 ≠ c) (h0 : x0.1 ≠ c) (ht : ∀ p ∈ tl, p.1 ≠ c) : ∀ p ∈ x3 :: x2 :: x1 :: x0 :: tl, p.1 ≠ c := by
  intro p hp
  simp only [List.mem_cons] at hp
  rcases hp with h | h | h | h | h
  · rw [h]; exact h3
  · rw [h]; exact h2
  · rw [h]; exact h1
  · rw [h]; exact h0
  · exact ht p h
theorem ne_of_lt' {a b : Nat} (h : a < b) : b ≠ a := fun e => by omega
section
variable {prog : Program} {w : World} {mean : ExcName → Option Value} {mg mb : Str → Option Value} {A : Around} {E : Value → Shared → Prop} {s : Shared} {h₀ hp hf : Heap} {tk : Nat} {L f : Addr} {cd : Value} {m : Str → Option Value} {Q : Flow → Shared → Prop} {o4 : Obj}
set_option maxHeartbeats 4000000 in
theorem st13 {a1 a2 fr en : List Nat} {kk near twin rest third bare : Nat} {ta tb tf te tn tw tr tt tx : Tok} (g : G w mean mg mb h₀) (hh : A.handled = none) (hroom : A.depth + 1 < recursionLimit) (K : Kq h₀ L o4 hf hp m) (d4 : ∃ v, o4.data = .cell v)
    (hw : m (Str.ofString "writer") = some (.ref (escA kk))) (h1 : m (Str.ofString "ahead") = some (.str (strL a1) ta)) (h2 : m (Str.ofString "behind") = some (.str (strL a2) tb)) (h3 : m (Str.ofString "front") = some (.str (strL fr) tf)) (h4 : m (Str.ofString "end") = some (.str (strL en) te))
    (h5 : m (Str.ofString "near") = some (vn near tn)) (h6 : m (Str.ofString "twin") = some (vn twin tw)) (h7 : m (Str.ofString "rest") = some (vn rest tr)) (h8 : m (Str.ofString "third") = some (vn third tt)) (h9 : m (Str.ofString "bare") = some (vn bare tx))
    (l1 : a1.length ≤ 8) (l2 : a2.length ≤ 8) (l3 : fr.length ≤ 100) (l4 : en.length ≤ 100) (s3 : ∀ c ∈ fr, Str.isSurrogate c = false) (s4 : ∀ c ∈ en, Str.isSurrogate c = false)
    (hesc : ∀ a, escN (escT kk) (a1 ++ dig a ++ a2) = fr ++ dig a ++ en)
    (ok : ∀ p ∈ [(near, rest), (near ^^^ twin, rest), (third, bare)], turnedN ((sumR (octs (utf8L (fr ++ dig p.1 ++ en))) ^^^ 4294967295) ^^^ p.1) = p.2)
    (k : ∀ h' tk' m', Fr h₀ L h' m' → Q .next { s with heap := h', toks := tk' }) :
    wpAny (model prog w) A (exec (ls 13) (lawEnv L f cd)) Q E { s with heap := hp, toks := tk } := by
  obtain ⟨F, ⟨news, N, hn4, hE⟩⟩ := K
  have X := g.X
  have ldig : ∀ a, (dig a).length = 32 := fun a => by simp [dig]
  have sdig : ∀ a, ∀ c ∈ dig a, Str.isSurrogate c = false := fun a c hc => by
    unfold dig at hc
    obtain ⟨p, _, rfl⟩ := List.mem_map.mp hc
    have hb : a >>> p &&& 1 = 0 ∨ a >>> p &&& 1 = 1 := by
      have : a >>> p &&& 1 ≤ 1 := Nat.and_le_right
      omega
    rcases hb with hb | hb <;> rw [hb] <;> decide
  refine for_pairs (h₀ := h₀) (L := L) rfl hh ?_
  refine List_ ?_
  refine spliced_cons ?_
  show wpAny _ _ (eval _ _) _ _ _
  refine Tuple_ ?_
  refine spliced_cons ?_
  refine e_loc F h5 ?_
  refine spliced_cons ?_
  refine e_loc F h7 ?_
  refine spliced_nil ?_
  refine newTuple_N (s := { s with heap := hp, toks := _ }) F N (fun g1 F1 N1 => ?_) (Nat.le_of_ble_eq_true rfl)
  refine spliced_cons ?_
  show wpAny _ _ (eval _ _) _ _ _
  refine Tuple_ ?_
  refine spliced_cons ?_
  show wpAny _ _ (eval _ _) _ _ _
  refine wpAny_BinOp ?_
  refine e_loc F1 h5 ?_
  refine e_loc F1 h6 ?_
  refine xor_n ?_
  intro tq _
  refine spliced_cons ?_
  refine e_loc F1 h7 ?_
  refine spliced_nil ?_
  refine newTuple_N (s := { s with heap := g1, toks := _ }) F1 N1 (fun g2 F2 N2 => ?_) (Nat.le_of_ble_eq_true rfl)
  refine spliced_cons ?_
  show wpAny _ _ (eval _ _) _ _ _
  refine Tuple_ ?_
  refine spliced_cons ?_
  refine e_loc F2 h8 ?_
  refine spliced_cons ?_
  refine e_loc F2 h9 ?_
  refine spliced_nil ?_
  refine newTuple_N (s := { s with heap := g2, toks := _ }) F2 N2 (fun g3 F3 N3 => ?_) (Nat.le_of_ble_eq_true rfl)
  refine spliced_nil ?_
  refine newList_N (s := { s with heap := g3, toks := _ }) F3 N3 (fun g4 F4 N4 => ?_) (Nat.le_of_ble_eq_true rfl)
  dsimp only at N1 N2 N3 N4 ⊢
  have z0 := Heap.lt_size (N _ List.mem_cons_self).1
  have z1 := Heap.lt_size (N1 _ (List.mem_cons_of_mem _ List.mem_cons_self)).1
  have z2 := Heap.lt_size (N2 _ (List.mem_cons_of_mem _ (List.mem_cons_of_mem _ List.mem_cons_self))).1
  have z3 := Heap.lt_size (N3 _ (List.mem_cons_of_mem _ (List.mem_cons_of_mem _ (List.mem_cons_of_mem _ List.mem_cons_self)))).1
  have N5 := News.rot N4
  obtain ⟨hf2, q1, q2⟩ := frozen (led := _) (h := g4) fun p hp => (N5 p (List.mem_cons_of_mem _ hp)).1
  have l0 := q1 _ List.mem_cons_self
  have l1' := q1 _ (List.mem_cons_of_mem _ List.mem_cons_self)
  have l2' := q1 _ (List.mem_cons_of_mem _ (List.mem_cons_of_mem _ List.mem_cons_self))
  have l3' := q1 _ (List.mem_cons_of_mem _ (List.mem_cons_of_mem _ (List.mem_cons_of_mem _ List.mem_cons_self)))
  refine ⟨fun _ m' nx => (∃ o, nx = (L + 1 + 1 + 1 + 1, o) :: _ ∧ ∃ v, o.data = .cell v) ∧ Same13 m m', _, hf2, _, [(vn near _, vn rest _), (vn (near ^^^ twin) _, vn rest _), (vn third _, vn bare _)], m, _, rfl, ⟨_, l0, rfl, _, rfl⟩, .cons ⟨_, rfl, _, l3', rfl, _, rfl⟩ (.cons ⟨_, rfl, _, l2', rfl, _, rfl⟩ (.cons ⟨_, rfl, _, l1', rfl, _, rfl⟩ .nil)), F4, N5, ⟨⟨o4, rfl, d4⟩, fun _ _ _ _ _ => rfl⟩, ?_, ?_, ?_⟩
  · rintro i m' nx h ⟨⟨o, rfl, _⟩, _⟩ F' N'
    exact q2 h fun p hp => (N' p (List.mem_cons_of_mem _ hp)).1
  · intro h' tk' m' nx F' N' _
    exact k h' tk' m' F'
  · rintro i p m₁ nx h tk I oI Q' E' hp ⟨⟨o4', rfl, v', dv⟩, same⟩ F1 N1 ho done
    obtain ⟨a, u, ta', tu', rfl, hok⟩ : ∃ a u ta' tu', p = (vn a ta', vn u tu') ∧ turnedN ((sumR (octs (utf8L (fr ++ dig a ++ en))) ^^^ 4294967295) ^^^ a) = u := by
      match i, hp with
      | 0, e => obtain rfl := Option.some.inj e; exact ⟨_, _, _, _, rfl, ok (near, rest) (by simp)⟩
      | 1, e => obtain rfl := Option.some.inj e; exact ⟨_, _, _, _, rfl, ok (near ^^^ twin, rest) (by simp)⟩
      | 2, e => obtain rfl := Option.some.inj e; exact ⟨_, _, _, _, rfl, ok (third, bare) (by simp)⟩
      | i + 3, e => simp at e
    have sw : m₁ (Str.ofString "writer") = some (.ref (escA kk)) := (same _ (by decide) (by decide) (by decide) (by decide)).trans hw
    have s1 : m₁ (Str.ofString "ahead") = some (.str (strL a1) ta) := (same _ (by decide) (by decide) (by decide) (by decide)).trans h1
    have s2 : m₁ (Str.ofString "behind") = some (.str (strL a2) tb) := (same _ (by decide) (by decide) (by decide) (by decide)).trans h2
    have sf : m₁ (Str.ofString "front") = some (.str (strL fr) tf) := (same _ (by decide) (by decide) (by decide) (by decide)).trans h3
    have se : m₁ (Str.ofString "end") = some (.str (strL en) te) := (same _ (by decide) (by decide) (by decide) (by decide)).trans h4
    dsimp only
    refine wpAny_assign_Name ?_
    refine stCN (own := [(I, oI)]) F1 N1 (by rfl) dv ?_ ?_ ?_
    · intro p hp
      rw [List.mem_singleton.mp hp]
      exact fun e => ho _ List.mem_cons_self e.symm
    · exact rot_ne (ne_of_lt' z3) (ne_of_lt' z2) (ne_of_lt' z1) (ne_of_lt' z0) hn4
    intro h2 o' F2 N2 d2
    refine wpAny_assign_Name ?_
    refine e_st F2 N2 fun h3 tk3 F3 N3 => ?_
    show wpAny _ _ (execs [b13 0, b13 1, b13 2, b13 3] _) _ _ _
    refine wpAny_execs_cons ?_
    refine t1 g hh F3 N3 d2 fun h4 tk4 t4' F4 N4 => ?_
    refine wpAny_execs_cons ?_
    refine t2 g hroom F4 N4 sw s1 s2 (by rfl) l1 l2 (ldig a) fun h5 tk5 t5' F5 N5 => ?_
    rw [hesc] at F5
    refine wpAny_execs_cons ?_
    refine t3 g hh hroom F5 N5 (by rfl) ?_ ?_ fun h6 tk6 t6' F6 N6 => ?_
    · intro c hc
      simp only [List.mem_append] at hc
      rcases hc with (hc | hc) | hc
      · exact s3 c hc
      · exact sdig a c hc
      · exact s4 c hc
    · rw [List.length_append, List.length_append, ldig]; omega
    refine wpAny_execs_cons ?_
    refine t4 g hh hroom F6 N6 d2 (by rfl) sf (by rfl) se (by rfl) (by rfl) ?_ hok fun h7 tk7 F7 N7 => ?_
    · rw [ldig]; omega
    refine wpAny_execs_nil ?_
    refine done h7 tk7 _ _ F7 N7 ?_ ⟨⟨o', rfl, _, d2⟩, ?_⟩
    · intro q hq
      rcases List.mem_cons.mp hq with rfl | hq
      · exact ⟨_, List.mem_cons_self, rfl⟩
      · exact ⟨q, List.mem_cons_of_mem _ hq, rfl⟩
    · intro z y1 y2 y3 y4
      show (if z = _ then _ else if z = _ then _ else if z = _ then _ else if z = _ then _ else m₁ z) = m z
      rw [if_neg y4, if_neg y3, if_neg y2, if_neg y1]
      exact same z y1 y2 y3 y4
end
theorem turnedN_lt (n : Nat) : turnedN n < 2 ^ 32 := by
  have key : ∀ k t, t < 2 ^ 0 ∨ True → (List.range k).foldl (fun t place => 2 * t + (n >>> place &&& 1)) 0 < 2 ^ k := by
    intro k
    induction k with
    | zero => intro _ _; exact Nat.one_pos
    | succ k ih =>
      intro t _
      have := ih 0 (Or.inr trivial)
      rw [List.range_succ, List.foldl_append, List.foldl_cons, List.foldl_nil, Nat.pow_succ]
      have h1 : n >>> k &&& 1 ≤ 1 := Nat.and_le_right
      omega
  exact key 32 0 (Or.inr trivial)
theorem downStep_lt {p : Nat} (h : p < 2 ^ 32) : downStep p < 2 ^ 32 := by
  unfold downStep
  split
  · exact shr_lt h 1
  · have : p ^^^ 4374732215 < 2 ^ 33 := Nat.xor_lt_two_pow (Nat.lt_of_lt_of_le h (by decide)) (by decide)
    rw [Nat.shiftRight_eq_div_pow]; omega
theorem downN_lt {p : Nat} (h : p < 2 ^ 32) (k : Nat) : downN p k < 2 ^ 32 := foldl_inv (P := fun p => p < 2 ^ 32) (fun _ _ h => downStep_lt h) h
theorem partedN_lt {p : Nat} (h : p < 2 ^ 33) : partedN p < 2 ^ 33 := foldl_inv (P := fun p => p < 2 ^ 33) (fun p _ _ => partStep_lt p) h
theorem alongStep_lt {c p place : Nat} (h : p < 2 ^ 32) : alongStep c p place < 2 ^ 32 := by
  unfold alongStep
  have hb : (c >>> place &&& 1) <<< 31 < 2 ^ 32 := by
    have : c >>> place &&& 1 ≤ 1 := Nat.and_le_right
    rw [Nat.shiftLeft_eq]; omega
  have hx := Nat.xor_lt_two_pow h hb
  generalize p ^^^ (c >>> place &&& 1) <<< 31 = q at hx ⊢
  unfold upStep
  split
  · rename_i h0
    rw [Nat.shiftRight_eq_div_pow] at h0
    exact (Nat.div_eq_zero_iff_lt (by decide)).mp h0
  · rename_i h0
    have hq : 2 * q < 2 ^ 33 := by omega
    have hz : 2 * q ^^^ 4374732215 < 2 ^ 33 := Nat.xor_lt_two_pow hq (by decide)
    have hq32 : (2 * q).testBit 32 = true := by
      rw [Nat.testBit_eq_decide_div_mod_eq, decide_eq_true_eq]
      rw [Nat.shiftRight_eq_div_pow] at h0
      omega
    have hz32 : (2 * q ^^^ 4374732215).testBit 32 = false := by
      rw [Nat.testBit_xor, hq32]; decide
    rw [Nat.testBit_eq_decide_div_mod_eq, decide_eq_false_iff_not] at hz32
    omega
theorem alongN_lt {p : Nat} (h : p < 2 ^ 32) (cs : List Nat) : alongN p cs < 2 ^ 32 := foldl_inv (P := fun p => p < 2 ^ 32) (fun _ _ h => foldl_inv (P := fun p => p < 2 ^ 32) (fun _ _ h => alongStep_lt h) h) h

/-- linear over bits, below 2^32 -/
def Lin (f : Nat → Nat) : Prop := ∀ a b, a < 2 ^ 32 → b < 2 ^ 32 → f (a ^^^ b) = f a ^^^ f b
theorem xlt {a b : Nat} (h : a < 2 ^ 32) (k : b < 2 ^ 32) : a ^^^ b < 2 ^ 32 := Nat.xor_lt_two_pow h k
theorem Lin.zero {f : Nat → Nat} (h : Lin f) : f 0 = 0 := by
  have := h 0 0 (by decide) (by decide)
  rw [Nat.xor_self] at this
  rw [this]; exact Nat.xor_self _
theorem top_bit {n p : Nat} (h1 : ¬ p < 2 ^ n) (h2 : p < 2 ^ (n + 1)) : p ^^^ 2 ^ n < 2 ^ n := by
  refine Nat.lt_pow_two_of_testBit _ fun i hi => ?_
  rw [Nat.testBit_xor, Nat.testBit_two_pow]
  by_cases e : n = i
  · subst e
    have : p.testBit n = true := by
      rw [Nat.testBit_eq_decide_div_mod_eq, decide_eq_true_eq]
      have hp : 0 < 2 ^ n := Nat.two_pow_pos n
      have h3 : p / 2 ^ n = 1 := by
        refine Nat.div_eq_of_lt_le ?_ ?_
        · omega
        · rw [Nat.pow_succ] at h2; omega
      rw [h3]
    rw [this]; simp
  · have : p.testBit i = false := Nat.testBit_lt_two_pow (Nat.lt_of_lt_of_le h2 (Nat.pow_le_pow_right (by decide) (by omega)))
    rw [this]; simp [e]
theorem Lin.ext {f g : Nat → Nat} (hf : Lin f) (hg : Lin g) (h : ∀ i : Fin 32, f (2 ^ i.1) = g (2 ^ i.1)) : ∀ p, p < 2 ^ 32 → f p = g p := by
  have key : ∀ n, n ≤ 32 → ∀ p, p < 2 ^ n → f p = g p := by
    intro n
    induction n with
    | zero =>
      intro _ p hp
      have : p = 0 := by omega
      rw [this, hf.zero, hg.zero]
    | succ n ih =>
      intro hn p hp
      by_cases hlt : p < 2 ^ n
      · exact ih (by omega) p hlt
      · have h1 := top_bit hlt hp
        have e : p = (p ^^^ 2 ^ n) ^^^ 2 ^ n := by rw [Nat.xor_assoc, Nat.xor_self, Nat.xor_zero]
        have b1 : p ^^^ 2 ^ n < 2 ^ 32 := Nat.lt_of_lt_of_le h1 (Nat.pow_le_pow_right (by decide) (by omega))
        have b2 : (2 : Nat) ^ n < 2 ^ 32 := Nat.pow_lt_pow_right (by decide) (by omega)
        rw [e, hf _ _ b1 b2, hg _ _ b1 b2, ih (by omega) _ h1, h ⟨n, by omega⟩]
  exact key 32 (Nat.le_refl _)
theorem Lin.bound {f : Nat → Nat} (hf : Lin f) (h : ∀ i : Fin 32, f (2 ^ i.1) < 2 ^ 32) : ∀ p, p < 2 ^ 32 → f p < 2 ^ 32 := by
  have key : ∀ n, n ≤ 32 → ∀ p, p < 2 ^ n → f p < 2 ^ 32 := by
    intro n
    induction n with
    | zero =>
      intro _ p hp
      have : p = 0 := by omega
      rw [this, hf.zero]; decide
    | succ n ih =>
      intro hn p hp
      by_cases hlt : p < 2 ^ n
      · exact ih (by omega) p hlt
      · have h1 := top_bit hlt hp
        have e : p = (p ^^^ 2 ^ n) ^^^ 2 ^ n := by rw [Nat.xor_assoc, Nat.xor_self, Nat.xor_zero]
        have b1 : p ^^^ 2 ^ n < 2 ^ 32 := Nat.lt_of_lt_of_le h1 (Nat.pow_le_pow_right (by decide) (by omega))
        have b2 : (2 : Nat) ^ n < 2 ^ 32 := Nat.pow_lt_pow_right (by decide) (by omega)
        rw [e, hf _ _ b1 b2]
        exact xlt (ih (by omega) _ h1) (h ⟨n, by omega⟩)
  exact key 32 (Nat.le_refl _)
theorem Lin.comp {f g : Nat → Nat} (hf : Lin f) (hg : Lin g) (hb : ∀ p, p < 2 ^ 32 → g p < 2 ^ 32) : Lin (fun p => f (g p)) := fun a b ha h => by
  show f (g (a ^^^ b)) = _
  rw [hg a b ha h, hf _ _ (hb a ha) (hb b h)]
theorem xor_mid (a b c d : Nat) : (a ^^^ b) ^^^ (c ^^^ d) = (a ^^^ c) ^^^ (b ^^^ d) := by
  rw [Nat.xor_assoc, Nat.xor_assoc, ← Nat.xor_assoc b c d, Nat.xor_comm b c, Nat.xor_assoc c b d]
theorem Lin.xor {f g : Nat → Nat} (hf : Lin f) (hg : Lin g) : Lin (fun p => f p ^^^ g p) := fun a b ha h => by
  show f (a ^^^ b) ^^^ g (a ^^^ b) = _
  rw [hf a b ha h, hg a b ha h, xor_mid]
theorem Lin.id : Lin (fun p => p) := fun _ _ _ _ => rfl
theorem xor_self_left (a b : Nat) : a ^^^ (a ^^^ b) = b := by rw [← Nat.xor_assoc, Nat.xor_self, Nat.zero_xor]
theorem xor_self_right (a b : Nat) : a ^^^ b ^^^ b = a := by rw [Nat.xor_assoc, Nat.xor_self, Nat.xor_zero]

/-- a step that adds P where a bit stands -/
theorem bit_mul {x y P : Nat} (hx : x ≤ 1) (hy : y ≤ 1) : (x ^^^ y) * P = x * P ^^^ y * P := by
  have h1 : x = 0 ∨ x = 1 := by omega
  have h2 : y = 0 ∨ y = 1 := by omega
  rcases h1 with rfl | rfl <;> rcases h2 with rfl | rfl <;> simp
theorem two_xor (a b : Nat) : 2 * (a ^^^ b) = 2 * a ^^^ 2 * b := by
  have := @Nat.shiftLeft_xor_distrib 1 a b
  simp only [Nat.shiftLeft_eq, Nat.pow_one] at this
  rw [Nat.mul_comm 2, this, Nat.mul_comm a, Nat.mul_comm b]

theorem upU_eq {p : Nat} (h : p < 2 ^ 32) : upU p = 2 * p ^^^ (p >>> 31) * 4374732215 := by
  unfold upU upStep
  have e : (2 * p) >>> 32 = p >>> 31 := by simp only [Nat.shiftRight_eq_div_pow]; omega
  have hle : p >>> 31 ≤ 1 := by rw [Nat.shiftRight_eq_div_pow]; omega
  rw [e]
  split
  · rename_i h0; rw [h0, Nat.zero_mul, Nat.xor_zero]
  · have : p >>> 31 = 1 := by omega
    rw [this, Nat.one_mul]
theorem upU_lin : Lin upU := fun a b ha hb => by
  rw [upU_eq (xlt ha hb), upU_eq ha, upU_eq hb, two_xor, Nat.shiftRight_xor_distrib, bit_mul, xor_mid]
  · rw [Nat.shiftRight_eq_div_pow]; omega
  · rw [Nat.shiftRight_eq_div_pow]; omega
theorem alongStep_up (c p place : Nat) : alongStep c p place = upU (p ^^^ (c >>> place &&& 1) <<< 31) := rfl
theorem upU_lt {p : Nat} (h : p < 2 ^ 32) : upU p < 2 ^ 32 := by
  have := alongStep_lt (c := 0) (place := 0) h
  rw [alongStep_up] at this
  simpa using this
def uN : Nat → Nat → Nat
  | 0, p => p
  | k + 1, p => upU (uN k p)
theorem uN_lt {p : Nat} (h : p < 2 ^ 32) : ∀ k, uN k p < 2 ^ 32
  | 0 => h
  | k + 1 => upU_lt (uN_lt h k)
theorem uN_lin : ∀ k, Lin (uN k)
  | 0 => Lin.id
  | k + 1 => show Lin (fun p => upU (uN k p)) from Lin.comp (f := upU) (g := uN k) upU_lin (uN_lin k) fun _ h => uN_lt h k
theorem uN_add (a p : Nat) : ∀ b, uN (a + b) p = uN b (uN a p)
  | 0 => rfl
  | b + 1 => congrArg upU (uN_add a p b)
/-- down takes up back -/
theorem crc_bit {p E : Nat} : (if p &&& 1 = 0 then p >>> 1 else p >>> 1 ^^^ E) = p >>> 1 ^^^ (p &&& 1) * E := by
  have h : p &&& 1 ≤ 1 := Nat.and_le_right
  split
  · rename_i h0; rw [h0, Nat.zero_mul, Nat.xor_zero]
  · have : p &&& 1 = 1 := by omega
    rw [this, Nat.one_mul]
theorem and_one_le (p : Nat) : p &&& 1 ≤ 1 := Nat.and_le_right
theorem crcStep_lin : Lin crcStep := fun a b _ _ => by
  unfold crcStep
  rw [crc_bit, crc_bit, crc_bit, Nat.shiftRight_xor_distrib, Nat.and_xor_distrib_right, bit_mul (and_one_le a) (and_one_le b), xor_mid]
theorem downStep_lin : Lin downStep := fun a b _ _ => by
  have e : ∀ p, downStep p = p >>> 1 ^^^ (p &&& 1) * 2187366107 := fun p => by
    unfold downStep
    rw [Nat.shiftRight_xor_distrib, ← crc_bit, show (4374732215 : Nat) >>> 1 = 2187366107 from rfl]
  rw [e, e, e, Nat.shiftRight_xor_distrib, Nat.and_xor_distrib_right, bit_mul (and_one_le a) (and_one_le b), xor_mid]
theorem down_up {p : Nat} (h : p < 2 ^ 32) : downStep (upU p) = p := Lin.ext (Lin.comp downStep_lin upU_lin fun _ h => upU_lt h) Lin.id (by decide +kernel) p h
theorem downN_zero (p : Nat) : downN p 0 = p := rfl
theorem downN_succ (p k : Nat) : downN p (k + 1) = downN (downStep p) k := by
  unfold downN
  rw [List.range_succ_eq_map, List.foldl_cons, List.foldl_map]
theorem downN_uN {p : Nat} (h : p < 2 ^ 32) : ∀ k, downN (uN k p) k = p
  | 0 => rfl
  | k + 1 => by rw [downN_succ]; show downN (downStep (upU (uN k p))) k = p; rw [down_up (uN_lt h k), downN_uN h k]
/-- folds of linear steps -/
theorem foldl_lin {α : Type} {f : Nat → α → Nat} (hl : ∀ x, Lin (fun p => f p x)) (hb : ∀ x p, p < 2 ^ 32 → f p x < 2 ^ 32) : ∀ l : List α, Lin (fun p => l.foldl f p)
  | [] => Lin.id
  | x :: l => fun a b ha h => by
    show l.foldl f (f (a ^^^ b) x) = _
    rw [show f (a ^^^ b) x = f a x ^^^ f b x from hl x a b ha h]
    exact foldl_lin hl hb l _ _ (hb x a ha) (hb x b h)
theorem turned_fold (a b : Nat) : ∀ (l : List Nat) (t u : Nat), l.foldl (fun t place => 2 * t + ((a ^^^ b) >>> place &&& 1)) (t ^^^ u) = l.foldl (fun t place => 2 * t + (a >>> place &&& 1)) t ^^^ l.foldl (fun t place => 2 * t + (b >>> place &&& 1)) u
  | [], _, _ => rfl
  | x :: l, t, u => by
    have add_bit : ∀ t y, y ≤ 1 → 2 * t + y = 2 * t ^^^ y := fun t y hy => by
      have := xor_and_sum (2 * t) y
      have hz : (2 * t) &&& y = 0 := by
        have : y = 0 ∨ y = 1 := by omega
        rcases this with rfl | rfl
        · exact Nat.and_zero _
        · rw [Nat.and_one_is_mod]; omega
      omega
    rw [List.foldl_cons, List.foldl_cons, List.foldl_cons, ← turned_fold a b l]
    congr 1
    rw [add_bit _ _ (and_one_le _), add_bit _ _ (and_one_le _), add_bit _ _ (and_one_le _), two_xor, Nat.shiftRight_xor_distrib, Nat.and_xor_distrib_right, xor_mid]
theorem turnedN_lin : Lin turnedN := fun a b _ _ => turned_fold a b (List.range 32) 0 0
theorem turned_turned {p : Nat} (h : p < 2 ^ 32) : turnedN (turnedN p) = p := Lin.ext (Lin.comp turnedN_lin turnedN_lin fun p _ => turnedN_lt p) Lin.id (by decide +kernel) p h
theorem turned_crc {p : Nat} (h : p < 2 ^ 32) : turnedN (crcStep p) = upU (turnedN p) :=
  Lin.ext (Lin.comp turnedN_lin crcStep_lin fun _ h => crcStep_lt h) (Lin.comp upU_lin turnedN_lin fun p _ => turnedN_lt p) (by decide +kernel) p h
/-- along a text -/
theorem alongC_lin (c : Nat) {p : Nat} (h : p < 2 ^ 32) : alongC p c = uN 8 p ^^^ alongC 0 c := by
  have bit : ∀ place, (c >>> place &&& 1) <<< 31 < 2 ^ 32 := fun place => by
    have : c >>> place &&& 1 ≤ 1 := Nat.and_le_right
    rw [Nat.shiftLeft_eq]; omega
  have key : ∀ (l : List Nat) p q, p < 2 ^ 32 → q < 2 ^ 32 → l.foldl (alongStep c) (p ^^^ q) = uN l.length p ^^^ l.foldl (alongStep c) q := by
    intro l
    induction l with
    | nil => intro p q _ _; rfl
    | cons x l ih =>
      intro p q hp hq
      rw [List.foldl_cons, List.foldl_cons]
      have e : alongStep c (p ^^^ q) x = upU p ^^^ alongStep c q x := by
        rw [alongStep_up, alongStep_up, Nat.xor_assoc, upU_lin _ _ hp (xlt hq (bit x))]
      rw [e, ih _ _ (upU_lt hp) (alongStep_lt hq), List.length_cons]
      congr 1
      have := uN_add 1 p l.length
      rw [Nat.add_comm] at this
      exact this.symm
  have := key (List.range 8) p 0 h (by decide)
  rw [Nat.xor_zero] at this
  exact this
theorem alongC_lt {p : Nat} (h : p < 2 ^ 32) (c : Nat) : alongC p c < 2 ^ 32 := foldl_inv (P := fun p => p < 2 ^ 32) (fun _ _ h => alongStep_lt h) h
theorem alongN_lin {p : Nat} (h : p < 2 ^ 32) : ∀ (cs : List Nat) (q : Nat), q < 2 ^ 32 → alongN (p ^^^ q) cs = uN (8 * cs.length) p ^^^ alongN q cs := by
  intro cs
  induction cs generalizing p with
  | nil => intro q _; rfl
  | cons c cs ih =>
    intro q hq
    show alongN (alongC (p ^^^ q) c) cs = _ ^^^ alongN (alongC q c) cs
    have e : alongC (p ^^^ q) c = uN 8 p ^^^ alongC q c := by
      rw [alongC_lin c (xlt h hq), uN_lin 8 _ _ h hq, Nat.xor_assoc, ← alongC_lin c hq]
    rw [e, ih (uN_lt h 8) _ (alongC_lt hq c), ← uN_add, List.length_cons]
    congr 2
    omega
theorem alongN_zero {p : Nat} (h : p < 2 ^ 32) (cs : List Nat) : alongN p cs = uN (8 * cs.length) p ^^^ alongN 0 cs := by
  have := alongN_lin h cs 0 (by decide)
  rwa [Nat.xor_zero] at this
theorem alongN_append (p : Nat) (a b : List Nat) : alongN p (a ++ b) = alongN (alongN p a) b := List.foldl_append
theorem alongC_small : ∀ c : Fin 256, alongC 0 c.1 = uN 8 (turnedN c.1) := by decide +kernel
theorem turned_crc8 {p : Nat} (h : p < 2 ^ 32) : turnedN (crc8 p) = uN 8 (turnedN p) := by
  have key : ∀ k, turnedN ((List.range k).foldl (fun c _ => crcStep c) p) = uN k (turnedN p) ∧ (List.range k).foldl (fun c _ => crcStep c) p < 2 ^ 32 := by
    intro k
    induction k with
    | zero => exact ⟨rfl, h⟩
    | succ k ih =>
      rw [List.range_succ, List.foldl_append, List.foldl_cons, List.foldl_nil]
      refine ⟨?_, crcStep_lt ih.2⟩
      rw [turned_crc ih.2, ih.1]; rfl
  exact (key 8).1
theorem turned_sum {cs : List Nat} (hc : ∀ c ∈ cs, c < 256) : turnedN (sumR cs) = alongN 4294967295 cs := by
  have key : ∀ (cs : List Nat) (r : Nat), r < 2 ^ 32 → (∀ c ∈ cs, c < 256) → turnedN (cs.foldl (fun r c => crc8 (r ^^^ c)) r) = alongN (turnedN r) cs := by
    intro cs
    induction cs with
    | nil => intro r _ _; rfl
    | cons c cs ih =>
      intro r hr hc
      have c8 := hc c List.mem_cons_self
      have c32 : c < 2 ^ 32 := Nat.lt_of_lt_of_le c8 (by decide)
      rw [List.foldl_cons, ih _ (crc8_lt (xlt hr c32)) fun d hd => hc d (List.mem_cons_of_mem _ hd)]
      show alongN _ cs = alongN (alongC (turnedN r) c) cs
      congr 1
      rw [turned_crc8 (xlt hr c32), turnedN_lin _ _ hr c32, uN_lin 8 _ _ (turnedN_lt r) (turnedN_lt c), alongC_lin c (turnedN_lt r), alongC_small ⟨c, c8⟩]
  have := key cs 4294967295 (by decide) hc
  rw [show turnedN 4294967295 = 4294967295 from by decide +kernel] at this
  exact this
theorem alongC_xor {c d p q : Nat} (hc : c < 256) (hd : d < 256) (hp : p < 2 ^ 32) (hq : q < 2 ^ 32) : alongC (p ^^^ q) (c ^^^ d) = alongC p c ^^^ alongC q d := by
  have hcd : c ^^^ d < 256 := Nat.xor_lt_two_pow (n := 8) hc hd
  have b : ∀ {x : Nat}, x < 256 → x < 2 ^ 32 := fun h => Nat.lt_of_lt_of_le h (by decide)
  rw [alongC_lin _ (xlt hp hq), alongC_lin c hp, alongC_lin d hq, alongC_small ⟨_, hcd⟩, alongC_small ⟨c, hc⟩, alongC_small ⟨d, hd⟩, turnedN_lin _ _ (b hc) (b hd), uN_lin 8 _ _ hp hq, uN_lin 8 _ _ (turnedN_lt c) (turnedN_lt d), xor_mid]
theorem alongN_zip : ∀ (xs ys : List Nat) (p q : Nat), xs.length = ys.length → (∀ c ∈ xs, c < 256) → (∀ c ∈ ys, c < 256) → p < 2 ^ 32 → q < 2 ^ 32 → alongN (p ^^^ q) (List.zipWith (· ^^^ ·) xs ys) = alongN p xs ^^^ alongN q ys := by
  intro xs
  induction xs with
  | nil =>
    intro ys p q hl _ _ _ _
    cases ys with
    | nil => rfl
    | cons => simp at hl
  | cons x xs ih =>
    intro ys p q hl hx hy hp hq
    cases ys with
    | nil => simp at hl
    | cons y ys =>
      show alongN (alongC (p ^^^ q) (x ^^^ y)) (List.zipWith _ xs ys) = _
      rw [alongC_xor (hx x List.mem_cons_self) (hy y List.mem_cons_self) hp hq]
      exact ih ys _ _ (by simpa using hl) (fun c h => hx c (List.mem_cons_of_mem _ h)) (fun c h => hy c (List.mem_cons_of_mem _ h)) (alongC_lt hp x) (alongC_lt hq y)
/-- the row's part of what the sum tells -/
def bitsL (a : Nat) : List Nat := (List.range 32).map fun p => a >>> p &&& 1
def digD (a : Nat) : Nat := alongN 0 (bitsL a)
theorem bitsL_lt {a c : Nat} (h : c ∈ bitsL a) : c ≤ 1 := by
  unfold bitsL at h
  obtain ⟨p, _, rfl⟩ := List.mem_map.mp h
  exact Nat.and_le_right
theorem zip_map {f g : Nat → Nat} : ∀ l : List Nat, List.zipWith (· ^^^ ·) (l.map f) (l.map g) = l.map fun p => f p ^^^ g p
  | [] => rfl
  | x :: l => congrArg (List.cons _) (zip_map l)
theorem bitsL_xor (a b : Nat) : bitsL (a ^^^ b) = List.zipWith (· ^^^ ·) (bitsL a) (bitsL b) := by
  unfold bitsL
  rw [zip_map]
  refine List.map_congr_left fun p _ => ?_
  rw [Nat.shiftRight_xor_distrib, Nat.and_xor_distrib_right]
theorem bitsL_len (a : Nat) : (bitsL a).length = 32 := by simp [bitsL]
theorem digD_lin : Lin digD := fun a b _ _ => by
  show alongN 0 (bitsL (a ^^^ b)) = _
  rw [bitsL_xor]
  exact alongN_zip (bitsL a) (bitsL b) 0 0 (by rw [bitsL_len, bitsL_len]) (fun c h => Nat.lt_of_le_of_lt (bitsL_lt h) (by decide)) (fun c h => Nat.lt_of_le_of_lt (bitsL_lt h) (by decide)) (by decide) (by decide)
theorem digD_lt (a : Nat) : digD a < 2 ^ 32 := alongN_lt (by decide) _
theorem noughts_map : List.replicate 32 48 = (List.range 32).map fun _ => 48 := by decide
theorem dig_zip (a : Nat) : dig a = List.zipWith (· ^^^ ·) (List.replicate 32 48) (bitsL a) := by
  rw [noughts_map]
  unfold dig bitsL
  rw [zip_map]
  refine List.map_congr_left fun p _ => ?_
  have h : a >>> p &&& 1 ≤ 1 := Nat.and_le_right
  have : a >>> p &&& 1 = 0 ∨ a >>> p &&& 1 = 1 := by omega
  rcases this with e | e <;> rw [e] <;> rfl
theorem along_dig {q : Nat} (hq : q < 2 ^ 32) (a : Nat) : alongN q (dig a) = alongN q (List.replicate 32 48) ^^^ digD a := by
  have := alongN_zip (List.replicate 32 48) (bitsL a) q 0 (by rw [bitsL_len, List.length_replicate]) (fun c h => by rw [List.eq_of_mem_replicate h]; decide) (fun c h => Nat.lt_of_le_of_lt (bitsL_lt h) (by decide)) hq (by decide)
  rw [Nat.xor_zero] at this
  rw [dig_zip, this]; rfl
theorem octs_digits : ∀ l : List Nat, (∀ c ∈ l, c = 48 ∨ c = 49) → octs (utf8L l) = l
  | [], _ => rfl
  | c :: l, h => by
    have e : utf8L (c :: l) = Str.utf8Of c ++ utf8L l := rfl
    rw [e]
    unfold octs
    rw [List.map_append]
    have := octs_digits l fun d hd => h d (List.mem_cons_of_mem _ hd)
    unfold octs at this
    rw [this]
    rcases h c List.mem_cons_self with rfl | rfl <;> rfl
theorem dig_mem {a c : Nat} (h : c ∈ dig a) : c = 48 ∨ c = 49 := by
  unfold dig at h
  obtain ⟨p, _, rfl⟩ := List.mem_map.mp h
  have : a >>> p &&& 1 ≤ 1 := Nat.and_le_right
  omega
theorem octs_append (a b : List UInt8) : octs (a ++ b) = octs a ++ octs b := List.map_append
/-- the law's linear map -/
def mapM (n a : Nat) : Nat := uN n (digD a) ^^^ turnedN a
theorem mapM_lin (n : Nat) : Lin (mapM n) := Lin.xor (f := fun a => uN n (digD a)) (g := turnedN) (Lin.comp (f := uN n) (g := digD) (uN_lin n) digD_lin fun p _ => digD_lt p) turnedN_lin
theorem turned_F : turnedN 4294967295 = 4294967295 := by decide +kernel
theorem sumR_lt {cs : List Nat} (hc : ∀ c ∈ cs, c < 256) : sumR cs < 2 ^ 32 := by
  unfold sumR
  have key : ∀ (cs : List Nat) (r : Nat), r < 2 ^ 32 → (∀ c ∈ cs, c < 256) → cs.foldl (fun r c => crc8 (r ^^^ c)) r < 2 ^ 32 := by
    intro cs
    induction cs with
    | nil => intro r h _; exact h
    | cons c cs ih =>
      intro r h hc
      exact ih _ (crc8_lt (xlt h (Nat.lt_of_lt_of_le (hc c List.mem_cons_self) (by decide)))) fun d hd => hc d (List.mem_cons_of_mem _ hd)
  exact key cs _ (by decide) hc
theorem told_eq {fr en : List Nat} {a : Nat} (ha : a < 2 ^ 32) : turnedN ((sumR (octs (utf8L (fr ++ dig a ++ en))) ^^^ 4294967295) ^^^ a) = bareN fr en ^^^ mapM (8 * (utf8L en).length) a := by
  have ho : ∀ c ∈ octs (utf8L (fr ++ dig a ++ en)), c < 256 := fun c h => octs_lt h
  rw [turnedN_lin _ _ (xlt (sumR_lt ho) (by decide)) ha, turnedN_lin _ _ (sumR_lt ho) (by decide), turned_F, turned_sum ho]
  unfold bareN mapM
  have hn : ∀ c ∈ List.replicate 32 48, c = 48 ∨ c = 49 := fun c h => Or.inl (List.eq_of_mem_replicate h)
  rw [utf8L_append, utf8L_append, utf8L_append, utf8L_append, octs_append, octs_append, octs_append, octs_append, octs_digits _ (fun c h => dig_mem h), octs_digits _ hn]
  rw [alongN_append, alongN_append, alongN_append, alongN_append]
  have h1 : alongN 4294967295 (octs (utf8L fr)) < 2 ^ 32 := alongN_lt (by decide) _
  have h2 := alongN_lt h1 (List.replicate 32 48)
  rw [along_dig h1, Nat.xor_comm (alongN _ (List.replicate 32 48)), alongN_lin (digD_lt a) _ _ h2]
  have hl : (octs (utf8L en)).length = (utf8L en).length := List.length_map ..
  rw [hl]
  generalize uN _ _ = x
  generalize alongN _ _ = y
  rw [Nat.xor_comm x y, Nat.xor_assoc, Nat.xor_assoc, Nat.xor_assoc, Nat.xor_comm x, Nat.xor_assoc, Nat.xor_comm _ x]
theorem upN_eq (p : Nat) : ∀ k, upN p k = uN k p
  | 0 => rfl
  | k + 1 => by
    unfold upN
    rw [List.range_succ, List.foldl_append]
    show upU (upN p k) = _
    rw [upN_eq p k]; rfl
theorem mapM_bit (n : Nat) {j : Nat} (hj : j < 32) : uN (39 + n + 8 * j) 1 ^^^ 1 <<< j = mapM n (1 <<< (31 - j)) := by
  have key : ∀ j : Fin 32, digD (1 <<< (31 - j.1)) = uN (8 * j.1) (uN 39 1) ∧ turnedN (1 <<< (31 - j.1)) = 1 <<< j.1 := by decide +kernel
  obtain ⟨k1, k2⟩ := key ⟨j, hj⟩
  unfold mapM
  dsimp only at k1 k2
  rw [k1, k2, ← uN_add, ← uN_add, show 39 + n + 8 * j = 39 + (8 * j + n) by omega]
theorem less_inv {M : Nat → Nat} (hM : Lin M) {c : Nat} : ∀ (rs : List (Nat × Nat)) (p : Nat × Nat), (∀ r ∈ rs, r.1 = M r.2 ∧ r.2 < 2 ^ 32) → p.1 = c ^^^ M p.2 → p.2 < 2 ^ 32 → (lessN p rs).1 = c ^^^ M (lessN p rs).2 ∧ (lessN p rs).2 < 2 ^ 32
  | [], _, _, h1, h2 => ⟨h1, h2⟩
  | r :: rs, p, hr, h1, h2 => by
    have e : lessN p (r :: rs) = lessN (lessStep p r) rs := rfl
    rw [e]
    obtain ⟨r1, r2⟩ := hr r List.mem_cons_self
    refine less_inv hM rs _ (fun q hq => hr q (List.mem_cons_of_mem _ hq)) ?_ ?_
    · unfold lessStep
      split
      · show p.1 ^^^ r.1 = c ^^^ M (p.2 ^^^ r.2)
        rw [hM _ _ h2 r2, h1, r1, Nat.xor_assoc]
      · exact h1
    · unfold lessStep
      split
      · exact xlt h2 r2
      · exact h2
theorem bit_lt {j : Nat} (hj : j < 32) : 1 <<< (31 - j) < 2 ^ 32 := by
  rw [Nat.one_shiftLeft]; exact Nat.pow_lt_pow_right (by decide) (by omega)
/-- the law's first loop keeps its rows true -/
theorem st8_inv (n : Nat) : ∀ i, i ≤ 32 → (∀ r ∈ (st8N (upN 1 (39 + n)) i).rs, r.1 = mapM n r.2 ∧ r.2 < 2 ^ 32) ∧ (mapM n (st8N (upN 1 (39 + n)) i).tw = 0 ∧ (st8N (upN 1 (39 + n)) i).tw < 2 ^ 32) ∧ (st8N (upN 1 (39 + n)) i).pw = uN (39 + n + 8 * i) 1 ∧ ∀ k, k < i → (st8N (upN 1 (39 + n)) i).ps.getD k 0 = mapM n (1 <<< (31 - k))
  | 0, _ => ⟨fun _ h => absurd h List.not_mem_nil, ⟨(mapM_lin n).zero, by show (0 : Nat) < 2 ^ 32; decide⟩, upN_eq 1 _, fun _ h => absurd h (Nat.not_lt_zero _)⟩
  | i + 1, hi => by
    obtain ⟨h1, ⟨h2, h3⟩, h4, h5⟩ := st8_inv n i (by omega)
    have hl := (st8N_len (upN 1 (39 + n)) i).2
    rw [st8N_succ]
    generalize st8N (upN 1 (39 + n)) i = x at h1 h2 h3 h4 h5 hl
    have hb := mapM_bit n (j := i) (by omega)
    rw [← h4] at hb
    have q := less_inv (mapM_lin n) (c := 0) x.rs (x.pw ^^^ 1 <<< i, 1 <<< (31 - i)) h1 (by rw [Nat.zero_xor]; exact hb) (bit_lt (by omega))
    rw [Nat.zero_xor] at q
    refine ⟨?_, ?_, ?_, ?_⟩
    · intro r hr
      simp only [step8] at hr
      split at hr
      · exact h1 r hr
      · rcases List.mem_append.mp hr with hr | hr
        · exact h1 r hr
        · rw [List.mem_singleton.mp hr]; exact q
    · simp only [step8]
      split
      · rename_i z
        exact ⟨by rw [← q.1]; exact z, q.2⟩
      · exact ⟨h2, h3⟩
    · simp only [step8]
      rw [upN_eq, h4, ← uN_add]
      congr 1
    · intro k hk
      simp only [step8]
      by_cases e : k < i
      · rw [← h5 k e, List.getD_eq_getElem?_getD, List.getD_eq_getElem?_getD, List.getElem?_append_left (by omega)]
      · obtain rfl : k = i := by omega
        rw [List.getD_eq_getElem?_getD, List.getElem?_append_right (by omega), hl, Nat.sub_self]
        exact hb
theorem mod_bit (t n : Nat) : t % 2 ^ (n + 1) = if t >>> n &&& 1 = 0 then t % 2 ^ n else t % 2 ^ n ^^^ 2 ^ n := by
  have h := Nat.mod_pow_succ (x := t) (b := 2) (k := n)
  have e : t >>> n &&& 1 = t / 2 ^ n % 2 := by rw [Nat.shiftRight_eq_div_pow, Nat.and_one_is_mod]
  have hz : (t % 2 ^ n) &&& 2 ^ n = 0 := by
    refine Nat.eq_of_testBit_eq fun i => ?_
    rw [Nat.testBit_and, Nat.testBit_two_pow, Nat.zero_testBit]
    by_cases q : n = i
    · subst q
      rw [Nat.testBit_lt_two_pow (Nat.mod_lt _ (Nat.two_pow_pos n))]; rfl
    · simp [q]
  have hx := xor_and_sum (t % 2 ^ n) (2 ^ n)
  rw [hz] at hx
  rw [h, e]
  split
  · rename_i z; rw [z, Nat.mul_zero, Nat.add_zero]
  · have : t / 2 ^ n % 2 = 1 := by omega
    rw [this, Nat.mul_one]; omega
theorem add_eq {M : Nat → Nat} (hM : Lin M) {ps : List Nat} (hp : ∀ k, k < 32 → ps.getD k 0 = M (1 <<< (31 - k))) (third bare : Nat) : ∀ n, n ≤ 32 → addN third ps bare n = bare ^^^ M (third % 2 ^ n)
  | 0, _ => by rw [Nat.pow_zero, Nat.mod_one, hM.zero, Nat.xor_zero]; rfl
  | n + 1, hn => by
    rw [addN_succ, add_eq hM hp third bare n (by omega), mod_bit]
    split
    · rw [Nat.xor_zero]
    · have h1 : third % 2 ^ n < 2 ^ 32 := Nat.lt_of_lt_of_le (Nat.mod_lt _ (Nat.two_pow_pos n)) (Nat.pow_le_pow_right (by decide) (by omega))
      have h2 : (2 : Nat) ^ n < 2 ^ 32 := Nat.pow_lt_pow_right (by decide) (by omega)
      rw [hM _ _ h1 h2, hp _ (by omega), Nat.one_shiftLeft, Nat.xor_assoc, show 31 - (31 - n) = n by omega]
theorem plain02 {fr en : List Nat} {third : Nat} (h3 : third < 2 ^ 32) (x : S8) (hx : x = st8N (upN 1 (39 + 8 * (utf8L en).length)) 32) :
    ∀ p ∈ [((lessN (bareN fr en, 0) x.rs).2, (lessN (bareN fr en, 0) x.rs).1), ((lessN (bareN fr en, 0) x.rs).2 ^^^ x.tw, (lessN (bareN fr en, 0) x.rs).1), (third, addN third x.ps (bareN fr en) 32)],
      turnedN ((sumR (octs (utf8L (fr ++ dig p.1 ++ en))) ^^^ 4294967295) ^^^ p.1) = p.2 := by
  obtain ⟨h1, ⟨h2, h4⟩, _, h5⟩ := st8_inv (8 * (utf8L en).length) 32 (Nat.le_refl _)
  rw [← hx] at h1 h2 h4 h5
  have hM := mapM_lin (8 * (utf8L en).length)
  obtain ⟨q1, q2⟩ := less_inv hM (c := bareN fr en) x.rs (bareN fr en, 0) h1 (by show _ = _ ^^^ mapM _ 0; rw [hM.zero, Nat.xor_zero]) (by show (0 : Nat) < 2 ^ 32; decide)
  intro p hp
  simp only [List.mem_cons, List.not_mem_nil, or_false] at hp
  rcases hp with rfl | rfl | rfl
  · dsimp only
    rw [told_eq q2, ← q1]
  · dsimp only
    rw [told_eq (xlt q2 h4), hM _ _ q2 h4, h2, Nat.xor_zero, ← q1]
  · dsimp only
    rw [told_eq h3, add_eq hM h5 third _ 32 (Nat.le_refl _), Nat.mod_eq_of_lt h3]
theorem esc_digits : ∀ k : Fin 5, ∀ p ∈ escT k.1, p.1 ≠ 48 ∧ p.1 ≠ 49 := by decide +kernel
theorem dig_esc {kk : Nat} (hk : kk < 5) (a1 a2 : List Nat) (a : Nat) : escN (escT kk) (a1 ++ dig a ++ a2) = escN (escT kk) a1 ++ dig a ++ escN (escT kk) a2 := by
  rw [escN_append, escN_append, escN_not (l := dig a)]
  intro p hp hm
  have := esc_digits ⟨kk, hk⟩ p hp
  rcases dig_mem hm with e | e
  · exact this.1 e
  · exact this.2 e
theorem esc_text {kk : Nat} (hk : kk < 5) : ∀ cs : List Nat, (∀ c ∈ cs, c ∈ signSet) → (escN (escT kk) cs).length ≤ 6 * cs.length ∧ ∀ d ∈ escN (escT kk) cs, Str.isSurrogate d = false
  | [], _ => by
    rw [escN_not fun _ _ => List.not_mem_nil]
    exact ⟨Nat.zero_le _, fun _ h => nomatch h⟩
  | c :: r, h => by
    have e : escN (escT kk) (c :: r) = escN (escT kk) [c] ++ escN (escT kk) r := escN_append (escT kk) [c] r
    obtain ⟨h1, h2⟩ := esc_small ⟨kk, hk⟩ c (h c List.mem_cons_self)
    obtain ⟨h3, h4⟩ := esc_text hk r fun d hd => h d (List.mem_cons_of_mem _ hd)
    dsimp only at h1 h2
    rw [e]
    refine ⟨?_, fun d hd => ?_⟩
    · rw [List.length_append, List.length_cons]; omega
    · rcases List.mem_append.mp hd with hd | hd
      · exact h2 d hd
      · exact h4 d hd
section
variable {prog : Program} {w : World} {mean : ExcName → Option Value} {mg mb : Str → Option Value} {A : Around} {E : Value → Shared → Prop} {s : Shared} {h₀ hp hf : Heap} {tk : Nat} {L f : Addr} {cd : Value} {Q : Flow → Shared → Prop} {m : Str → Option Value}
set_option maxHeartbeats 4000000 in
theorem law_all {o1 o2 o3 o4 : Obj} {l : Addr} {vs : List Value} {ns : List Int} (g : G w mean mg mb h₀) (hh : A.handled = none) (hroom : A.depth + 1 < recursionLimit)
    (F : Fr h₀ L hp (fun _ => none)) (N : News h₀ L hp [(L + 1 + 1 + 1 + 1, o4), (L + 1 + 1 + 1, o3), (L + 1 + 1, o2), (L + 1, o1)])
    (d1 : o1.data = .cell (some (.ref l))) (d2 : o2.data = .cell none) (d3 : o3.data = .cell none) (d4 : o4.data = .cell none) (hl : h₀.IsList l vs.toArray) (hi : IntsAre vs ns) (hn : ns.length ≤ 63)
    (k : ∀ h' tk' m', Fr h₀ L h' m' → Q (.ret (.bool true)) { s with heap := h', toks := tk' }) :
    wpAny (model prog w) A (execs [ls 0, ls 1, ls 2, ls 3, ls 4, ls 5, ls 6, ls 7, ls 8, ls 9, ls 10, ls 11, ls 12, ls 13, ls 14] (lawEnv L f cd)) Q E { s with heap := hp, toks := tk } := by
  refine wpAny_execs_cons ?_
  refine st1 g F N d2 fun h1 tk1 b ob o2' bs hb hbl hbi d2' hb4 hb3 F1 N1 => ?_
  refine wpAny_execs_cons ?_
  refine st2 g hh F1 N1 d1 d2' hb hbl hbi hl hi hn fun h2 tk2 D bs2 hbl2 hbi2 F2 N2 hD4 hD3 => ?_
  refine wpAny_execs_cons ?_
  refine st3 g hh hroom F2 N2 d3 hbl2 hbi2 hD4 hD3 hb4 hb3 fun h3 tk3 hf3 d kk hk hD hT hc K3 => ?_
  refine wpAny_execs_cons ?_
  refine st4 g hh hroom K3 (by rfl) hD hbl2 hbi2 fun h4 tk4 a1 a2 t1 t2 s1 l1 s2 l2 K4 => ?_
  obtain ⟨le1, se1⟩ := esc_text hk a1 s1
  obtain ⟨le2, se2⟩ := esc_text hk a2 s2
  have lf : (escN (escT kk) a1).length ≤ 100 := by omega
  have le : (escN (escT kk) a2).length ≤ 100 := by omega
  refine wpAny_execs_cons ?_
  refine stJ (n := 4) (x := Str.ofString "ahead") (y := Str.ofString "front") rfl rfl rfl rfl g hh K4 hT hc hk (by rfl) s1 l1 fun h5 tk5 t5 K5 => ?_
  refine wpAny_execs_cons ?_
  refine stJ (n := 5) (x := Str.ofString "behind") (y := Str.ofString "end") rfl rfl rfl rfl g hh K5 hT hc hk (by rfl) s2 l2 fun h6 tk6 t6 K6 => ?_
  refine wpAny_execs_cons ?_
  refine st6 g hh hroom K6 (by rfl) se2 le fun h7 tk7 t7 K7 => ?_
  refine wpAny_execs_cons ?_
  refine st7 K7 hh fun h8 tk8 R P oR oP t8 news hR hP hRP hR4 hP4 hnew hE F8 N8 => ?_
  subst hR hP
  refine wpAny_execs_cons ?_
  refine st8 g hh hroom hRP hR4 hP4 hnew hE F8 N8 (by rfl) (by rfl) (by rfl) (by rfl) fun h9 tk9 m9 nx F9 N9 J9 => ?_
  obtain ⟨hf9, vs9, us9, x9, hRl, hPl, hus, hrs, K9, ⟨tw9, htw⟩, same⟩ := J9.kq F9 N9 hR4 hP4
  refine wpAny_execs_cons ?_
  refine st9 g hh hroom K9 ((same _ (by decide) (by decide) (by decide) (by decide) (by decide)).trans (by rfl)) ((same _ (by decide) (by decide) (by decide) (by decide) (by decide)).trans (by rfl)) se1 se2 lf le fun h10 tk10 t10 K10 => ?_
  refine wpAny_execs_cons ?_
  have sR : m9 (Str.ofString "rows") = some (.ref R) := (same _ (by decide) (by decide) (by decide) (by decide) (by decide)).trans (by rfl)
  refine st10 g hh hroom K10 (by rfl) sR hRl hrs fun h11 tk11 t11 u11 K11 => ?_
  refine wpAny_execs_cons ?_
  have sO : m9 (Str.ofString "own") = some (.ref D) := (same _ (by decide) (by decide) (by decide) (by decide) (by decide)).trans (by rfl)
  refine st11 g hh K11 sO (IsList.at' hD x9) hbi2 fun h12 tk12 third t12 h3 K12 => ?_
  refine wpAny_execs_cons ?_
  have sP : m9 (Str.ofString "powers") = some (.ref P) := (same _ (by decide) (by decide) (by decide) (by decide) (by decide)).trans (by rfl)
  refine st12 g hh K12 sP hPl hus (st8N_len _ 32).2 (by rfl) (by rfl) fun h13 tk13 m13 t13 hb13 same12 K13 => ?_
  refine wpAny_execs_cons ?_
  have w9 : m9 (Str.ofString "writer") = some (.ref (escA kk)) := (same _ (by decide) (by decide) (by decide) (by decide) (by decide)).trans (by rfl)
  have a9 : m9 (Str.ofString "ahead") = some (.str (strL a1) t1) := (same _ (by decide) (by decide) (by decide) (by decide) (by decide)).trans (by rfl)
  have b9 : m9 (Str.ofString "behind") = some (.str (strL a2) t2) := (same _ (by decide) (by decide) (by decide) (by decide) (by decide)).trans (by rfl)
  have f9 : m9 (Str.ofString "front") = some (.str (strL (escN (escT kk) a1)) t5) := (same _ (by decide) (by decide) (by decide) (by decide) (by decide)).trans (by rfl)
  have e9 : m9 (Str.ofString "end") = some (.str (strL (escN (escT kk) a2)) t6) := (same _ (by decide) (by decide) (by decide) (by decide) (by decide)).trans (by rfl)
  refine st13 g hh hroom K13 ⟨_, d4⟩ ((same12 _ (by decide) (by decide)).trans w9) ((same12 _ (by decide) (by decide)).trans a9) ((same12 _ (by decide) (by decide)).trans b9) ((same12 _ (by decide) (by decide)).trans f9) ((same12 _ (by decide) (by decide)).trans e9)
    ((same12 _ (by decide) (by decide)).trans (by rfl)) ((same12 _ (by decide) (by decide)).trans htw) ((same12 _ (by decide) (by decide)).trans (by rfl)) ((same12 _ (by decide) (by decide)).trans (by rfl)) hb13 l1 l2 lf le se1 se2 (dig_esc hk a1 a2) (plain02 h3 _ rfl) fun h14 tk14 m14 F14 => ?_
  refine wpAny_execs_cons ?_
  show wpAny _ _ (exec (.Return _ _) _) _ _ _
  repeat walk1
  exact k h14 _ m14 F14
end
theorem room_depth (e : Env) : (callerA.deeper e).depth + 1 < recursionLimit := by
  simp only [depth_deeper, depth_caller]
  decide +kernel
end Mine
set_option maxHeartbeats 8000000 in
theorem PySem.Challenge.cw_ph0069_02_holds : PySem.Challenge.rw_ph0069_02.Holds := by
  refine Mine.hd ?_
  k_go0
  all_goals (try k_fold)
  rename Fr _ _ _ _ => F
  rename News _ _ _ _ => N
  rename Heap.IsList _ _ _ => hl
  rename IntsAre _ _ => hi
  rename Top _ _ _ _ _ _ => T
  rename Frag.In _ _ => X
  rename (¬ ((63 : Nat) : Int) < _) => hc
  rename (Shared.gens _ = #[]) => hgens
  refine Mine.law_all ⟨X, T⟩ rfl (Mine.room_depth _) F N (by assumption) (by assumption) (by assumption) (by assumption) hl hi (by omega) ?_
  intro h' tk' m' F9
  w_end
  wrow_close
