import PyProof.Rows.All
import Wide.All
import OpenK.AllK
import Wide.FinOn
import PyProof.WalksEnum
import PyProof.Draws
import PyProof.Rows.LoopPair
import PySem.Challenge.RW_oc0012_02
open PySem PySem.W PyProof.Rows
set_option Elab.async false
set_option maxRecDepth 100000
set_option maxHeartbeats 8000000
set_option linter.all false
section
open PySem PySem.W PyProof.Rows
namespace Mine
open_top hd for PySem.Challenge.rw_oc0012_02
end Mine
end
section
open PySem PySem.W PyProof.Rows PySem.Calls PySem.Spec
namespace Mine
/-- the number of a row of octets, the first weighs most -/
def num (l : List Nat) : Nat := l.foldl (fun a c => a * 256 + c) 0
theorem num_snoc (l : List Nat) (c : Nat) : num (l ++ [c]) = num l * 256 + c := by simp [num, List.foldl_append]
/-- the last k sixes of a number, the first weighs most -/
def sext : Nat → Nat → List Nat
  | 0, _ => []
  | k + 1, n => sext k (n / 64) ++ [n % 64]
theorem sext_length : ∀ (k n : Nat), (sext k n).length = k
  | 0, _ => rfl
  | k + 1, n => by rw [sext, List.length_append, sext_length k]; rfl
theorem sext_lt : ∀ (k n x : Nat), x ∈ sext k n → x < 64
  | 0, _, _, h => by cases h
  | k + 1, n, x, h => by
    rw [sext] at h
    rcases List.mem_append.mp h with h | h
    · exact sext_lt k _ x h
    · rw [List.mem_singleton.mp h]; exact Nat.mod_lt _ (by decide)
def B64S : String := "ABCDEFGHIJKLMNOPQRSTUVWXYZabcdefghijklmnopqrstuvwxyz0123456789+/"
def B64A : List Nat := B64S.toList.map Char.toNat
def c64 (x : Nat) : Nat := B64A.getD x 0
def shortOf (n : Nat) : Nat := (3 - n % 3) % 3
/-- what b64encode writes -/
def b64L (l : List Nat) : List Nat := (sext ((4 * l.length + shortOf l.length) / 3) (num l * 4 ^ shortOf l.length)).map c64 ++ List.replicate (shortOf l.length) 61

/-- where the loop stands after the octets l: the signs so far, leftbits, leftchar -/
def BInv (l : List Nat) (out : List Int) (lb lc : Int) : Prop :=
  out = ((sext (8 * l.length / 6) (num l / 2 ^ (8 * l.length % 6))).map c64).map (fun x : Nat => (x : Int)) ∧ lb = ((8 * l.length % 6 : Nat) : Int) ∧ lc = ((num l % 65536 : Nat) : Int)
theorem bInv_start : BInv [] [] 0 0 := ⟨rfl, rfl, rfl⟩
theorem bInv_cases {l : List Nat} {out : List Int} {lb lc : Int} (h : BInv l out lb lc) : (l.length % 3 = 0 ∧ lb = 0) ∨ (l.length % 3 = 1 ∧ lb = 2) ∨ (l.length % 3 = 2 ∧ lb = 4) := by
  obtain ⟨_, h2, _⟩ := h
  omega
theorem bInv_lc {l : List Nat} {out : List Int} {lb lc : Int} (h : BInv l out lb lc) : 0 ≤ lc ∧ lc < 65536 := by
  obtain ⟨_, _, h3⟩ := h
  omega
/-- leftchar behind one more octet -/
def lcN (lc c : Int) : Int := (lc * 256 + c) % 65536
theorem bitAnd_z (a : Int) : Builtin.bitAnd a 0 = 0 := by
  have := bitAnd_range a (Int.le_refl 0)
  omega
theorem bitAnd_up : ∀ (k : Nat) (a y : Int), Builtin.bitAnd (a * 2 ^ k) y = 2 ^ k * Builtin.bitAnd a (y / 2 ^ k)
  | 0, a, y => by simp
  | k + 1, a, y => by
    have e1 : a * 2 ^ (k + 1) = 2 * (a * 2 ^ k) := by rw [Int.pow_succ, ← Int.mul_assoc, Int.mul_comm]
    have e2 : 2 * (a * 2 ^ k) / 2 = a * 2 ^ k := by omega
    have e3 : y / 2 ^ (k + 1) = y / 2 / 2 ^ k := by
      rw [Int.pow_succ, Int.mul_comm, Int.ediv_ediv_of_nonneg (by decide)]
    rw [kbt_halves, e1, e2, bitAnd_up k, e3, if_neg (by omega), Int.pow_succ]
    generalize Builtin.bitAnd a (y / 2 / 2 ^ k) = z
    rw [Int.add_zero, ← Int.mul_assoc, Int.mul_comm 2]
theorem lc_eq {lc : Int} {c : Nat} (hc : c < 256) : Builtin.bitAnd (Builtin.bitOr (lc * 2 ^ (8 : Int).toNat) (c : Int)) 65535 = lcN lc c := by
  have h1 := bitXor_and (lc * 2 ^ (8 : Int).toNat) (c : Int)
  have h2 : Builtin.bitXor (lc * 2 ^ (8 : Int).toNat) (c : Int) = Builtin.bitOr (lc * 2 ^ (8 : Int).toNat) (c : Int) - Builtin.bitAnd (lc * 2 ^ (8 : Int).toNat) (c : Int) := rfl
  have h3 : Builtin.bitAnd (lc * 2 ^ (8 : Int).toNat) (c : Int) = 0 := by
    rw [bitAnd_up]
    have : (c : Int) / 2 ^ (8 : Int).toNat = 0 := by
      show (c : Int) / 2 ^ 8 = 0
      omega
    rw [this, bitAnd_z, Int.mul_zero]
  have h4 : (2 : Int) ^ (8 : Int).toNat = 256 := by decide
  rw [bitAnd_m16]
  unfold lcN
  rw [h4] at h1 h2 h3 ⊢
  omega
theorem idx_eq (x : Int) (k : Nat) : Builtin.bitAnd (x.fdiv (2 ^ k)) 63 = x / 2 ^ k % 64 := by
  rw [bitAnd_m6, Int.fdiv_eq_ediv_of_nonneg _ (Int.le_of_lt (kbt_pos k))]
theorem bInv_0 {l : List Nat} {out : List Int} {lc : Int} {c : Nat} (h : BInv l out 0 lc) (hl : l.length % 3 = 0) (hc : c < 256) :
    BInv (l ++ [c]) (out ++ [((c64 ((lcN lc c / 4 % 64).toNat) : Nat) : Int)]) 2 (lcN lc c) := by
  obtain ⟨h1, _, h3⟩ := h
  have e1 : 8 * (l ++ [c]).length / 6 = 8 * l.length / 6 + 1 := by simp; omega
  have e2 : 8 * (l ++ [c]).length % 6 = 2 := by simp; omega
  have e3 : 8 * l.length % 6 = 0 := by omega
  have e4 : lcN lc c = ((num (l ++ [c]) % 65536 : Nat) : Int) := by rw [num_snoc, h3]; unfold lcN; omega
  refine ⟨?_, by rw [e2]; rfl, e4⟩
  rw [e1, e2, sext, List.map_append, List.map_append, h1, e3, num_snoc]
  congr 1
  · have : (num l * 256 + c) / 2 ^ 2 / 64 = num l / 2 ^ 0 := by omega
    rw [this]
  · rw [e4, num_snoc]
    simp only [List.map_cons, List.map_nil]
    have : ((((num l * 256 + c) % 65536 : Nat) : Int) / 4 % 64).toNat = (num l * 256 + c) / 2 ^ 2 % 64 := by omega
    rw [this]
theorem bInv_2 {l : List Nat} {out : List Int} {lc : Int} {c : Nat} (h : BInv l out 2 lc) (hl : l.length % 3 = 1) (hc : c < 256) :
    BInv (l ++ [c]) (out ++ [((c64 ((lcN lc c / 16 % 64).toNat) : Nat) : Int)]) 4 (lcN lc c) := by
  obtain ⟨h1, _, h3⟩ := h
  have e1 : 8 * (l ++ [c]).length / 6 = 8 * l.length / 6 + 1 := by simp; omega
  have e2 : 8 * (l ++ [c]).length % 6 = 4 := by simp; omega
  have e3 : 8 * l.length % 6 = 2 := by omega
  have e4 : lcN lc c = ((num (l ++ [c]) % 65536 : Nat) : Int) := by rw [num_snoc, h3]; unfold lcN; omega
  refine ⟨?_, by rw [e2]; rfl, e4⟩
  rw [e1, e2, sext, List.map_append, List.map_append, h1, e3, num_snoc]
  congr 1
  · have : (num l * 256 + c) / 2 ^ 4 / 64 = num l / 2 ^ 2 := by omega
    rw [this]
  · rw [e4, num_snoc]
    simp only [List.map_cons, List.map_nil]
    have : ((((num l * 256 + c) % 65536 : Nat) : Int) / 16 % 64).toNat = (num l * 256 + c) / 2 ^ 4 % 64 := by omega
    rw [this]
theorem bInv_4 {l : List Nat} {out : List Int} {lc : Int} {c : Nat} (h : BInv l out 4 lc) (hl : l.length % 3 = 2) (hc : c < 256) :
    BInv (l ++ [c]) (out ++ [((c64 ((lcN lc c / 64 % 64).toNat) : Nat) : Int)] ++ [((c64 ((lcN lc c % 64).toNat) : Nat) : Int)]) 0 (lcN lc c) := by
  obtain ⟨h1, _, h3⟩ := h
  have e1 : 8 * (l ++ [c]).length / 6 = 8 * l.length / 6 + 1 + 1 := by simp; omega
  have e2 : 8 * (l ++ [c]).length % 6 = 0 := by simp; omega
  have e3 : 8 * l.length % 6 = 4 := by omega
  have e4 : lcN lc c = ((num (l ++ [c]) % 65536 : Nat) : Int) := by rw [num_snoc, h3]; unfold lcN; omega
  refine ⟨?_, by rw [e2]; rfl, e4⟩
  rw [e1, e2, sext, sext, List.map_append, List.map_append, List.map_append, List.map_append, h1, e3, num_snoc]
  congr 1
  · congr 1
    · have : (num l * 256 + c) / 2 ^ 0 / 64 / 64 = num l / 2 ^ 4 := by omega
      rw [this]
    · rw [e4, num_snoc]
      simp only [List.map_cons, List.map_nil]
      have : ((((num l * 256 + c) % 65536 : Nat) : Int) / 64 % 64).toNat = (num l * 256 + c) / 2 ^ 0 / 64 % 64 := by omega
      rw [this]
  · rw [e4, num_snoc]
    simp only [List.map_cons, List.map_nil]
    have : ((((num l * 256 + c) % 65536 : Nat) : Int) % 64).toNat = (num l * 256 + c) / 2 ^ 0 % 64 := by omega
    rw [this]
theorem bInv_end0 {l : List Nat} {out : List Int} {lc : Int} (h : BInv l out 0 lc) (hl : l.length % 3 = 0) : out = (b64L l).map (fun x : Nat => (x : Int)) := by
  rw [h.1]
  unfold b64L
  have e1 : shortOf l.length = 0 := by unfold shortOf; omega
  have e2 : 8 * l.length % 6 = 0 := by omega
  have e3 : 8 * l.length / 6 = (4 * l.length + 0) / 3 := by omega
  rw [e1, e2, e3]
  simp
theorem bInv_end2 {l : List Nat} {out : List Int} {lc : Int} (h : BInv l out 2 lc) (hl : l.length % 3 = 1) :
    out ++ [((c64 ((lc % 4 * 16).toNat) : Nat) : Int)] ++ [61] ++ [61] = (b64L l).map (fun x : Nat => (x : Int)) := by
  rw [h.1]
  unfold b64L
  have e1 : shortOf l.length = 2 := by unfold shortOf; omega
  have e2 : 8 * l.length % 6 = 2 := by omega
  have e3 : (4 * l.length + 2) / 3 = 8 * l.length / 6 + 1 := by omega
  rw [e1, e2, e3, sext, List.map_append, List.map_append, List.map_append, h.2.2]
  have e4 : num l * 4 ^ 2 / 64 = num l / 2 ^ 2 := by omega
  have e5 : (((num l % 65536 : Nat) : Int) % 4 * 16).toNat = num l * 4 ^ 2 % 64 := by omega
  rw [e4, e5]
  simp [List.replicate]
theorem bInv_end4 {l : List Nat} {out : List Int} {lc : Int} (h : BInv l out 4 lc) (hl : l.length % 3 = 2) :
    out ++ [((c64 ((lc % 16 * 4).toNat) : Nat) : Int)] ++ [61] = (b64L l).map (fun x : Nat => (x : Int)) := by
  rw [h.1]
  unfold b64L
  have e1 : shortOf l.length = 1 := by unfold shortOf; omega
  have e2 : 8 * l.length % 6 = 4 := by omega
  have e3 : (4 * l.length + 1) / 3 = 8 * l.length / 6 + 1 := by omega
  rw [e1, e2, e3, sext, List.map_append, List.map_append, List.map_append, h.2.2]
  have e4 : num l * 4 ^ 1 / 64 = num l / 2 ^ 4 := by omega
  have e5 : (((num l % 65536 : Nat) : Int) % 16 * 4).toNat = num l * 4 ^ 1 % 64 := by omega
  rw [e4, e5]
  simp [List.replicate]
theorem c64_lt (x : Nat) : c64 x < 128 := by
  unfold c64
  rw [List.getD_eq_getElem?_getD]
  cases h : B64A[x]? with
  | none => decide
  | some k =>
    have : ∀ k ∈ B64A, k < 128 := by decide +kernel
    exact this k (List.mem_of_getElem? h)
theorem b64L_lt {l : List Nat} {x : Nat} (h : x ∈ b64L l) : x < 128 := by
  unfold b64L at h
  rcases List.mem_append.mp h with h | h
  · obtain ⟨y, _, rfl⟩ := List.mem_map.mp h
    exact c64_lt y
  · rw [(List.mem_replicate.mp h).2]; decide
theorem b64L_length (l : List Nat) : (b64L l).length = (4 * l.length + shortOf l.length) / 3 + shortOf l.length := by
  unfold b64L
  rw [List.length_append, List.length_map, sext_length, List.length_replicate]
theorem b64L_in (l : List Nat) : ∀ n ∈ (b64L l).map (fun x : Nat => (x : Int)), 0 ≤ n ∧ n < 256 := by
  intro n hn
  obtain ⟨x, hx, rfl⟩ := List.mem_map.mp hn
  have := b64L_lt hx
  omega
end Mine
end
section
open PySem PySem.W PyProof.Rows PySem.Calls PySem.Spec
namespace Mine
section
variable {prog : Program} {w : World} {A : Around} {s : Shared} {env : Env} {h₀ : Heap}

/-- a turn's end: the frame, the ledger (with the iterator behind), and what holds next -/
def TEnd (h₀ : Heap) (L : Addr) (s : Shared) (I : Addr) (oI : Obj) (adr : List Addr) (Jn : (Str → Option Value) → List (Addr × Obj) → Prop) (s₃ : Shared) : Prop :=
  ∃ h' tk' m' news', s₃ = { s with heap := h', toks := tk' } ∧ Fr h₀ L h' m' ∧ News h₀ L h' (news' ++ [(I, oI)]) ∧ news'.map (·.1) = adr ∧ Jn m' news'
theorem TEnd.intro {L I : Addr} {oI : Obj} {adr : List Addr} {Jn : (Str → Option Value) → List (Addr × Obj) → Prop} {h' : Heap} {tk' : Nat} {m' : Str → Option Value} {hd news rest : List (Addr × Obj)}
    (F : Fr h₀ L h' m') (N : News h₀ L h' (hd ++ rest)) (hre : news ++ [(I, oI)] = rest) (ha : hd.map (·.1) ++ news.map (·.1) = adr) (hJ : Jn m' (hd ++ news)) :
    TEnd h₀ L s I oI adr Jn { s with heap := h', toks := tk' } := by
  subst hre
  exact ⟨h', tk', m', hd ++ news, rfl, F, by rw [List.append_assoc]; exact N, by rw [List.map_append]; exact ha, hJ⟩

theorem forLoop_rule {R : Result → Shared → Prop} {x : Str} {px : Pos} {body orelse : List Stmt} {I : Addr} {fp : List Addr} {n : Nat} {P : Nat → Value → Prop} {St : Nat → Heap → Prop}
    {m : Str → Option Value} {news : List (Addr × Obj)} (W : Walks prog w A I fp [I] n P St) (hx : env.kindOf x = some .local)
    (hp : (env.scope.kind == .class || (env.scope.kind == .module && env.locals != env.globals)) = false)
    (hLf : env.locals ∉ fp) (hwr : h₀.get? I = none) (hnw : ∀ p ∈ news, p.1 ≠ I) (hIo : ∀ i h, St i h → ∃ o, h.get? I = some o)
    (hst : St 0 s.heap) (F : Fr h₀ env.locals s.heap m) (N : News h₀ env.locals s.heap news)
    (J : Nat → (Str → Option Value) → List (Addr × Obj) → Prop) (h0 : J 0 m news)
    (hfp : ∀ b ∈ fp, b ≠ I → (∃ o, h₀.get? b = some o) ∨ ∃ o, ∀ i m₁ news₁, J i m₁ news₁ → (b, o) ∈ news₁)
    (turn : ∀ i v m₁ news₁ h tk oI, i < n → P i v → J i m₁ news₁ → news₁.map (·.1) = news.map (·.1) →
      Fr h₀ env.locals h (fun y => if y = x then some v else m₁ y) → News h₀ env.locals h (news₁ ++ [(I, oI)]) →
      wpAny (model prog w) A (execs body env) (fun f s₃ => match f with
        | .ret v => R (.ok (.ret v)) s₃
        | .brk => R (.ok .next) s₃
        | _ => TEnd h₀ env.locals s I oI (news.map (·.1)) (J (i + 1)) s₃)
        (fun _ _ => False) { s with heap := h, toks := tk })
    (done : ∀ m₁ news₁ h tk, J n m₁ news₁ → news₁.map (·.1) = news.map (·.1) → Fr h₀ env.locals h m₁ → News h₀ env.locals h news₁ →
      wpAny (model prog w) A (execs orelse env) (fun f s₃ => R (.ok f) s₃) (fun _ _ => False) { s with heap := h, toks := tk }) :
    codeAny (model prog w) A (.forLoop (.Name x px) (.ref I) body orelse env) R s := by
  have hIf : I ∈ fp := W.sub I (List.mem_singleton.mpr rfl)
  have hLI : env.locals ≠ I := fun e => hLf (e ▸ hIf)
  refine codeAny_forLoop
    (fun k s' => ∃ h' tk m' news' i, s' = { s with heap := h', toks := tk } ∧ St i h' ∧ Fr h₀ env.locals h' m' ∧ News h₀ env.locals h' news' ∧ news'.map (·.1) = news.map (·.1) ∧ J i m' news' ∧ i ≤ n ∧ k = n + 1 - i) ?_ (n + 1)
    ⟨s.heap, s.toks, m, news, 0, rfl, hst, F, N, rfl, h0, Nat.zero_le _, rfl⟩
  rintro k s' ⟨h', tk, m', news', i, rfl, hst', F', N', hadr, hJ, hi, rfl⟩
  have off : ∀ p ∈ news', p.1 ≠ I := fun p hp e => by
    have h1 : p.1 ∈ news.map (·.1) := by rw [← hadr]; exact List.mem_map.mpr ⟨p, hp, rfl⟩
    obtain ⟨q, hq, e'⟩ := List.mem_map.mp h1
    exact hnw q hq (e'.trans e)
  by_cases hlt : i < n
  · refine W.item i _ _ _ hlt hst' fun v h₁ tk₁ hP hst₁ hk₁ => ?_
    have F₁ : Fr h₀ env.locals h₁ m' := LCg.fr_but F' hk₁ hLI hwr
    have N₁ : News h₀ env.locals h₁ news' := LCg.news_but N' hk₁ off
    refine wpAny_assign_Name (wpAny_storeName_local hx F₁.ns (fun h₂ hn₂ hs₂ => ?_) hp)
    have F₂ := F₁.set hn₂ hs₂
    have N₂ := N₁.set hs₂
    have hst₂ : St (i + 1) h₂ := W.frame _ _ _ hst₁ fun b hb o e => (hs₂.2 b fun q => hLf (q ▸ hb)).trans e
    obtain ⟨oI, heI⟩ := hIo _ _ hst₂
    have N₂' : News h₀ env.locals h₂ (news' ++ [(I, oI)]) := N₂.append fun p hp => by
      rw [List.mem_singleton.mp hp]
      exact ⟨heI, Ne.symm hLI, hwr⟩
    refine wpAny_mono (turn i v m' news' h₂ _ oI hlt hP hJ hadr F₂ N₂') (fun f s₃ h₃ => ?_) fun _ _ e => e.elim
    have fin : TEnd h₀ env.locals s I oI (news.map (·.1)) (J (i + 1)) s₃ →
        ∃ k', k' < n + 1 - i ∧ ∃ h' tk m' news' i, s₃ = { s with heap := h', toks := tk } ∧ St i h' ∧ Fr h₀ env.locals h' m' ∧ News h₀ env.locals h' news' ∧ news'.map (·.1) = news.map (·.1) ∧ J i m' news' ∧ i ≤ n ∧ k' = n + 1 - i := by
      rintro ⟨h₄, tk₃, m₃, news₃, rfl, F₃, N₃, hadr₃, hJ₃⟩
      refine ⟨n + 1 - (i + 1), by omega, h₄, tk₃, m₃, news₃, i + 1, rfl, ?_, F₃, fun p hp => N₃ p (List.mem_append_left _ hp), hadr₃, hJ₃, hlt, rfl⟩
      refine W.frame _ _ _ hst₂ fun b hb o e => ?_
      by_cases hbI : b = I
      · subst hbI
        rw [heI] at e; cases e
        exact (N₃ _ (List.mem_append_right _ (List.mem_singleton.mpr rfl))).1
      · rcases hfp b hb hbI with ⟨o', e'⟩ | ⟨o', e'⟩
        · have : o' = o := by have := F₂.keep b o' e'; rw [e] at this; exact (Option.some.inj this).symm
          exact this ▸ F₃.keep b o' e'
        · have : o' = o := by have := (N₂ _ (e' i m' news' hJ)).1; rw [e] at this; exact (Option.some.inj this).symm
          exact this ▸ (N₃ _ (List.mem_append_left _ (e' _ _ _ hJ₃))).1
    cases f with
    | ret v => exact h₃
    | brk => exact h₃
    | cont => exact fin h₃
    | next => exact fin h₃
  · have hin : i = n := by omega
    subst hin
    refine W.done _ _ _ hst' fun h₁ tk₁ hk₁ => ?_
    exact wpAny_mono (done m' news' h₁ tk₁ hJ hadr (LCg.fr_but F' hk₁ hLI hwr) (LCg.news_but N' hk₁ off)) (fun _ _ e => e) fun _ _ e => e.elim

theorem loopV_rule {E : Value → Shared → Prop} {Q : Flow → Shared → Prop} {x : Str} {body : List Stmt} {I : Addr} {fp : List Addr} {n : Nat} {P : Nat → Value → Prop} {St : Nat → Heap → Prop}
    {m : Str → Option Value} {news : List (Addr × Obj)} (W : Walks prog w A I fp [I] n P St)
    (hLf : env.locals ∉ fp) (hwr : h₀.get? I = none) (hnw : ∀ p ∈ news, p.1 ≠ I) (hIo : ∀ i h, St i h → ∃ o, h.get? I = some o)
    (hst : St 0 s.heap) (F : Fr h₀ env.locals s.heap m) (N : News h₀ env.locals s.heap news)
    (J : Nat → (Str → Option Value) → List (Addr × Obj) → Prop) (h0 : J 0 m news)
    (hfp : ∀ b ∈ fp, b ≠ I → (∃ o, h₀.get? b = some o) ∨ ∃ o, ∀ i m₁ news₁, J i m₁ news₁ → (b, o) ∈ news₁)
    (turn : ∀ i v m₁ news₁ h tk oI, i < n → P i v → J i m₁ news₁ → news₁.map (·.1) = news.map (·.1) →
      Fr h₀ env.locals h (fun y => if y = x then some v else m₁ y) → News h₀ env.locals h (news₁ ++ [(I, oI)]) →
      wpAny (model prog w) A (execs body env) (fun f s₃ => match f with
        | .ret v => Q (.ret v) s₃
        | .brk => Q .next s₃
        | _ => TEnd h₀ env.locals s I oI (news.map (·.1)) (J (i + 1)) s₃)
        (fun _ _ => False) { s with heap := h, toks := tk })
    (done : ∀ m₁ news₁ h tk, J n m₁ news₁ → news₁.map (·.1) = news.map (·.1) → Fr h₀ env.locals h m₁ → News h₀ env.locals h news₁ → Q .next { s with heap := h, toks := tk }) :
    LoopAtV prog w A h₀ env x body Q E (.ref I) s := by
  have hIf : I ∈ fp := W.sub I (List.mem_singleton.mpr rfl)
  have hLI : env.locals ≠ I := fun e => hLf (e ▸ hIf)
  have off : ∀ nx : List (Addr × Obj), nx.map (·.1) = news.map (·.1) → ∀ p ∈ nx, p.1 ∉ [I] := fun nx hadr p hp e => by
    have h1 : p.1 ∈ news.map (·.1) := by rw [← hadr]; exact List.mem_map.mpr ⟨p, hp, rfl⟩
    obtain ⟨q, hq, e'⟩ := List.mem_map.mp h1
    exact hnw q hq (e'.trans (List.mem_singleton.mp e))
  refine ⟨I, fp, [I], n, P, St, m, news, fun i m₁ nx => nx.map (·.1) = news.map (·.1) ∧ J i m₁ nx, rfl, W, hLf, (fun b hb => by rw [List.mem_singleton.mp hb]; exact hwr), off news rfl, hst, F, N, ⟨rfl, h0⟩, ?_, ?_⟩
  · rintro i v m₁ news₁ s₁ own ⟨h, tk, rfl⟩ hi hP ⟨hadr, hJ⟩ hoff hsub hget hall hst₁ F₁ N₁
    obtain ⟨oI, heI⟩ := hIo _ _ hst₁
    have N₂ : News h₀ env.locals h (news₁ ++ [(I, oI)]) := fun p hp => by
      rcases List.mem_append.mp hp with hp | hp
      · exact N₁ p (List.mem_append_right _ hp)
      · rw [List.mem_singleton.mp hp]; exact ⟨heI, Ne.symm hLI, hwr⟩
    refine wpAny_mono (turn i v m₁ news₁ h tk oI hi hP hJ hadr F₁ N₂) (fun f s₃ h₃ => ?_) fun _ _ e => e.elim
    have fin : TEnd h₀ env.locals s I oI (news.map (·.1)) (J (i + 1)) s₃ → LoopStepU h₀ env.locals [I] own (fun m₁ nx => nx.map (·.1) = news.map (·.1) ∧ J (i + 1) m₁ nx) { s with heap := h, toks := tk } .next s₃ := by
      rintro ⟨h₄, tk₃, m₃, news₃, rfl, F₃, N₃, hadr₃, hJ₃⟩
      refine ⟨rfl, h₄, tk₃, m₃, news₃, rfl, F₃, fun p hp => ?_, off news₃ hadr₃, hadr₃, hJ₃⟩
      rcases List.mem_append.mp hp with hp | hp
      · have hpg := hget p hp
        have hpf := hsub p hp
        have hpn := (N₁ p (List.mem_append_left _ hp)).2
        by_cases hbI : p.1 = I
        · have e2 : p.2 = oI := by rw [hbI] at hpg; rw [heI] at hpg; exact (Option.some.inj hpg).symm
          have := N₃ (I, oI) (List.mem_append_right _ (List.mem_singleton.mpr rfl))
          rw [← hbI, ← e2] at this
          exact this
        · rcases hfp p.1 hpf hbI with ⟨o', e'⟩ | ⟨o', e'⟩
          · rw [hpn.2] at e'; cases e'
          · have e2 : o' = p.2 := by have := (N₁ _ (List.mem_append_right _ (e' i m₁ news₁ hJ))).1; rw [hpg] at this; exact (Option.some.inj this).symm
            have := N₃ _ (List.mem_append_left _ (e' _ _ _ hJ₃))
            rw [e2] at this
            exact this
      · exact N₃ p (List.mem_append_left _ hp)
    cases f with
    | ret v => exact .ret h₃
    | brk => exact .brk h₃
    | cont => exact .cont (fin h₃)
    | next => exact .next (fin h₃)
  · rintro h' tk m' news' F' N' hoff ⟨hadr, hJ⟩
    exact done m' news' h' tk hJ hadr F' N'

/-- for over bytes -/
theorem bytesV_rule {E : Value → Shared → Prop} {Q : Flow → Shared → Prop} {x : Str} {body : List Stmt} {b : Array UInt8} {tb : Tok} {m : Str → Option Value} {news : List (Addr × Obj)} (hh : A.handled = none)
    (F : Fr h₀ env.locals s.heap m) (N : News h₀ env.locals s.heap news)
    (J : Nat → (Str → Option Value) → List (Addr × Obj) → Prop) (h0 : J 0 m news)
    (turn : ∀ i c t m₁ news₁ h tk I oI, b[i]? = some c → J i m₁ news₁ → news₁.map (·.1) = news.map (·.1) → (∀ p ∈ news, p.1 < I) →
      Fr h₀ env.locals h (fun y => if y = x then some (.int (c.toNat : Int) t) else m₁ y) → News h₀ env.locals h (news₁ ++ [(I, oI)]) →
      wpAny (model prog w) A (execs body env) (fun f s₃ => match f with
        | .ret v => Q (.ret v) s₃
        | .brk => Q .next s₃
        | _ => TEnd h₀ env.locals s I oI (news.map (·.1)) (J (i + 1)) s₃)
        (fun _ _ => False) { s with heap := h, toks := tk })
    (done : ∀ m₁ news₁ h tk, J b.size m₁ news₁ → news₁.map (·.1) = news.map (·.1) → Fr h₀ env.locals h m₁ → News h₀ env.locals h news₁ → Q .next { s with heap := h, toks := tk }) :
    wpAny (model prog w) A (pyIter (.bytes b tb)) (fun it s₂ => LoopAtV prog w A h₀ env x body Q E it s₂) E s := by
  refine KBw.pyIter_bytes ?_
  have off : ∀ p ∈ news, p.1 < s.heap.objs.size := fun p hp => Heap.lt_size (N p hp).1
  refine loopV_rule (s := { s with heap := _ }) (KBw.walks hh s.heap.objs.size b tb) (fun hm => ?_) (next_is_new F) (fun p hp => Nat.ne_of_lt (off p hp)) (fun i h st => let ⟨o, ho, _⟩ := st; ⟨o, ho⟩)
    ⟨_, Heap.get?_push_size _ rfl, rfl, rfl⟩ (F.push _) (fun p hp => ⟨Heap.get?_push_of_some _ (N p hp).1, (N p hp).2⟩) J h0 (fun b hb hbI => absurd (List.mem_singleton.mp hb) hbI) ?_ ?_
  · rw [List.mem_singleton.mp hm] at F
    exact absurd F.ns.lt (Nat.lt_irrefl _)
  · rintro i v m₁ news₁ h tk oI hi ⟨c, u, hc, rfl⟩ hJ hadr F₁ N₁
    exact turn i c u m₁ news₁ h tk _ oI hc hJ hadr off F₁ N₁
  · exact done

/-- for over a list of the ledger that the turns leave as it is -/
theorem listV_rule {E : Value → Shared → Prop} {Q : Flow → Shared → Prop} {x : Str} {body : List Stmt} {l : Addr} {ol : Obj} {its : Array Value} {m : Str → Option Value} {news : List (Addr × Obj)} (hh : A.handled = none)
    (F : Fr h₀ env.locals s.heap m) (N : News h₀ env.locals s.heap news) (hml : (l, ol) ∈ news) (hl : ol.cls = .type "list" ∧ ∃ k, ol.data = .seq its k)
    (J : Nat → (Str → Option Value) → List (Addr × Obj) → Prop) (h0 : J 0 m news) (hJl : ∀ i m₁ news₁, J i m₁ news₁ → (l, ol) ∈ news₁)
    (turn : ∀ i v m₁ news₁ h tk I oI, its[i]? = some v → J i m₁ news₁ → news₁.map (·.1) = news.map (·.1) → (∀ p ∈ news, p.1 < I) →
      Fr h₀ env.locals h (fun y => if y = x then some v else m₁ y) → News h₀ env.locals h (news₁ ++ [(I, oI)]) →
      wpAny (model prog w) A (execs body env) (fun f s₃ => match f with
        | .ret v => Q (.ret v) s₃
        | .brk => Q .next s₃
        | _ => TEnd h₀ env.locals s I oI (news.map (·.1)) (J (i + 1)) s₃)
        (fun _ _ => False) { s with heap := h, toks := tk })
    (done : ∀ m₁ news₁ h tk, J its.size m₁ news₁ → news₁.map (·.1) = news.map (·.1) → Fr h₀ env.locals h m₁ → News h₀ env.locals h news₁ → Q .next { s with heap := h, toks := tk }) :
    wpAny (model prog w) A (pyIter (.ref l)) (fun it s₂ => LoopAtV prog w A h₀ env x body Q E it s₂) E s := by
  have hll : s.heap.IsList l its := ⟨ol, (N _ hml).1, hl.1, hl.2⟩
  refine wpAny_pyIter_list hll ?_
  have off : ∀ p ∈ news, p.1 < s.heap.objs.size := fun p hp => Heap.lt_size (N p hp).1
  refine loopV_rule (s := { s with heap := _ }) (Walks.list hh s.heap.objs.size l (Nat.ne_of_lt (off _ hml)) its) (fun hm => ?_) (next_is_new F) (fun p hp => Nat.ne_of_lt (off p hp)) (fun i h st => let ⟨o, ho, _⟩ := st.1; ⟨o, ho⟩)
    ⟨⟨_, Heap.get?_push_size _ rfl, rfl, rfl⟩, hll.push _⟩ (F.push _) (fun p hp => ⟨Heap.get?_push_of_some _ (N p hp).1, (N p hp).2⟩) J h0 ?_ ?_ ?_
  · rcases List.mem_cons.mp hm with e | hm
    · rw [e] at F
      exact absurd F.ns.lt (Nat.lt_irrefl _)
    · exact (N _ hml).2.1 (List.mem_singleton.mp hm).symm
  · intro b hb hbI
    rcases List.mem_cons.mp hb with e | hb
    · exact absurd e hbI
    · rw [List.mem_singleton.mp hb]
      exact .inr ⟨ol, fun i m₁ news₁ hJ => hJl i m₁ news₁ hJ⟩
  · intro i v m₁ news₁ h tk oI hi hv hJ hadr F₁ N₁
    exact turn i v m₁ news₁ h tk _ oI hv hJ hadr off F₁ N₁
  · exact done

/-- for over a range, from the iterable on -/
theorem range_rule {E : Value → Shared → Prop} {R : Result → Shared → Prop} {x : Str} {px : Pos} {body orelse : List Stmt} {r : Addr} {a b c : Int} {t u v : Tok} {n : Nat}
    {m : Str → Option Value} {news : List (Addr × Obj)} (hr : IsRange s.heap r a b c t u v) (hsm : Builtin.Range.small a b c = true) (hn : Builtin.Range.rangeSize a b c = (n : Int))
    (hh : A.handled = none) (hx : env.kindOf x = some .local)
    (hp : (env.scope.kind == .class || (env.scope.kind == .module && env.locals != env.globals)) = false)
    (F : Fr h₀ env.locals s.heap m) (N : News h₀ env.locals s.heap news)
    (J : Nat → (Str → Option Value) → List (Addr × Obj) → Prop) (h0 : J 0 m news)
    (turn : ∀ i t m₁ news₁ h tk I oI, i < n → J i m₁ news₁ → news₁.map (·.1) = news.map (·.1) → (∀ p ∈ news, p.1 < I) →
      Fr h₀ env.locals h (fun y => if y = x then some (.int (a + i * c) t) else m₁ y) → News h₀ env.locals h (news₁ ++ [(I, oI)]) →
      wpAny (model prog w) A (execs body env) (fun f s₃ => match f with
        | .ret v => R (.ok (.ret v)) s₃
        | .brk => R (.ok .next) s₃
        | _ => TEnd h₀ env.locals s I oI (news.map (·.1)) (J (i + 1)) s₃)
        (fun _ _ => False) { s with heap := h, toks := tk })
    (done : ∀ m₁ news₁ h tk, J n m₁ news₁ → news₁.map (·.1) = news.map (·.1) → Fr h₀ env.locals h m₁ → News h₀ env.locals h news₁ →
      wpAny (model prog w) A (execs orelse env) (fun f s₃ => R (.ok f) s₃) (fun _ _ => False) { s with heap := h, toks := tk }) :
    wpAny (model prog w) A (pyIter (.ref r)) (fun it s₂ => codeAny (model prog w) A (.forLoop (.Name x px) it body orelse env) R s₂) E s := by
  refine wpAny_pyIter_range hr hsm ?_
  have off : ∀ p ∈ news, p.1 < s.heap.objs.size := fun p hp => Heap.lt_size (N p hp).1
  refine forLoop_rule (s := { s with heap := _ }) (Walks.range hh s.heap.objs.size a c n) hx hp (fun hm => ?_) (next_is_new F) (fun p hp => Nat.ne_of_lt (off p hp)) (fun i h st => ⟨_, st⟩) ?_ (F.push _)
    (fun p hp => ⟨Heap.get?_push_of_some _ (N p hp).1, (N p hp).2⟩) J h0 (fun b hb hbI => absurd (List.mem_singleton.mp hb) hbI) ?_ ?_
  · rw [List.mem_singleton.mp hm] at F
    exact absurd F.ns.lt (Nat.lt_irrefl _)
  · show IsRangeIter _ _ (a + ((0 : Nat) : Int) * c) ((n : Int) - ((0 : Nat) : Int)) c
    have := Heap.get?_push_size s.heap (o := { cls := .type "range_iterator", data := .fields #[rawInt a, rawInt (Builtin.Range.rangeSize a b c), rawInt c] }) rfl
    simpa [IsRangeIter, hn] using this
  · rintro i v m₁ news₁ h tk oI hi ⟨t, rfl⟩ hJ hadr F₁ N₁
    exact turn i t m₁ news₁ h tk _ oI hi hJ hadr off F₁ N₁
  · exact done
end

theorem pow_nat {prog : Program} {w : World} {A : Around} {E : Value → Shared → Prop} {s : Shared} {a : Int} {n : Nat} {t u : Tok} {Q : Value → Shared → Prop} (ha : Builtin.Int.intBits a ≤ 100) (hn : n ≤ 1000) (h : Q (.int (a ^ n) s.toks) { s with toks := s.toks + 1 }) :
    wpAny (model prog w) A (binaryOp .Pow (.int a t) (.int (n : Int) u)) Q E s := by
  refine pow_int (by omega) ?_ (by simpa using h)
  have h1 : Builtin.Int.intBits a * n ≤ 100 * 1000 := Nat.mul_le_mul ha hn
  have h2 : ((Builtin.Int.intBits a * n : Nat) : Int) ≤ 100 * 1000 := by exact_mod_cast h1
  rw [Int.natCast_mul] at h2
  exact Int.le_trans h2 (by decide)
theorem fdiv_pow {prog : Program} {w : World} {A : Around} {E : Value → Shared → Prop} {s : Shared} {x a : Int} {n : Nat} {t u : Tok} {Q : Value → Shared → Prop} (h0 : 0 < a) (h1 : a ≤ 256) (hn : n ≤ 1000) (h : Q (.int (x / a ^ n) s.toks) { s with toks := s.toks + 1 }) :
    wpAny (model prog w) A (binaryOp .FloorDiv (.int x t) (.int (a ^ n) u)) Q E s := by
  have hp : 0 < a ^ n := Int.pow_pos h0
  refine floordiv_int (Int.ne_of_gt hp) ?_ (.inl (PyProof.noPylong_of_log2 ?_))
  · rw [Int.fdiv_eq_ediv_of_nonneg _ (Int.le_of_lt hp)]
    exact h
  · have e1 : (a ^ n).natAbs ≤ 256 ^ 1000 := by
      rw [Int.natAbs_pow]
      exact Nat.le_trans (Nat.pow_le_pow_left (by omega) n) (Nat.pow_le_pow_right (by decide) hn)
    have e2 : (a ^ n).natAbs ≠ 0 := by omega
    rw [Nat.log2_lt e2]
    refine Nat.lt_of_le_of_lt e1 ?_
    rw [show (256 : Nat) = 2 ^ 8 from rfl, ← Nat.pow_mul]
    exact Nat.pow_lt_pow_right (by decide) (by decide)
theorem mod_pos {prog : Program} {w : World} {A : Around} {E : Value → Shared → Prop} {s : Shared} {a b : Int} {t u : Tok} {Q : Value → Shared → Prop} (hb : 0 < b) (h : Q (.int (a % b) s.toks) { s with toks := s.toks + 1 }) :
    wpAny (model prog w) A (binaryOp .Mod (.int a t) (.int b u)) Q E s := by
  refine mod_int' (Int.ne_of_gt hb) ?_
  rw [Int.fmod_eq_emod_of_nonneg _ (Int.le_of_lt hb)]
  exact h
theorem c64_getD (j : Nat) : (B64A.map (fun x : Nat => (x : Int))).getD j 0 = ((c64 j : Nat) : Int) := by
  unfold c64
  rw [List.getD_eq_getElem?_getD, List.getD_eq_getElem?_getD, List.getElem?_map]
  cases B64A[j]? <;> rfl
theorem b64_item {prog : Program} {w : World} {A : Around} {E : Value → Shared → Prop} {s : Shared} {value slice : PySem.Expr} {b : Array UInt8} {t ui : Tok} {i : Int} {Q : Value → Shared → Prop} (hk : KBw.bInts b = B64A.map (fun x : Nat => (x : Int))) (h0 : 0 ≤ i) (h1 : i < 64)
    (h : ∀ t' k, Q (.int ((c64 i.toNat : Nat) : Int) t') { s with toks := k })
    (hs : subscripted slice false (.bytes b t) (.int i ui) = operate [.bytes b t, .int i ui] (getItem (.bytes b t) (.int i ui)) := by with_unfolding_all rfl)
    (ht : ∀ r, letTemporaryGo value (.bytes b t) r = pure () := by intro _; with_unfolding_all rfl) : wpAny (model prog w) A (subscriptTail value slice (.bytes b t) (.int i ui)) Q E s := by
  have hl : (B64A.map (fun x : Nat => (x : Int))).length = 64 := by decide +kernel
  refine KBw.item_K hk (by rw [hl]; decide) h0 (by rw [hl]; exact h1) (fun t' k _ _ => ?_) hs ht
  rw [c64_getD]
  exact h t' k
theorem idx63 (x : Int) : 0 ≤ Builtin.bitAnd x 63 ∧ Builtin.bitAnd x 63 < 64 := by
  rw [bitAnd_m6]
  omega
def strOf : PyData → Option Str
  | .str y => some y
  | _ => none
theorem strOf_some {d : PyData} {y : Str} (h : strOf d = some y) : d = .str y := by
  cases d <;> first | (cases h; rfl) | cases h
section
variable {prog : Program} {w : World} {A : Around} {E : Value → Shared → Prop} {s : Shared} {h₀ : Heap}
theorem get_word {a : Addr} {D : List (Int × PyData)} {Q : Value → Shared → Prop} {k : Int} {tk ty : Tok} {y z : Str} (K : KTD.Keyed h₀ a D) (hk : ∀ b o, h₀.get? b = some o → s.heap.get? b = some o)
    (hD : strOf ((KTD.datumAt k D).getD (.str y)) = some z) (h : ∀ t, Q (.str z t) { s with toks := s.toks + 1 }) :
    wpAny (model prog w) A (call (.builtin "dict.get") [.ref a, .int k tk, .str y ty]) Q E s :=
  call_get2_intTab (K.keep hk prog w) (PyProof.V.Flat.str y ty) fun v hv => by
    rw [KTD.lookup_keyed, strOf_some hD] at hv
    obtain ⟨t, rfl⟩ := PyProof.V.Flat.str_inv hv
    exact h t
end
theorem up2 {m : Str → Option Value} {a b : Str} {v v' : Option Value} (ha : m a = v) (hb : m b = v') : m = fun y => if y = a then v else if y = b then v' else m y := by
  funext y
  by_cases h1 : y = a
  · rw [if_pos h1, h1, ha]
  · rw [if_neg h1]
    by_cases h2 : y = b
    · rw [if_pos h2, h2, hb]
    · rw [if_neg h2]
theorem up1 {m : Str → Option Value} {a : Str} {v : Option Value} (ha : m a = v) : m = fun y => if y = a then v else m y := by
  funext y
  by_cases h1 : y = a
  · rw [if_pos h1, h1, ha]
  · rw [if_neg h1]
theorem up3 {m : Str → Option Value} {a b c : Str} {va vb vc : Option Value} (ha : m a = va) (hb : m b = vb) (hc : m c = vc) : m = fun y => if y = a then va else if y = b then vb else if y = c then vc else m y := by
  funext y
  show m y = _
  repeat' (first | rfl | (split; (next h => rw [h]; assumption)))
theorem up4 {m : Str → Option Value} {a b c d : Str} {va vb vc vd : Option Value} (ha : m a = va) (hb : m b = vb) (hc : m c = vc) (hd : m d = vd) :
    m = fun y => if y = a then va else if y = b then vb else if y = c then vc else if y = d then vd else m y := by
  funext y
  show m y = _
  repeat' (first | rfl | (split; (next h => rw [h]; assumption)))
theorem ints_snoc {vs : List Value} {ns : List Int} (h : IntsAre vs ns) (n : Int) (t : Tok) : IntsAre (vs ++ [.int n t]) (ns ++ [n]) := by
  induction h with
  | nil => exact .cons n t .nil
  | cons n' t' _ ih => exact .cons n' t' ih
theorem strValues_snoc (l : List (Str × Tok)) (y : Str) (t : Tok) : (strValues l).toArray.push (.str y t) = (strValues (l ++ [(y, t)])).toArray := by
  simp [strValues]
section
variable {prog : Program} {w : World} {A : Around} {E : Value → Shared → Prop} {s : Shared} {h₀ : Heap} {L : Addr} {m : Str → Option Value}
theorem append_str {l' : Addr} {l : List (Str × Tok)} {k : Nat} {rest : List (Addr × Obj)} {y : Str} {t : Tok} {Q : Value → Shared → Prop} (F : Fr h₀ L s.heap m) (N : News h₀ L s.heap ((l', listOf (strValues l).toArray k) :: rest)) (hrest : ∀ p ∈ rest, p.1 ≠ l')
    (hsz : l.length ≤ 1000) (h : ∀ h', Fr h₀ L h' m → News h₀ L h' ((l', listOf (strValues (l ++ [(y, t)])).toArray (k + 1)) :: rest) → Q .none { s with heap := h' }) :
    wpAny (model prog w) A (call (.builtin "list.append") [.ref l', .str y t]) Q E s := by
  refine append_K F N (Upd.head hrest) (fun h' F' N' => ?_) ?_
  · rw [strValues_snoc] at N'
    exact h h' F' N'
  · simp only [List.size_toArray, strValues, List.length_map]
    rw [sizeLine_eq]; omega
theorem append_int {l' : Addr} {vs : List Value} {ns : List Int} {k : Nat} {rest : List (Addr × Obj)} {n : Int} {t : Tok} {Q : Value → Shared → Prop} (F : Fr h₀ L s.heap m) (N : News h₀ L s.heap ((l', listOf vs.toArray k) :: rest)) (hi : IntsAre vs ns) (hrest : ∀ p ∈ rest, p.1 ≠ l')
    (hsz : ns.length ≤ 1000) (h : ∀ h' vs', IntsAre vs' (ns ++ [n]) → Fr h₀ L h' m → News h₀ L h' ((l', listOf vs'.toArray (k + 1)) :: rest) → Q .none { s with heap := h' }) :
    wpAny (model prog w) A (call (.builtin "list.append") [.ref l', .int n t]) Q E s := by
  refine append_K F N (Upd.head hrest) (fun h' F' N' => ?_) ?_
  · rw [List.push_toArray] at N'
    exact h h' _ (ints_snoc hi n t) F' N'
  · rw [List.size_toArray, hi.length, sizeLine_eq]; omega
end
end Mine
end
section
open PySem PySem.W PyProof.Rows PySem.Calls PySem.Spec
namespace Mine
def FN : List String := ["OPTIMIZED", "NEWLOCALS", "VARARGS", "VARKEYWORDS", "NESTED", "GENERATOR", "NOFREE", "COROUTINE", "ITERABLE_COROUTINE", "ASYNC_GENERATOR"]
def hexT (x : Int) : Str := baseText "0x" 16 x
def wordP (i : Nat) : Str := if i < 10 then Str.ofString (FN.getD i "") else hexT (2 ^ i)
def pfGo : Nat → Nat → Int → List Str → List Str
  | 0, _, fl, ws => ws ++ [hexT fl]
  | k + 1, i, fl, ws => if Builtin.bitAnd fl (2 ^ i) = 0 then pfGo k (i + 1) fl ws else
      if Builtin.bitXor fl (2 ^ i) = 0 then ws ++ [wordP i] else pfGo k (i + 1) (Builtin.bitXor fl (2 ^ i)) (ws ++ [wordP i])
def pfText (x : Int) : Str := Txt.join (Str.ofString ", ") (pfGo 32 0 x [])
def PfInv (x : Int) (i : Nat) (fl : Int) (ws : List Str) : Prop := fl = 2 ^ i * (x / 2 ^ i) ∧ pfGo (32 - i) i fl ws = pfGo 32 0 x [] ∧ ws.length ≤ i ∧ ∀ y ∈ ws, y.length ≤ 100

theorem hexT_len {x : Int} (h : x.natAbs < 16 ^ 90) : (hexT x).length ≤ 93 := by
  unfold hexT baseText
  rw [Str.length_append, Str.length_append, ofString_ofList_length (Nat.toDigits 16 x.natAbs)]
  have h1 := toDigits_len_pow (b := 16) (k := 90) (by decide) (by decide) h
  have h2 : (Str.ofString "0x").length = 2 := by decide +kernel
  have h3 : (Str.ofString (if x < 0 then "-" else "")).length ≤ 1 := by
    split <;> decide +kernel
  omega
theorem wordP_len {i : Nat} (hi : i < 32) : (wordP i).length ≤ 100 := by
  have h : ∀ j : Fin 32, (wordP j.val).length ≤ 100 := by decide +kernel
  exact h ⟨i, hi⟩
theorem pow2_pos (i : Nat) : (0 : Int) < 2 ^ i := kbt_pos i
theorem div_pow_succ (x : Int) (i : Nat) : x / 2 ^ (i + 1) = x / 2 ^ i / 2 := by
  rw [Int.pow_succ, Int.ediv_ediv_of_nonneg (Int.le_of_lt (pow2_pos i))]
theorem bitAnd_cut (q : Int) (i : Nat) : Builtin.bitAnd (2 ^ i * q) (2 ^ i) = (q % 2) * 2 ^ i := by
  rw [kbt_bit, Int.mul_ediv_cancel_left _ (Int.ne_of_gt (pow2_pos i))]
theorem pfInv_start (x : Int) : PfInv x 0 x [] := ⟨by simp, rfl, Nat.le_refl _, by simp⟩
theorem pfInv_no {x : Int} {i : Nat} {fl : Int} {ws : List Str} (hi : i < 32) (h : PfInv x i fl ws) (hb : Builtin.bitAnd fl (2 ^ i) = 0) : PfInv x (i + 1) fl ws := by
  obtain ⟨h1, h2, h3, h4⟩ := h
  refine ⟨?_, ?_, by omega, h4⟩
  · rw [h1, bitAnd_cut] at hb
    have hq : x / 2 ^ i % 2 = 0 := by
      rcases Int.mul_eq_zero.mp hb with h | h
      · exact h
      · exact absurd h (Int.ne_of_gt (pow2_pos i))
    rw [h1, div_pow_succ, Int.pow_succ, Int.mul_assoc]
    congr 1
    omega
  · rw [← h2, show 32 - i = (32 - (i + 1)) + 1 by omega, pfGo, if_pos hb]
theorem pfInv_yes {x : Int} {i : Nat} {fl : Int} {ws : List Str} (hi : i < 32) (h : PfInv x i fl ws) (hb : ¬ Builtin.bitAnd fl (2 ^ i) = 0) (hx : ¬ Builtin.bitXor fl (2 ^ i) = 0) :
    PfInv x (i + 1) (Builtin.bitXor fl (2 ^ i)) (ws ++ [wordP i]) := by
  obtain ⟨h1, h2, h3, h4⟩ := h
  refine ⟨?_, ?_, by simp; omega, ?_⟩
  · rw [h1, bitAnd_cut] at hb
    have hq : x / 2 ^ i % 2 = 1 := by
      rcases Int.emod_two_eq (x / 2 ^ i) with h | h
      · rw [h] at hb; exact absurd (Int.zero_mul _) hb
      · exact h
    rw [bitXor_and, h1, bitAnd_cut, hq, div_pow_succ, Int.pow_succ, Int.mul_assoc]
    have e : x / 2 ^ i = 2 * (x / 2 ^ i / 2) + 1 := by omega
    generalize x / 2 ^ i / 2 = r at e
    rw [e, Int.mul_add]
    omega
  · rw [← h2, show 32 - i = (32 - (i + 1)) + 1 by omega, pfGo, if_neg hb, if_neg hx]
  · intro y hy
    rcases List.mem_append.mp hy with hy | hy
    · exact h4 y hy
    · rw [List.mem_singleton.mp hy]; exact wordP_len hi
theorem pfInv_brk {x : Int} {i : Nat} {fl : Int} {ws : List Str} (hi : i < 32) (h : PfInv x i fl ws) (hb : ¬ Builtin.bitAnd fl (2 ^ i) = 0) (hx : Builtin.bitXor fl (2 ^ i) = 0) :
    pfGo 32 0 x [] = ws ++ [wordP i] := by
  rw [← h.2.1, show 32 - i = (32 - (i + 1)) + 1 by omega, pfGo, if_neg hb, if_pos hx]
theorem pfInv_end {x : Int} {fl : Int} {ws : List Str} (h : PfInv x 32 fl ws) : pfGo 32 0 x [] = ws ++ [hexT fl] := by rw [← h.2.1]; rfl
theorem pfInv_size {x : Int} {i : Nat} {fl : Int} {ws : List Str} (hi : i ≤ 32) (h : PfInv x i fl ws) (hx : x.natAbs < 2 ^ 200) : fl.natAbs < 16 ^ 90 := by
  have h1 := h.1
  have p1 := Int.mul_ediv_add_emod x (2 ^ i)
  have p2 := Int.emod_nonneg x (Int.ne_of_gt (pow2_pos i))
  have p3 := Int.emod_lt_of_pos x (pow2_pos i)
  have p4 : (2 : Int) ^ i ≤ 2 ^ 32 := by
    have : (2 : Nat) ^ i ≤ 2 ^ 32 := Nat.pow_le_pow_right (by decide) hi
    exact_mod_cast this
  have p5 : (2 : Int) ^ 32 = 4294967296 := by decide
  rw [p5] at p4
  rw [← h1] at p1
  have p6 : fl.natAbs ≤ x.natAbs + 4294967296 := by omega
  have p7 : (2 : Nat) ^ 200 + 4294967296 < 16 ^ 90 := by decide
  omega
theorem joinOk_words {ws : List Str} (hl : ws.length ≤ 100) (h : ∀ y ∈ ws, y.length ≤ 200) : JoinOk (Str.ofString ", ") ws = true := by
  refine joinOk_of ?_
  have h1 : (ws.map (·.length)).sum ≤ 200 * ws.length := by
    clear hl
    induction ws with
    | nil => simp
    | cons a r ih =>
      simp only [List.map_cons, List.sum_cons, List.length_cons]
      have := ih (fun y hy => h y (List.mem_cons_of_mem _ hy))
      have := h a (List.mem_cons_self ..)
      omega
  have h2 : (Str.ofString ", ").length = 2 := by decide +kernel
  rw [h2]
  omega
def wordsOf (ps : List Int) (wanted : Int) (n : Nat) : List Str := ((List.range n).filter (fun i => ps.getD i 0 = wanted)).map wordP
theorem wordsOf_yes {ps : List Int} {wanted : Int} {i : Nat} (h : ps.getD i 0 = wanted) : wordsOf ps wanted (i + 1) = wordsOf ps wanted i ++ [wordP i] := by
  unfold wordsOf
  rw [List.range_succ, List.filter_append, List.map_append, List.filter_cons_of_pos (by simpa using h)]; rfl
theorem wordsOf_no {ps : List Int} {wanted : Int} {i : Nat} (h : ¬ ps.getD i 0 = wanted) : wordsOf ps wanted (i + 1) = wordsOf ps wanted i := by
  unfold wordsOf
  rw [List.range_succ, List.filter_append, List.filter_cons_of_neg (by simpa using h)]; simp
end Mine
end
section
open PySem PySem.W PyProof.Rows PySem.Calls PySem.Spec
namespace Mine
section
open PySem.Builtin PySem.Builtin._codecs
theorem forIn_twice {σ : Type} (f : Nat → σ → Sem (ForInStep σ)) (a b : σ) (n : Nat) (h1 : ∀ j, f j a = pure (ForInStep.yield b)) (h2 : ∀ j, f j b = pure (ForInStep.done b)) :
    forIn (0 :: List.range' 1 n) a f = pure b := by
  rw [List.forIn_cons, h1]
  simp only [pure_bind]
  cases n with
  | zero => rfl
  | succ n => 
    rw [List.range'_succ, List.forIn_cons, h2]
    rfl
theorem enc_ascii (id : String) (self : Value) (s : Str) (ha : ∀ c ∈ s.cps.toList, c < 128) (hs : s.cps.size ≤ sizeLine) : encodeNarrow id asciiCodec none self s = pure (s.cps.map (·.toUInt8)) := by
  have hclean : (s.cps.extract 0 s.cps.size).findIdx? asciiCodec.bad = none := by
    rw [Array.extract_size]
    rw [Array.findIdx?_eq_none_iff]
    intro x hx
    have := ha x (by simpa using hx)
    show decide (x ≥ 128) = false
    simp; omega
  have hfold : s.cps.foldl (fun acc y => acc ++ (asciiCodec.bytesOf y).toArray) (#[] : Array UInt8) = s.cps.map (·.toUInt8) := by
    rw [← Array.foldl_toList]
    have : ∀ (l : List Nat) (acc : Array UInt8), l.foldl (fun acc y => acc ++ (asciiCodec.bytesOf y).toArray) acc = acc ++ (l.map (·.toUInt8)).toArray := by
      intro l
      induction l with
      | nil => intro acc; simp
      | cons a r ih => intro acc; rw [List.foldl_cons, ih]; show acc ++ [a.toUInt8].toArray ++ _ = _; simp
    rw [this]
    apply Array.ext'
    simp
  unfold encodeNarrow
  simp only [Std.Legacy.Range.forIn_eq_forIn_range', Std.Legacy.Range.size]
  have hl : s.length = s.cps.size := rfl
  rw [hl]
  rcases h : s.cps.size with _ | n
  · have e0 : s.cps = #[] := by simpa using h
    have e : List.range' 0 ((0 - 0 + 1 - 1) / 1) 1 = [] := rfl
    rw [e, List.forIn_nil, pure_bind, e0]
    simp
  · have e : List.range' 0 ((n + 1 - 0 + 1 - 1) / 1) 1 = 0 :: List.range' 1 n := by
      simp [List.range'_succ]
    rw [e, forIn_twice _ _ (n + 1, s.cps.map (·.toUInt8), {})]
    · rfl
    · intro j
      have hx : s.cps[0]? = some s.cps[0] := by simp [h]
      have hb : asciiCodec.bad s.cps[0] = false := by
        have := ha s.cps[0] (by simp)
        show decide (s.cps[0] ≥ 128) = false
        simp; omega
      dsimp only
      rw [if_neg (by simp), hx]
      dsimp only
      rw [if_pos (by rw [hb]; rfl), ← h, hclean]
      simp only [Option.getD_none, Array.extract_size, Nat.zero_add]
      rw [hfold]
    · intro j
      dsimp only
      have hx : s.cps[n + 1]? = none := by simp [h]
      rw [if_neg (by simp; omega), hx]

/-- the signs of bytes.hex -/
def hexCps (b : Array UInt8) : Array Nat := b.toList.zipIdx.foldl (fun (out : Array Nat) (p : UInt8 × Nat) => (out.push (Bytes.hexDigit (p.1.toNat / 16))).push (Bytes.hexDigit (p.1.toNat % 16))) #[]
theorem hex_tree (b : Array UInt8) (t : Tok) : «bytes.hex» ⟨[.bytes b t], []⟩ = (do ret (← mkStr ⟨hexCps b⟩)) := by rfl
theorem codec_ascii (u : Tok) : Str.codecArg "str.encode" "encode" "'encoding'" (some (.str (PySem.Str.ofString "ascii") u)) = pure (some (PySem.Str.ofString "ascii")) := by
  have h1 : (PySem.Str.ofString "ascii").cps.any (· ≥ 128) = false := by decide +kernel
  have h2 : (PySem.Str.ofString "ascii").cps.contains 0 = false := by decide +kernel
  have h3 : Str.strArg "str.encode" "encode" "'encoding'" (.str (PySem.Str.ofString "ascii") u) = pure (PySem.Str.ofString "ascii") := by rfl
  unfold Str.codecArg
  simp only [h3, pure_bind]
  rw [if_neg (by rw [h1]; exact Bool.false_ne_true), if_neg (by rw [h2]; exact Bool.false_ne_true)]
theorem enc_tree (x : PySem.Str) (t u : Tok) (ha : ∀ c ∈ x.cps.toList, c < 128) (hs : x.cps.size ≤ sizeLine) : «str.encode» ⟨[.str x t, .str (PySem.Str.ofString "ascii") u], []⟩ = (do ret (← mkBytes (x.cps.map (·.toUInt8)))) := by
  have h2 : encodeRoad "str.encode" (.str x t) x (PySem.Str.ofString "ascii") none = (do mkBytes (← encodeNarrow "str.encode" asciiCodec none (.str x t) x)) := by
    first | rfl | (unfold encodeRoad; rfl) | (unfold encodeRoad; simp only []; rfl) | decide
  have h1 : «str.encode» ⟨[.str x t, .str (PySem.Str.ofString "ascii") u], []⟩ = (do
    let e ← Str.codecArg "str.encode" "encode" "'encoding'" (some (.str (PySem.Str.ofString "ascii") u))
    ret (← encodeRoad "str.encode" (.str x t) x (e.getD "utf-8") none)) := by rfl
  rw [h1, codec_ascii]
  show (do ret (← encodeRoad "str.encode" (.str x t) x (PySem.Str.ofString "ascii") none)) = _
  rw [h2, enc_ascii _ _ _ ha hs]
  rfl
theorem upper_tree (b : Array UInt8) (t : Tok) : «bytes.upper» ⟨[.bytes b t], []⟩ = (do ret (← mkBytes (b.toList.map Bytes.toUpper).toArray)) := by rfl
end
theorem hexCps_eq (b : Array UInt8) : (hexCps b).toList = b.toList.flatMap fun c => [Builtin.Bytes.hexDigit (c.toNat / 16), Builtin.Bytes.hexDigit (c.toNat % 16)] := by
  have : ∀ (l : List UInt8) (k : Nat) (acc : Array Nat), ((l.zipIdx k).foldl (fun (out : Array Nat) (p : UInt8 × Nat) => (out.push (Builtin.Bytes.hexDigit (p.1.toNat / 16))).push (Builtin.Bytes.hexDigit (p.1.toNat % 16))) acc).toList
      = acc.toList ++ l.flatMap fun c => [Builtin.Bytes.hexDigit (c.toNat / 16), Builtin.Bytes.hexDigit (c.toNat % 16)] := by
    intro l
    induction l with
    | nil => intro k acc; simp
    | cons a r ih => intro k acc; rw [List.zipIdx_cons, List.foldl_cons, ih]; simp
  have := this b.toList 0 #[]
  unfold hexCps
  simpa using this
theorem hexDigit_lt {n : Nat} (h : n < 16) : Builtin.Bytes.hexDigit n < 128 := by unfold Builtin.Bytes.hexDigit; split <;> omega
theorem hexCps_lt (b : Array UInt8) : ∀ c ∈ (hexCps b).toList, c < 128 := by
  intro c hc
  rw [hexCps_eq] at hc
  obtain ⟨x, _, hx⟩ := List.mem_flatMap.mp hc
  have := x.toNat_lt
  rcases List.mem_cons.mp hx with rfl | hx
  · exact hexDigit_lt (by omega)
  · rw [List.mem_singleton.mp hx]; exact hexDigit_lt (by omega)
theorem hexCps_size (b : Array UInt8) : (hexCps b).size = 2 * b.size := by
  have h : (hexCps b).toList.length = 2 * b.toList.length := by
    rw [hexCps_eq]
    induction b.toList with
    | nil => rfl
    | cons a r ih => simp [ih]; omega
  simpa using h
theorem slot_bytes_upper : Slot "bytes" "upper" "bytes.upper" :=
  .of (owner := "bytes") (n := "upper") (by rw [typeLookup_type, builtinLookup_eq_fast]; kernel_rfl) (by decide +kernel) (by decide +kernel) (by decide +kernel)
    (by first | exact .inl (by decide +kernel) | exact .inr (by decide +kernel)) (by rw [isSubtype_type]; kernel_rfl)
theorem type_bytes_upper : typeOf (.builtin "bytes.upper") = pure (.type "method_descriptor") := by show builtinType _ = _; rw [builtinType_eq_fast]; kernel_rfl
theorem entry_bytes_upper : entryFor table "bytes.upper" = some Builtin.«bytes.upper» := entryFor_of_tree (by kernel_rfl)
theorem args_bytes_upper_1 (a : Value) : argsOk "bytes.upper" ⟨[a], []⟩ := by
  unfold argsOk; rw [signature?_of (id := "bytes.upper") (n := ['r', 'e', 'p', 'p', 'u']) (o := ['s', 'e', 't', 'y', 'b']) (by kernel_rfl) FB.owner_bytes]; kernel_rfl
section
variable {prog : Program} {w : World} {A : Around} {E : Value → Shared → Prop} {s : Shared}
theorem hex_call {b : Array UInt8} {t : Tok} {Q : Value → Shared → Prop} (hs : b.size ≤ 1000) (h : ∀ t', Q (.str ⟨hexCps b⟩ t') { s with toks := s.toks + 1 }) : wpAny (model prog w) A (call (.builtin "bytes.hex") [.bytes b t]) Q E s :=
  call_meets FB.slot_bytes_hex (typeIs_bytes _ _ _) FB.entry_bytes_hex (FB.args_bytes_hex_1 _) (Gives.of_eq (m := .str ⟨hexCps b⟩) (hex_tree b t)).meets ⟨by show (hexCps b).size ≤ sizeLine; rw [hexCps_size, sizeLine_eq]; omega, h _⟩
theorem enc_call {x : Str} {t u : Tok} {Q : Value → Shared → Prop} (ha : ∀ c ∈ x.cps.toList, c < 128) (hs : x.cps.size ≤ 10000) (h : ∀ t', Q (.bytes (x.cps.map (·.toUInt8)) t') { s with toks := s.toks + 1 }) :
    wpAny (model prog w) A (call (.builtin "str.encode") [.str x t, .str (Str.ofString "ascii") u]) Q E s :=
  call_meets F.slot_str_encode (typeIs_str _ _ _) F.entry_str_encode (F.args_str_encode_2 _ _) (Gives.of_eq (m := .bytes (x.cps.map (·.toUInt8))) (enc_tree x t u ha (by rw [sizeLine_eq]; omega))).meets
    ⟨by show (x.cps.map (·.toUInt8)).size ≤ sizeLine; rw [Array.size_map, sizeLine_eq]; omega, h _⟩
theorem upper_call {b : Array UInt8} {t : Tok} {Q : Value → Shared → Prop} (hs : b.size ≤ 10000) (h : ∀ t', Q (.bytes (b.toList.map Builtin.Bytes.toUpper).toArray t') { s with toks := s.toks + 1 }) : wpAny (model prog w) A (call (.builtin "bytes.upper") [.bytes b t]) Q E s :=
  call_meets slot_bytes_upper (typeIs_bytes _ _ _) entry_bytes_upper (args_bytes_upper_1 _) (Gives.of_eq (m := .bytes (b.toList.map Builtin.Bytes.toUpper).toArray) (upper_tree b t)).meets
    ⟨by show (b.toList.map Builtin.Bytes.toUpper).toArray.size ≤ sizeLine; rw [List.size_toArray, List.length_map, Array.length_toList, sizeLine_eq]; omega, h _⟩
theorem hex_method {M : Model} {b : Array UInt8} {t : Tok} {pl : Sem Bool} {Q : Value × List Value → Shared → Prop} (h : Q (.builtin "bytes.hex", [.bytes b t]) s) : wpAny M A (getMethod (.bytes b t) (Str.ofString "hex") pl) Q E s :=
  KBd.method_of (.bytes b t) (typeIs_bytes _ _ _) FB.slot_bytes_hex FB.type_bytes_hex KBd.noRef h
theorem enc_method {M : Model} {x : Str} {t : Tok} {pl : Sem Bool} {Q : Value × List Value → Shared → Prop} (h : Q (.builtin "str.encode", [.str x t]) s) : wpAny M A (getMethod (.str x t) (Str.ofString "encode") pl) Q E s :=
  getMethod_builtin (typeIs_str _ _ _) F.plainAttrs_str F.slot_str_encode F.type_str_encode (fun _ e => nomatch e) h
theorem upper_method {M : Model} {b : Array UInt8} {t : Tok} {pl : Sem Bool} {Q : Value × List Value → Shared → Prop} (h : Q (.builtin "bytes.upper", [.bytes b t]) s) : wpAny M A (getMethod (.bytes b t) (Str.ofString "upper") pl) Q E s :=
  KBd.method_of (.bytes b t) (typeIs_bytes _ _ _) slot_bytes_upper type_bytes_upper KBd.noRef h
end
/-- what b16encode writes -/
def hexU (n : Nat) : Nat := if n < 10 then 48 + n else 55 + n
def b16L (l : List Nat) : List Nat := l.flatMap fun c => [hexU (c / 16), hexU (c % 16)]
theorem b16_bytes (b : Array UInt8) : (((hexCps b).map (·.toUInt8)).toList.map Builtin.Bytes.toUpper).toArray = byteArr ((b16L (b.toList.map UInt8.toNat)).map (fun x : Nat => (x : Int))) := by
  unfold byteArr
  congr 1
  rw [Array.toList_map, hexCps_eq, List.map_map, List.map_map]
  unfold b16L
  have key : ∀ n : Fin 16, Builtin.Bytes.toUpper ((Builtin.Bytes.hexDigit n.val).toUInt8) = ((hexU n.val : Nat) : Int).toNat.toUInt8 := by decide +kernel
  induction b.toList with
  | nil => rfl
  | cons a r ih =>
    have ha := a.toNat_lt
    simp only [List.flatMap_cons, List.map_cons, List.map_append, ih, List.map_nil, Function.comp]
    rw [key ⟨a.toNat / 16, by omega⟩, key ⟨a.toNat % 16, by omega⟩]
end Mine
end
section
open PySem PySem.W PyProof.Rows PySem.Calls PySem.Spec
namespace Mine
/-- a mark at which the walk stops -/
def Stop (P : Prop) : Prop := P
theorem stop_intro {P : Prop} (h : Stop P) : P := h
open LCg
section
variable {prog : Program} {w : World} {A : Around} {E : Value → Shared → Prop} {s : Shared} {h₀ : Heap} {L : Addr} {m : Str → Option Value} {env : Env}

/-- a comprehension's source, seen from its iterator -/
def SrcW (prog : Program) (w : World) (A : Around) (h₀ : Heap) (L : Addr) (m : Str → Option Value) (env : Env) (elt : Expr) (x : Str) (scope : Scope) (cl : List (Str × Addr)) (Fin : Shared → List Value → List (Addr × Obj) → Prop) (it : Value) (s₂ : Shared) : Prop :=
  ∃ (I : Addr) (n : Nat) (P : Nat → Value → Prop) (St : Nat → Heap → Prop) (news : List (Addr × Obj)), it = .ref I ∧ Walks prog w A I [I] [I] n P St ∧ n ≤ sizeLine ∧ (∀ i h, St i h → ∃ o, h.get? I = some o) ∧
    (∀ i h h' o, St i h → h.get? I = some o → h'.get? I = some o → St i h') ∧ St 0 s₂.heap ∧ I < s₂.heap.objs.size ∧ Fr h₀ L s₂.heap m ∧ News h₀ L s₂.heap news ∧ L ≠ I ∧ h₀.get? I = none ∧ (∀ p ∈ news, p.1 ≠ I) ∧
    CompRest prog w A h₀ L m env elt x scope cl s₂ (fun _ => True) P (Fin s₂) n 0 [] news

theorem ListComp_W {elt iter : Expr} {x : Str} {px : Pos} {scope : Scope} {cl : List (Str × Addr)} {pos : Pos} {Q : Value → Shared → Prop} (F₀ : Fr h₀ L s.heap m)
    (hclos : closureFor scope env = pure cl) (hcell : ∀ y ∈ scope.names, y.2 ≠ .cell) (hkind : scope.kind = .function)
    (hnames : ∀ y ∈ scope.names, y.2 = .local → scope.names.lookup y.1 = some .local) (hx : scope.names.lookup x = some .local)
    (h : wpAny (model prog w) A (eval iter env) (fun xv s₁ => wpAny (model prog w) A (pyIter xv) (SrcW prog w A h₀ L m env elt x scope cl (fun s₂ => FinE h₀ L m s₂ Q)) E s₁) E s)
    (hs : ∀ x, foldedSetIterable iter env x = pure x := by intro _; rfl) :
    wpAny (model prog w) A (eval (.ListComp elt [⟨.Name x px, iter, [], 0⟩] scope pos) env) Q E s := by
  rw [eval_ListComp]
  refine wpAny_comprehension_free (use := none) rfl hs hclos hkind hnames (wpAny_mono h (fun xv s₁ h₁ => wpAny_mono h₁ (fun it s₂ h₂ => ?_) fun _ _ e => e) fun _ _ e => e)
  obtain ⟨I, n, P, St, news, rfl, W, hsz, hIo, hSt, hst, hlt, F, N, hLI, hI₀, off, R⟩ := h₂
  refine block_U W hsz hIo (fun i h h' o nw st e e' _ _ _ => hSt i h h' o st e e') hcell hkind hx hst (fun b hb => by rw [List.mem_singleton.mp hb]; exact hlt) F N hLI hI₀ off trivial R ?_
  intro D C h tk m' ys news' F' N' o1 hn hC₀ hD₀ hCL hDL hCD offC fin
  refine ⟨m', hn, fun h'' hs'' => fin D h'' tk (F'.change hs'' hCL hC₀) (fun p hp => ?_) o1⟩
  refine ⟨hs''.extBut _ _ ?_ (N' p hp).1, (N' p hp).2⟩
  rcases List.mem_cons.mp hp with rfl | hp
  · exact Ne.symm hCD
  · exact offC p hp

theorem Assign_ListComp_W {elt iter : Expr} {x y : Str} {px py : Pos} {scope : Scope} {cl : List (Str × Addr)} {pos spos : Pos} {Q : Flow → Shared → Prop} (F₀ : Fr h₀ L s.heap m) (hLe : env.locals = L)
    (hsw : swapsWith (.ListComp elt [⟨.Name x px, iter, [], 0⟩] scope pos) (some (.Name y py)) spos.line env = pure true)
    (hclos : closureFor scope env = pure cl) (hcell : ∀ z ∈ scope.names, z.2 ≠ .cell) (hkind : scope.kind = .function)
    (hnames : ∀ z ∈ scope.names, z.2 = .local → scope.names.lookup z.1 = some .local) (hx : scope.names.lookup x = some .local)
    (hy : env.kindOf y = some .local) (hp : (env.scope.kind == .class || (env.scope.kind == .module && env.locals != env.globals)) = false)
    (h : wpAny (model prog w) A (eval iter env) (fun xv s₁ => wpAny (model prog w) A (pyIter xv) (SrcW prog w A h₀ L m env elt x scope cl (fun s₂ => FinA h₀ L m s₂ y Q)) E s₁) E s)
    (hs : ∀ x, foldedSetIterable iter env x = pure x := by intro _; rfl) :
    wpAny (model prog w) A (exec (.Assign [.Name y py] (.ListComp elt [⟨.Name x px, iter, [], 0⟩] scope pos) spos) env) Q E s := by
  subst hLe
  rw [exec_Assign_Name_used _ _ _ _ hsw]
  refine wpAny_bind (wpAny_standAt (wpAny_bind ?_))
  show wpAny _ A (do let _ ← comprehension (.ListComp elt [⟨.Name x px, iter, [], 0⟩] scope pos) scope env _ (newList []) false (eval iter env) (some (assign (.Name y py) env))) _ _ s
  refine wpAny_bind (wpAny_mono (wpAny_comprehension_free (use := some (assign (.Name y py) env)) (Q := fun _ s' => Q .next s') rfl hs hclos hkind hnames
    (wpAny_mono h (fun xv s₁ h₁ => wpAny_mono h₁ (fun it s₂ h₂ => ?_) fun _ _ e => e) fun _ _ e => e)) (fun _ s' hq => wpAny_pure (wpAny_pure hq)) fun _ _ e => e)
  obtain ⟨I, n, P, St, news, rfl, W, hsz, hIo, hSt, hst, hlt, F, N, hLI, hI₀, off, R⟩ := h₂
  refine block_U W hsz hIo (fun i h h' o nw st e e' _ _ _ => hSt i h h' o st e e') hcell hkind hx hst (fun b hb => by rw [List.mem_singleton.mp hb]; exact hlt) F N hLI hI₀ off trivial R ?_
  intro D C h' tk m' ys news' F' N' o1 hn hC₀ hD₀ hCL hDL hCD offC fin
  show wpAny _ A (assign (.Name y py) env (.ref D)) _ _ _
  refine wpAny_assign_Name (wpAny_storeName_local hy F'.ns (fun h₂ hn₂ hs₂ => ?_) hp)
  have hL₀ : h₀.get? env.locals = none := Heap.get?_none_of_le F'.above
  have F₂ : Fr h₀ env.locals h₂ (fun z => if z = y then some (.ref D) else m z) := ⟨hn₂, fun b o e => hs₂.extBut b o (fun q => by rw [q, hL₀] at e; cases e) (F'.keep b o e), F'.above⟩
  refine ⟨m', hn.sameBut hs₂ hCL, fun h'' hs'' => fin D h'' _ (F₂.change hs'' hCL hC₀) (fun p hp => ?_) o1⟩
  have z : h₂.get? p.1 = some p.2 := hs₂.extBut _ _ (N' p hp).2.1 (N' p hp).1
  refine ⟨hs''.extBut _ _ ?_ z, (N' p hp).2⟩
  rcases List.mem_cons.mp hp with rfl | hp
  · exact Ne.symm hCD
  · exact offC p hp

theorem srcW_range {elt : Expr} {x : Str} {scope : Scope} {cl : List (Str × Addr)} {Fin : Shared → List Value → List (Addr × Obj) → Prop} {r : Addr} {a b c : Int} {t u v : Tok} {n : Nat} {news : List (Addr × Obj)}
    (hh : A.handled = none) (F : Fr h₀ L s.heap m) (N : News h₀ L s.heap news) (hr : IsRange s.heap r a b c t u v) (hsm : Builtin.Range.small a b c = true) (hn : Builtin.Range.rangeSize a b c = ((n : Nat) : Int)) (hsz : n ≤ sizeLine)
    (h : ∀ g, CompRest prog w A h₀ L m env elt x scope cl { s with heap := g } (fun _ => True) (fun i v => ∃ t, v = .int (a + (i : Int) * c) t) (Fin { s with heap := g }) n 0 [] news) :
    wpAny (model prog w) A (pyIter (.ref r)) (SrcW prog w A h₀ L m env elt x scope cl Fin) E s := by
  refine wpAny_pyIter_range hr hsm ?_
  refine ⟨s.heap.objs.size, n, _, _, news, rfl, Walks.range hh s.heap.objs.size a c n, hsz, (fun i h st => ⟨_, st⟩), ?_, ?_, ?_, F.push _, (N.grown fun _ _ e => Heap.get?_push_of_some _ e), Nat.ne_of_lt F.ns.lt, next_is_new F, (fun p hp => Nat.ne_of_lt (Heap.lt_size (N p hp).1)), h _⟩
  · intro i h h' o st e e'
    have st' : h.get? s.heap.objs.size = some _ := st
    show h'.get? s.heap.objs.size = some _
    rw [e', ← e]; exact st'
  · show IsRangeIter _ _ (a + ((0 : Nat) : Int) * c) ((n : Int) - ((0 : Nat) : Int)) c
    have := Heap.get?_push_size s.heap (o := { cls := .type "range_iterator", data := .fields #[rawInt a, rawInt (Builtin.Range.rangeSize a b c), rawInt c] }) rfl
    simpa [IsRangeIter, hn] using this
  · show s.heap.objs.size < (s.heap.push _).objs.size
    rw [Heap.size_push]; exact Nat.lt_succ_self _

theorem srcW_bytes {elt : Expr} {x : Str} {scope : Scope} {cl : List (Str × Addr)} {Fin : Shared → List Value → List (Addr × Obj) → Prop} {b : Array UInt8} {tb : Tok} {news : List (Addr × Obj)}
    (hh : A.handled = none) (F : Fr h₀ L s.heap m) (N : News h₀ L s.heap news) (hsz : b.size ≤ sizeLine)
    (h : ∀ g, CompRest prog w A h₀ L m env elt x scope cl { s with heap := g } (fun _ => True) (fun i v => ∃ c u, b[i]? = some c ∧ v = .int (c.toNat : Int) u) (Fin { s with heap := g }) b.size 0 [] news) :
    wpAny (model prog w) A (pyIter (.bytes b tb)) (SrcW prog w A h₀ L m env elt x scope cl Fin) E s := by
  refine KBw.pyIter_bytes ?_
  refine ⟨s.heap.objs.size, b.size, _, _, news, rfl, KBw.walks hh s.heap.objs.size b tb, hsz, (fun i h st => let ⟨o, ho, _⟩ := st; ⟨o, ho⟩), ?_, ⟨_, Heap.get?_push_size _ rfl, rfl, rfl⟩, ?_, F.push _, (N.grown fun _ _ e => Heap.get?_push_of_some _ e), Nat.ne_of_lt F.ns.lt, next_is_new F, (fun p hp => Nat.ne_of_lt (Heap.lt_size (N p hp).1)), h _⟩
  · rintro i h h' o ⟨o', ho', r⟩ e e'
    rw [e] at ho'; cases ho'
    exact ⟨o, e', r⟩
  · show s.heap.objs.size < (s.heap.push _).objs.size
    rw [Heap.size_push]; exact Nat.lt_succ_self _

/-- the turns, each element by itself -/
theorem rest_gen {elt : Expr} {x : Str} {scope : Scope} {cl : List (Str × Addr)} {S : List (Addr × Obj) → Prop} {P : Nat → Value → Prop} {Fin : List Value → List (Addr × Obj) → Prop} {news : List (Addr × Obj)} {n : Nat} (G : Nat → Value → Prop)
    (turn : ∀ i v I oI C oC D m₂ ys h tk (E' : Value → Shared → Prop), i < n → P i v → NsObj oC m₂ → m₂ x = some v → Fr h₀ L h m → News h₀ L h ((I, oI) :: (C, oC) :: (D, lst ys) :: news) → Off3 I C D news → ((@Ne Nat I C) ∧ (@Ne Nat I D) ∧ (@Ne Nat C D)) →
      wpAny (model prog w) A (eval elt (compEnvC scope cl C env)) (CompEnd h₀ L m { s with heap := h, toks := tk } I oI C oC D (lst ys) S (fun y news' => news' = news ∧ G i y)) E' { s with heap := h, toks := tk })
    (fin : ∀ ys : List Value, ys.length = n → (∀ i y, ys[i]? = some y → G i y) → Fin ys news) : CompRest prog w A h₀ L m env elt x scope cl s S P Fin n 0 [] news := by
  have key : ∀ (j i : Nat) (ys : List Value), i + j = n → ys.length = i → (∀ i y, ys[i]? = some y → G i y) → CompRest prog w A h₀ L m env elt x scope cl s S P Fin j i ys news := by
    intro j
    induction j with
    | zero =>
      intro i ys hi hy hg
      exact CompRest.zero (fin ys (by omega) hg)
    | succ j ih =>
      intro i ys hi hy hg
      refine CompRest.succ ?_
      intro v I oI C oC D m₂ h tk E' hv hC hx F N off ne
      refine wpAny_mono (turn i v I oI C oC D m₂ ys h tk E' (by omega) hv hC hx F N off ne) (fun y s₂ hq => ?_) fun _ _ e => e
      obtain ⟨h', tk', nw, e, F', N', off', hS, hn, hgy⟩ := hq
      rw [hn] at N' off' hS
      refine ⟨h', tk', news, e, F', N', off', hS, ?_⟩
      refine ih (i + 1) _ (by omega) (by simp [hy]) ?_
      intro i' y' hy'
      by_cases hlt : i' < ys.length
      · rw [List.getElem?_append_left hlt] at hy'
        exact hg i' y' hy'
      · have e2 : i' = i := by
          have := (List.getElem?_eq_some_iff.mp hy').1
          simp at this; omega
        subst e2
        rw [← hy] at hy'
        simp at hy'
        exact hy' ▸ hgy
  exact key n 0 [] (by omega) rfl (by simp)
end
/-- an expression's end: a text, an int; the ledger as it was -/
def WEnd (h₀ : Heap) (L : Addr) (m : Str → Option Value) (news : List (Addr × Obj)) (s : Shared) (y : Str) (v : Value) (s₁ : Shared) : Prop :=
  ∃ tv h' tk', v = .str y tv ∧ s₁ = { s with heap := h', toks := tk' } ∧ Fr h₀ L h' m ∧ News h₀ L h' news
def IEnd (s : Shared) (n : Int) (v : Value) (s₁ : Shared) : Prop := ∃ tv tk', v = .int n tv ∧ s₁ = { s with toks := tk' }
theorem WEnd.intro {h₀ : Heap} {L : Addr} {m : Str → Option Value} {news all : List (Addr × Obj)} {s : Shared} {y y' : Str} {tv : Tok} {h' : Heap} {tk' : Nat} (e : y' = y) (F : Fr h₀ L h' m) (N : News h₀ L h' all) (hs : ∀ p ∈ news, p ∈ all) : WEnd h₀ L m news s y (.str y' tv) { s with heap := h', toks := tk' } :=
  ⟨tv, h', tk', by rw [e], rfl, F, fun p hp => N p (hs p hp)⟩
theorem IEnd.intro {s : Shared} {n n' : Int} {tv : Tok} {tk' : Nat} (e : n' = n) : IEnd s n (.int n' tv) { s with toks := tk' } := ⟨tv, tk', by rw [e], rfl⟩
theorem by_text {M : Model} {A : Around} {t : Sem Value} {Q : Value → Shared → Prop} {E : Value → Shared → Prop} {s : Shared} {h₀ : Heap} {L : Addr} {m : Str → Option Value} {news : List (Addr × Obj)} (F : Fr h₀ L s.heap m) (N : News h₀ L s.heap news) (y : Str)
    (h1 : wpAny M A t (WEnd h₀ L m news s y) (fun _ _ => False) s) (h2 : ∀ tv h' tk', Fr h₀ L h' m → News h₀ L h' news → Q (.str y tv) { s with heap := h', toks := tk' }) : wpAny M A t Q E s :=
  wpAny_mono h1 (fun v s₁ ⟨tv, h', tk', e1, e2, F', N'⟩ => by subst e1; subst e2; exact h2 tv h' tk' F' N') fun _ _ e => e.elim
theorem by_int {M : Model} {A : Around} {t : Sem Value} {Q : Value → Shared → Prop} {E : Value → Shared → Prop} {s : Shared} (n : Int)
    (h1 : wpAny M A t (IEnd s n) (fun _ _ => False) s) (h2 : ∀ tv tk', Q (.int n tv) { s with toks := tk' }) : wpAny M A t Q E s :=
  wpAny_mono h1 (fun v s₁ ⟨tv, tk', e1, e2⟩ => by subst e1; subst e2; exact h2 tv tk') fun _ _ e => e.elim
def BEnd (s : Shared) (b : Bool) (v : Bool) (s₁ : Shared) : Prop := v = b ∧ ∃ tk', s₁ = { s with toks := tk' }
theorem BEnd.intro {s : Shared} {b b' : Bool} {tk' : Nat} (e : b' = b) : BEnd s b b' { s with toks := tk' } := ⟨e, tk', rfl⟩
theorem by_test {M : Model} {A : Around} {t : Sem Bool} {E : Value → Shared → Prop} {s : Shared} {b : Bool} (h1 : wpAny M A t (BEnd s b) (fun _ _ => False) s) : wpAny M A t (fun b' s₂ => b' = b ∧ Keeps s s₂) E s :=
  wpAny_mono h1 (fun v s₁ ⟨e1, tk', e2⟩ => ⟨e1, by subst e2; exact ⟨_, _, rfl, fun _ _ e => e⟩⟩) fun _ _ e => e.elim
theorem extend_list {prog : Program} {w : World} {A : Around} {E : Value → Shared → Prop} {s : Shared} {h₀ : Heap} {L : Addr} {m : Str → Option Value} {D l' : Addr} {ys vs : List Value} {k : Nat} {rest : List (Addr × Obj)} {Q : Value → Shared → Prop} (F : Fr h₀ L s.heap m) (N : News h₀ L s.heap ((D, lst ys) :: (l', listOf vs.toArray k) :: rest))
    (hD : D ≠ l') (hrest : ∀ p ∈ rest, p.1 ≠ l') (hne : ys.length ≠ 0) (hsz : vs.length + ys.length ≤ 10000) (h : ∀ h', Fr h₀ L h' m → News h₀ L h' ((D, lst ys) :: (l', listOf (vs ++ ys).toArray (k + 1)) :: rest) → Q .none { s with heap := h' }) :
    wpAny (model prog w) A (call (.builtin "list.extend") [.ref l', .ref D]) Q E s := by
  refine kl_extend F N (List.mem_cons_self ..) (by simp) (by simpa using hne) (Upd.tail hD (Upd.head hrest)) ?_ ?_ ?_ h
  · simp only [List.size_toArray]
    have : Builtin.List.listTooLong (vs.length + ys.length) = false := by
      unfold Builtin.List.listTooLong
      rw [sizeLine_eq]
      simp; omega
    rw [this]; simp
  · simp only [sizeLine_eq]; omega
  · simp only [sizeLine_eq, List.size_toArray]; omega
theorem ints_of_all {ys : List Value} {ns : List Int} (hl : ys.length = ns.length) (h : ∀ (i : Nat) y, ys[i]? = some y → ∃ t, y = .int (ns.getD i 0) t) : IntsAre ys ns := by
  induction ns generalizing ys with
  | nil => 
    have : ys = [] := by simpa using hl
    subst this; exact .nil
  | cons n r ih =>
    cases ys with
    | nil => simp at hl
    | cons y ys =>
      obtain ⟨t, e⟩ := h 0 y rfl
      rw [e]
      refine .cons n t (ih (by simpa using hl) fun i y' hy' => ?_)
      have := h (i + 1) y' (by simpa using hy')
      simpa using this
end Mine
end
section
open PySem PySem.W PyProof.Rows PySem.Calls PySem.Spec
namespace Mine
/-- the w binary places of x, the highest first -/
def bitsH (w x : Nat) : List Nat := ((List.range w).map fun j => x / 2 ^ (w - 1 - j) % 2)
theorem bitsH_length (w x : Nat) : (bitsH w x).length = w := by simp [bitsH]
def cast (l : List Nat) : List Int := l.map (fun x : Nat => (x : Int))
theorem cast_append (a b : List Nat) : cast (a ++ b) = cast a ++ cast b := by simp [cast]
theorem cast_length (a : List Nat) : (cast a).length = a.length := by simp [cast]
theorem take_succ_flat {α β : Type} (f : α → List β) (xs : List α) (i : Nat) (x : α) (h : xs[i]? = some x) : (xs.take (i + 1)).flatMap f = (xs.take i).flatMap f ++ f x := by
  rw [List.take_add_one, h, List.flatMap_append]; simp
theorem byteArr_get {l : List Nat} (hl : ∀ x ∈ l, x < 256) {i : Nat} {c : UInt8} (h : (byteArr (cast l))[i]? = some c) : ∃ x, l[i]? = some x ∧ c.toNat = x := by
  unfold byteArr cast at h
  rw [List.getElem?_toArray, List.getElem?_map, List.getElem?_map] at h
  cases hx : l[i]? with
  | none => rw [hx] at h; cases h
  | some x =>
    rw [hx] at h
    simp at h
    refine ⟨x, rfl, ?_⟩
    have := hl x (List.mem_of_getElem? hx)
    rw [← h]
    simp
    omega
theorem byteArr_cast_size (l : List Nat) : (byteArr (cast l)).size = l.length := by rw [byteArr_size, cast_length]
theorem find_hex {x : Nat} (h : x < 16) : Txt.find (Str.ofString "0123456789ABCDEF") ⟨#[((hexU x : Nat) : Int).toNat]⟩ = (x : Int) := by
  have : ∀ x : Fin 16, Txt.find (Str.ofString "0123456789ABCDEF") ⟨#[((hexU x.val : Nat) : Int).toNat]⟩ = (x.val : Int) := by decide +kernel
  exact this ⟨x, h⟩
theorem find_64 {x : Nat} (h : x < 64) : Txt.find (Str.ofString "ABCDEFGHIJKLMNOPQRSTUVWXYZabcdefghijklmnopqrstuvwxyz0123456789+/") ⟨#[((c64 x : Nat) : Int).toNat]⟩ = (x : Int) := by
  have : ∀ x : Fin 64, Txt.find (Str.ofString "ABCDEFGHIJKLMNOPQRSTUVWXYZabcdefghijklmnopqrstuvwxyz0123456789+/") ⟨#[((c64 x.val : Nat) : Int).toNat]⟩ = (x.val : Int) := by decide +kernel
  exact this ⟨x, h⟩
theorem wordP_low {i : Nat} (h : i < 10) : (FN.map Str.ofString).getD i Str.empty = wordP i := by
  have : ∀ i : Fin 10, (FN.map Str.ofString).getD i.val Str.empty = wordP i.val := by decide +kernel
  exact this ⟨i, h⟩
theorem wordP_high {i : Nat} (h : i < 32) (h' : ¬ i < 10) : Str.ofString "0x" ++ Txt.item (Str.ofString "1248") ((i : Int) % 4) ++ Txt.mul (Str.ofString "0") ((i : Int).fdiv 4) = wordP i := by
  have : ∀ i : Fin 32, i.val < 10 ∨ Str.ofString "0x" ++ Txt.item (Str.ofString "1248") ((i.val : Int) % 4) ++ Txt.mul (Str.ofString "0") ((i.val : Int).fdiv 4) = wordP i.val := by decide +kernel
  exact (this ⟨i, h⟩).resolve_left h'
theorem hexU_lt {x : Nat} (h : x < 16) : hexU x < 128 := by unfold hexU; split <;> omega
end Mine
end
section
open PySem PySem.W PyProof.Rows PySem.Calls PySem.Spec
namespace Mine
open LCg
section
variable {prog : Program} {w : World} {A : Around} {E : Value → Shared → Prop} {s : Shared} {h₀ : Heap} {L : Addr} {m : Str → Option Value} {env : Env}

/-- the source of a comprehension over pairs -/
def SrcE (prog : Program) (w : World) (A : Around) (h₀ : Heap) (L : Addr) (m : Str → Option Value) (env : Env) (elt : Expr) (x x₂ : Str) (scope : Scope) (cl : List (Str × Addr)) (Q : Value → Shared → Prop) (xv : Value) (s₁ : Shared) : Prop :=
  ∃ (e : Addr) (fp wr : List Addr) (n : Nat) (Pt : Nat → Array Value → Prop) (St : Nat → Heap → Prop) (Mid : Nat → Addr → Heap → Prop) (news : List (Addr × Obj)) (G : Nat → Value → Prop),
    xv = .ref e ∧ WalksU prog w A e fp wr n Pt St Mid ∧ n ≤ sizeLine ∧ St 0 s₁.heap ∧ (∀ b ∈ fp, b < s₁.heap.objs.size) ∧ Fr h₀ L s₁.heap m ∧ News h₀ L s₁.heap news ∧
    (∀ b ∈ wr, b ≠ L ∧ h₀.get? b = none ∧ ∀ p ∈ news, p.1 ≠ b) ∧
    (∀ i vals C m₂ s₂ (E' : Value → Shared → Prop), i < n → Pt i vals → ∃ a b, vals = #[a, b] ∧ (s₂.heap.Ns C m₂ → m₂ x = some a → m₂ x₂ = some b →
      wpAny (model prog w) A (eval elt (compEnvC scope cl C env)) (fun y s₃ => G i y ∧ ∃ tk, s₃ = { s₂ with toks := tk }) E' s₂)) ∧
    (∀ D (ys : List Value) h tk, Fr h₀ L h m → News h₀ L h ((D, lst ys) :: news) → (∀ p ∈ news, p.1 < D) → ys.length = n → (∀ i y, ys[i]? = some y → G i y) → Q (.ref D) { s₁ with heap := h, toks := tk })

theorem ListComp_E {elt iter : Expr} {x x₂ : Str} {px px₂ tp : Pos} {tk₀ : Nat} {scope : Scope} {cl : List (Str × Addr)} {pos : Pos} {Q : Value → Shared → Prop} (F₀ : Fr h₀ L s.heap m)
    (hclos : closureFor scope env = pure cl) (hcell : ∀ y ∈ scope.names, y.2 ≠ .cell) (hkind : scope.kind = .function)
    (hnames : ∀ y ∈ scope.names, y.2 = .local → scope.names.lookup y.1 = some .local) (hx : scope.names.lookup x = some .local) (hx₂ : scope.names.lookup x₂ = some .local) (hxx : x ≠ x₂) (hh : A.handled = none)
    (h : wpAny (model prog w) A (eval iter env) (SrcE prog w A h₀ L m env elt x x₂ scope cl Q) E s)
    (hs : ∀ x, foldedSetIterable iter env x = pure x := by intro _; rfl) :
    wpAny (model prog w) A (eval (.ListComp elt [⟨.Tuple [.Name x px, .Name x₂ px₂] tk₀ tp, iter, [], 0⟩] scope pos) env) Q E s := by
  rw [eval_ListComp]
  refine wpAny_comprehension_free (use := none) rfl hs hclos hkind hnames (wpAny_mono h (fun xv s₂ h₁ => ?_) fun _ _ e => e)
  obtain ⟨e, fp, wr, n, Pt, St, Mid, news, G, rfl, W, hsz, hst, hfp, F, N, hwr, helt, fin⟩ := h₁
  refine W.self 0 _ _ _ hst ?_
  refine wpAny_newObj_type (wpAny_newFunctionEnv hcell (by intro y hy; simp at hy) (fun h₁ hns₁ hsb₁ => ?_) hkind)
  dsimp only at hns₁ hsb₁ ⊢
  generalize hH2 : s₂.heap.push { cls := .type "list", dict := none, data := .seq ([] : List Value).toArray } = H2 at hns₁ hsb₁ ⊢
  have hC : H2.objs.size = s₂.heap.objs.size + 1 := by rw [← hH2, Heap.size_push]
  have hDC : s₂.heap.objs.size ≠ H2.objs.size := by rw [hC]; exact Nat.ne_of_lt (Nat.lt_succ_self _)
  have below : ∀ b, b < s₂.heap.objs.size → b ≠ H2.objs.size ∧ b ≠ s₂.heap.objs.size := fun b hb => ⟨by rw [hC]; exact Nat.ne_of_lt (Nat.lt_succ_of_lt hb), Nat.ne_of_lt hb⟩
  have hDf : s₂.heap.objs.size ∉ fp := fun hm => Nat.lt_irrefl _ (hfp _ hm)
  have hCf : H2.objs.size ∉ fp := fun hm => by have := hfp _ hm; rw [hC] at this; exact Nat.lt_irrefl _ (Nat.lt_of_succ_lt this)
  have hDw : s₂.heap.objs.size ∉ wr := fun hm => hDf (W.sub _ hm)
  have hCw : H2.objs.size ∉ wr := fun hm => hCf (W.sub _ hm)
  have old : ∀ b o, s₂.heap.get? b = some o → h₁.get? b = some o := fun b o e => hsb₁.extBut b o (below b (Heap.lt_size e)).1 (Heap.get?_push_of_some _ (hH2 ▸ Heap.get?_push_of_some _ e))
  have hacc : h₁.get? s₂.heap.objs.size = some (lst []) := hsb₁.extBut _ _ hDC (Heap.get?_push_of_some _ (hH2 ▸ Heap.get?_push_size _ rfl))
  have hst₁ : St 0 h₁ := W.frame _ _ _ hst fun b _ o e => old b o e
  have fresh : ∀ a, s₂.heap.objs.size ≤ a → s₂.heap.get? a = none := fun a ha => by
    cases e : s₂.heap.get? a with
    | none => rfl
    | some o' => exact absurd (Heap.lt_size e) (Nat.not_lt.mpr ha)
  have fresh₀ : ∀ a, s₂.heap.objs.size ≤ a → h₀.get? a = none := fun a ha => by
    cases e : h₀.get? a with
    | none => rfl
    | some o' => have := F.keep a o' e; rw [fresh a ha] at this; cases this
  have hD₀ : h₀.get? s₂.heap.objs.size = none := fresh₀ _ (Nat.le_refl _)
  have hC₀ : h₀.get? H2.objs.size = none := fresh₀ _ (by rw [hC]; exact Nat.le_succ _)
  have hLlt : L < s₂.heap.objs.size := F.ns.lt
  have hDL : s₂.heap.objs.size ≠ L := Ne.symm (below L hLlt).2
  have hCL : H2.objs.size ≠ L := Ne.symm (below L hLlt).1
  have hLw : L ∉ wr := fun hm => (hwr L hm).1 rfl
  have nlt : ∀ p ∈ news, p.1 < s₂.heap.objs.size := fun p hp => Heap.lt_size (N p hp).1
  -- what keeps all but the iterator's objects keeps the frame and the ledger
  have keepF : ∀ h' h'' : Heap, (∀ b o, b ∉ wr → h'.get? b = some o → h''.get? b = some o) → Fr h₀ L h' m → Fr h₀ L h'' m := fun h' h'' hk F' =>
    ⟨F'.ns.at' fun o e => hk L o hLw e, fun b o e => hk b o (fun hm => by rw [(hwr b hm).2.1] at e; cases e) (F'.keep b o e), F'.above⟩
  have keepN : ∀ (h' h'' : Heap) (ys : List Value), (∀ b o, b ∉ wr → h'.get? b = some o → h''.get? b = some o) → News h₀ L h' ((s₂.heap.objs.size, lst ys) :: news) → News h₀ L h'' ((s₂.heap.objs.size, lst ys) :: news) := fun h' h'' ys hk N' p hp => by
    refine ⟨hk _ _ ?_ (N' p hp).1, (N' p hp).2⟩
    rcases List.mem_cons.mp hp with rfl | hp
    · exact hDw
    · exact fun hm => (hwr _ hm).2.2 p hp rfl
  have loop : ∀ s₃ : Shared, s₃ = { s₂ with heap := h₁, toks := s₂.toks + ([] : List (Str × Value)).length } →
      codeAny (model prog w) A (.compLoop (.ListComp elt [⟨.Tuple [.Name x px, .Name x₂ px₂] tk₀ tp, iter, [], 0⟩] scope pos) 0 (.ref e) (.ref s₂.heap.objs.size) (compEnvC scope cl H2.objs.size env))
        (compPost (model prog w) A E none Q (.ref s₂.heap.objs.size) H2.objs.size) s₃ := by
    rintro s₃ rfl
    refine LCp.codeAny_compLoop_pair
      (fun k s' => ∃ h' tk i ys m', s' = { s₂ with heap := h', toks := tk } ∧ i ≤ n ∧ k = n + 1 - i ∧ ys.length = i ∧ St i h' ∧ Fr h₀ L h' m ∧ h'.Ns H2.objs.size m' ∧ News h₀ L h' ((s₂.heap.objs.size, lst ys) :: news) ∧ ∀ i y, ys[i]? = some y → G i y) ?_ (n + 1)
      ⟨h₁, _, 0, [], _, rfl, Nat.zero_le _, rfl, rfl, hst₁, F.keeps old, hns₁, fun p hp => ?_, by simp⟩
    · rintro k s' ⟨h', tk, i, ys, m', rfl, hi, rfl, hyl, hst', F', hn', N', hg⟩
      by_cases hlt : i < n
      · refine W.item i _ _ _ hlt hst' fun T vals h₂ tk₂ hPt hT hMid hk₂ => ?_
        have hTw := W.apart i T _ hMid
        refine W.go _ _ _ i T _ _ _ hMid fun h₃ hst₃ hk₃ => ?_
        obtain ⟨a, b, rfl, hel⟩ := helt i vals H2.objs.size (fun _ => none) { s₂ with heap := h₃, toks := tk₂ } (fun _ _ => False) hlt hPt
        have F₃ := keepF _ _ hk₃ (keepF _ _ hk₂ F')
        have N₃ := keepN _ _ ys hk₃ (keepN _ _ ys hk₂ N')
        have hn₃ : h₃.Ns H2.objs.size m' := (hn'.at' fun o e => hk₂ _ o hCw e).at' fun o e => hk₃ _ o hCw e
        have ht : IsTup h₃ T #[a, b] := by
          obtain ⟨o, ho, r⟩ := hT
          exact ⟨o, hk₃ T o hTw ho, r⟩
        refine assign_Tuple_tuple hh ht rfl rfl fun h₅ he => ?_
        have he' : ∀ b o, h₃.get? b = some o → h₅.get? b = some o := fun b o e => he b o (Nat.ne_of_lt (Heap.lt_size e)) e
        refine assignInOrder_cons (wpAny_assign_Name (wpAny_storeName_local (lookup_relabel_local hx) (hn₃.at' fun o e => he' _ o e) (fun h₆ hn₆ hs₆ => ?_) (by simp [compEnvC, relabel, hkind])))
        refine assignInOrder_cons (wpAny_assign_Name (wpAny_storeName_local (lookup_relabel_local hx₂) hn₆ (fun h₇ hn₇ hs₇ => ?_) (by simp [compEnvC, relabel, hkind])))
        refine assignInOrder_nil ?_
        have old3 : ∀ b o, b ≠ H2.objs.size → h₃.get? b = some o → h₇.get? b = some o := fun b o hb e => hs₇.extBut b o hb (hs₆.extBut b o hb (he' b o e))
        have hst₇ : St (i + 1) h₇ := W.frame _ _ _ hst₃ fun b hb o e => old3 b o (fun q => hCf (by rw [← q]; exact hb)) e
        have F₇ : Fr h₀ L h₇ m := ((F₃.keeps he').change hs₆ hCL hC₀).change hs₇ hCL hC₀
        have N₇ : News h₀ L h₇ ((s₂.heap.objs.size, lst ys) :: news) := fun p hp => by
          refine ⟨old3 _ _ ?_ (N₃ p hp).1, (N₃ p hp).2⟩
          rcases List.mem_cons.mp hp with rfl | hp
          · exact hDC
          · exact (below _ (nlt p hp)).1
        obtain ⟨a', b', e', hel'⟩ := helt i #[a, b] H2.objs.size _ { s₂ with heap := h₇, toks := _ } (fun _ _ => False) hlt hPt
        have ea : a = a' ∧ b = b' := by simpa using e'
        obtain ⟨rfl, rfl⟩ := ea
        refine wpAny_mono (hel' hn₇ (by simp [hxx]) (by simp)) (fun y s₄ h₄ => ?_) fun _ _ e => e.elim
        obtain ⟨hgy, tk₄, rfl⟩ := h₄
        have zD := (N₇ (s₂.heap.objs.size, lst ys) List.mem_cons_self).1
        refine append_at (hsz := by show ys.toArray.size ≤ sizeLine; rw [List.size_toArray, hyl]; exact Nat.le_trans hi hsz) zD fun h₈ hs₈ hD₈ => ?_
        refine ⟨n + 1 - (i + 1), by omega, h₈, tk₄, i + 1, ys ++ [y], _, rfl, hlt, rfl, by rw [List.length_append, List.length_singleton, hyl], W.frame _ _ _ hst₇ fun b hb o e => hs₈.extBut b o (fun q => hDf (q ▸ hb)) e, F₇.change hs₈ hDL hD₀,
          hn₇.sameBut hs₈ (Ne.symm hDC), fun p hp => ?_, ?_⟩
        · rcases List.mem_cons.mp hp with rfl | hp
          · exact ⟨hD₈.trans (congrArg some (lst_snoc ys y)), hDL, hD₀⟩
          · exact ⟨hs₈.extBut _ _ (Nat.ne_of_lt (nlt p hp)) (N₇ p (List.mem_cons_of_mem _ hp)).1, (N₇ p (List.mem_cons_of_mem _ hp)).2⟩
        · intro i' y' hy'
          by_cases hlt' : i' < ys.length
          · rw [List.getElem?_append_left hlt'] at hy'
            exact hg i' y' hy'
          · have e2 : i' = i := by
              have := (List.getElem?_eq_some_iff.mp hy').1
              simp at this; omega
            subst e2
            rw [← hyl] at hy'
            simp at hy'
            exact hy' ▸ hgy
      · obtain rfl : i = n := Nat.le_antisymm hi (Nat.not_lt.mp hlt)
        refine W.done _ _ _ hst' fun h₂ tk₂ hk₂ => ?_
        refine ⟨m', hn'.at' fun o e => hk₂ _ o hCw e, fun h'' hs'' => fin _ ys h'' tk₂ ((keepF _ _ hk₂ F').change hs'' hCL hC₀) (fun p hp => ?_) nlt hyl hg⟩
        have z := keepN _ _ ys hk₂ N' p hp
        refine ⟨hs''.extBut _ _ ?_ z.1, z.2⟩
        rcases List.mem_cons.mp hp with rfl | hp
        · exact hDC
        · exact (below _ (nlt p hp)).1
    · rcases List.mem_cons.mp hp with rfl | hp
      · exact ⟨hacc, hDL, hD₀⟩
      · exact ⟨old _ _ (N p hp).1, (N p hp).2⟩
  exact codeAny_compStart_list (loop _ rfl) (W.self 0 _ _ _ hst₁ (loop _ rfl))

theorem elt_mul_pow {x x₂ : Str} {scope : Scope} {cl : List (Str × Addr)} {b n : Int} {i : Nat} {k₀ : Nat} {p1 p2 p3 p4 p5 : Pos} {C : Addr} {m₂ : Str → Option Value} {t t' : Tok} (hkind : scope.kind = .function) (hx : scope.names.lookup x = some .local) (hx₂ : scope.names.lookup x₂ = some .local)
    (hd : (x == ("__debug__" : Str)) = false) (hd₂ : (x₂ == ("__debug__" : Str)) = false) (hb : Builtin.Int.intBits b ≤ 100) (hi : i ≤ 1000) (hn : n.natAbs < 2 ^ 64)
    (hns : s.heap.Ns C m₂) (h1 : m₂ x = some (.int i t)) (h2 : m₂ x₂ = some (.int n t')) :
    wpAny (model prog w) A (eval (.BinOp (.Name x₂ p1) .Mult (.BinOp (.Constant (.int b) k₀ p2) .Pow (.Name x p3) p4) p5) (compEnvC scope cl C env)) (fun y s₃ => (∃ t, y = .int (n * b ^ i) t) ∧ ∃ tk, s₃ = { s with toks := tk }) E s := by
  refine wpAny_BinOp (wpAny_Name (wpAny_loadName_local hkind (lookup_relabel_local hx₂) hns h2 ?_) hd₂)
  refine wpAny_BinOp ?_
  rw [eval_Constant]
  show wpAny _ _ (mkInt b) _ _ _
  refine wpAny_mkInt ?_
  refine wpAny_Name (wpAny_loadName_local (s := { s with toks := s.toks + 1 }) hkind (lookup_relabel_local hx) hns h1 ?_) hd
  refine pow_nat hb hi ?_
  refine PyProof.Rows.mul_int ⟨⟨_, rfl⟩, ⟨_, rfl⟩⟩ (IntMulOk.of_left ?_)
  rw [intBits_le_iff]; exact hn

theorem srcE_list {elt : Expr} {x x₂ : Str} {scope : Scope} {cl : List (Str × Addr)} {Q : Value → Shared → Prop} {l : Addr} {vs : List Value} {ns : List Int} {news : List (Addr × Obj)} (hh : A.handled = none) (F : Fr h₀ L s.heap m) (N : News h₀ L s.heap news)
    (hl : s.heap.IsList l vs.toArray) (hi : IntsAre vs ns) (hsz : ns.length ≤ 10000) (g : Nat → Int → Int)
    (helt : ∀ (i : Nat) n t t' C m₂ s₂ (E' : Value → Shared → Prop), ns[i]? = some n → s₂.heap.Ns C m₂ → m₂ x = some (.int i t) → m₂ x₂ = some (.int n t') →
      wpAny (model prog w) A (eval elt (compEnvC scope cl C env)) (fun y s₃ => (∃ t, y = .int (g i n) t) ∧ ∃ tk, s₃ = { s₂ with toks := tk }) E' s₂)
    (fin : ∀ D (ys : List Value) h tk, Fr h₀ L h m → News h₀ L h ((D, lst ys) :: news) → (∀ p ∈ news, p.1 < D) → IntsAre ys (ns.mapIdx g) → Q (.ref D) { s with heap := h, toks := tk }) :
    wpAny (model prog w) A (call (.type "enumerate") [.ref l]) (SrcE prog w A h₀ L m env elt x x₂ scope cl Q) E s := by
  obtain ⟨ol, hol, hlr⟩ := id hl
  have hlt : l < s.heap.objs.size := Heap.lt_size hol
  refine call_enumerate_list hl fun h' he hit hsz' hk => ?_
  have W := (WalksT.enumerate (prog := prog) (w := w) hh (s.heap.objs.size + 1) s.heap.objs.size l (Nat.ne_of_gt (Nat.lt_succ_self _)) (Nat.ne_of_lt (Nat.lt_succ_of_lt hlt)) (Nat.ne_of_lt hlt) vs.toArray).toU
  have hvl : vs.toArray.size = ns.length := by rw [List.size_toArray, hi.length]
  have fresh : ∀ a, s.heap.objs.size ≤ a → h₀.get? a = none := fun a ha => by
    cases e : h₀.get? a with
    | none => rfl
    | some o' => exact absurd (Heap.lt_size (F.keep a o' e)) (Nat.not_lt.mpr ha)
  have hwr : ∀ b ∈ [s.heap.objs.size + 1, s.heap.objs.size], s.heap.objs.size ≤ b := fun b hb => by
    rcases List.mem_cons.mp hb with rfl | hb
    · exact Nat.le_succ _
    · rw [List.mem_singleton.mp hb]; exact Nat.le_refl _
  refine ⟨s.heap.objs.size + 1, _, _, vs.toArray.size, _, _, _, news, (fun i y => ∃ t, y = .int (g i (ns.getD i 0)) t), rfl, W, by rw [hvl, sizeLine_eq]; omega, ⟨⟨_, he⟩, hit, ⟨ol, hk _ _ hol, hlr⟩⟩, ?_, F.keeps hk, N.grown hk, ?_, ?_, ?_⟩
  · intro b hb
    show b < h'.objs.size
    rw [hsz']
    rcases List.mem_cons.mp hb with rfl | hb
    · exact Nat.lt_succ_self _
    · rcases List.mem_cons.mp hb with rfl | hb
      · exact Nat.lt_succ_of_lt (Nat.lt_succ_self _)
      · rw [List.mem_singleton.mp hb]; exact Nat.lt_succ_of_lt (Nat.lt_succ_of_lt hlt)
  · intro b hb
    have := hwr b hb
    exact ⟨Ne.symm (Nat.ne_of_lt (Nat.lt_of_lt_of_le F.ns.lt this)), fresh b this, fun p hp => Nat.ne_of_lt (Nat.lt_of_lt_of_le (Heap.lt_size (N p hp).1) this)⟩
  · rintro i vals C m₂ s₂ E' hi' ⟨t, x', hx', rfl⟩
    obtain ⟨n, t', e', hn⟩ := hi.at i x' (by simpa using hx')
    subst e'
    refine ⟨_, _, rfl, fun hns h1 h2 => ?_⟩
    have hg : ns.getD i 0 = n := by rw [List.getD_eq_getElem?_getD, hn]; rfl
    dsimp only
    rw [hg]
    exact helt i n t t' C m₂ s₂ E' hn hns h1 h2
  · intro D ys h tk F' N' hD hyl hg
    refine fin D ys h tk F' N' hD (ints_of_all (by rw [hyl, hvl, List.length_mapIdx]) fun i y hy => ?_)
    obtain ⟨t, e⟩ := hg i y hy
    refine ⟨t, ?_⟩
    have hlt' : i < ns.length := by rw [← hvl, ← hyl]; exact (List.getElem?_eq_some_iff.mp hy).1
    rw [e]
    simp [List.getD_eq_getElem?_getD, hlt']
end
end Mine
end
section
open PySem PySem.W PyProof.Rows PySem.Calls PySem.Spec
namespace Mine
/-- the number of places, the lowest first -/
def cv : List Nat → Nat
  | [] => 0
  | a :: r => a + 2 * cv r
theorem cv_lt : ∀ (l : List Nat), (∀ a ∈ l, a < 2) → cv l < 2 ^ l.length
  | [], _ => by simp [cv]
  | a :: r, h => by
    have h1 := cv_lt r fun b hb => h b (List.mem_cons_of_mem _ hb)
    have h2 := h a (List.mem_cons_self ..)
    rw [cv, List.length_cons, Nat.pow_succ]
    omega
theorem pow_one' (b : Int) : b ^ 1 = b := by rw [Int.pow_succ, Int.pow_zero, Int.one_mul]
theorem sum_pow (b : Int) : ∀ (l : List Int) (k : Nat), (l.mapIdx (fun j p => p * b ^ (j + k))).sum = b ^ k * (l.mapIdx (fun j p => p * b ^ j)).sum := by
  intro l
  induction l with
  | nil => intro k; simp
  | cons a r ih =>
    intro k
    have e1 : (r.mapIdx fun j p => p * b ^ (j + 1 + k)) = r.mapIdx fun j p => p * b ^ (j + (k + 1)) := by
      congr 1; funext j p; congr 2; omega
    rw [List.mapIdx_cons, List.mapIdx_cons, List.sum_cons, List.sum_cons, e1, ih (k + 1), ih 1, Int.mul_add, Int.pow_succ]
    simp only [Nat.zero_add, Int.pow_zero, Int.mul_one]
    rw [Int.mul_comm a, Int.mul_assoc]
    simp [pow_one']
theorem sum_pow_cons (b a : Int) (r : List Int) : ((a :: r).mapIdx (fun j p => p * b ^ j)).sum = a + b * (r.mapIdx (fun j p => p * b ^ j)).sum := by
  have := sum_pow b r 1
  rw [List.mapIdx_cons, List.sum_cons, this]
  simp [pow_one']
theorem sum_cv : ∀ l : List Nat, ((cast l).mapIdx (fun j p => p * 2 ^ j)).sum = ((cv l : Nat) : Int)
  | [] => rfl
  | a :: r => by
    show (((a : Int) :: cast r).mapIdx (fun j p => p * 2 ^ j)).sum = _
    rw [sum_pow_cons, sum_cv r, cv]; push_cast; rfl
/-- the sign of the i-th four of places -/
def dig (qs : List Nat) (i : Nat) : Nat := Builtin.Bytes.hexDigit (cv ((qs.drop (4 * i)).take 4))
def sixC (qs : List Nat) : Nat → List Nat
  | 0 => []
  | i + 1 => dig qs i :: sixC qs i
theorem sixC_length (qs : List Nat) : ∀ i, (sixC qs i).length = i
  | 0 => rfl
  | i + 1 => by rw [sixC, List.length_cons, sixC_length]
theorem chunk_lt {qs : List Nat} (h : ∀ q ∈ qs, q < 2) (i : Nat) : cv ((qs.drop (4 * i)).take 4) < 16 := by
  have h1 := cv_lt ((qs.drop (4 * i)).take 4) fun a ha => h a (List.mem_of_mem_drop (List.mem_of_mem_take ha))
  have h2 : ((qs.drop (4 * i)).take 4).length ≤ 4 := by simp; omega
  exact Nat.lt_of_lt_of_le h1 (Nat.pow_le_pow_right (by decide) h2)
theorem item_hex {v : Nat} (h : v < 16) : Txt.item (Str.ofString "0123456789abcdef") (v : Int) = ⟨#[Builtin.Bytes.hexDigit v]⟩ := by
  have : ∀ v : Fin 16, Txt.item (Str.ofString "0123456789abcdef") (v.val : Int) = ⟨#[Builtin.Bytes.hexDigit v.val]⟩ := by decide +kernel
  exact this ⟨v, h⟩
theorem sixC_text (qs : List Nat) (i : Nat) : (⟨#[dig qs i]⟩ : Str) ++ ⟨(sixC qs i).toArray⟩ = ⟨(sixC qs (i + 1)).toArray⟩ := by
  show Str.mk (#[dig qs i] ++ (sixC qs i).toArray) = _
  congr 1
  simp [sixC]
/-- what _law_sixteens writes -/
def sixT (qs : List Nat) : Str := Txt.lstripChars ⟨(sixC qs ((qs.length + 3) / 4)).toArray⟩ (Str.ofString "0")
theorem cast_drop (l : List Nat) (k : Nat) : (cast l).drop k = cast (l.drop k) := by simp [cast, List.map_drop]
theorem cast_take (l : List Nat) (k : Nat) : (cast l).take k = cast (l.take k) := by simp [cast, List.map_take]
theorem range4_size (n : Nat) : Builtin.Range.rangeSize 0 (n : Int) 4 = (((n + 3) / 4 : Nat) : Int) := by
  unfold Builtin.Range.rangeSize
  simp
  split <;> omega
theorem range4_small {n : Nat} (h : n ≤ 1000) : Builtin.Range.small 0 (n : Int) 4 = true := by
  have h1 : ∀ x : Int, -2000 ≤ x → x ≤ 2000 → Builtin.Range.rangeFitsLong x = true := by
    intro x h1 h2
    unfold Builtin.Range.rangeFitsLong
    simp; omega
  unfold Builtin.Range.small
  rw [range4_size, h1 0 (by omega) (by omega), h1 n (by omega) (by omega), h1 4 (by omega) (by omega), h1 _ (by omega) (by omega), if_pos (by decide), h1 _ (by omega) (by omega)]
  simp
end Mine
end
section
open PySem PySem.W PyProof.Rows PySem.Calls PySem.Spec
namespace Mine
theorem octets_of (ns : List Int) : ∃ os : List Nat, List.map (fun k' : Int => k'.fmod 256) (List.take 9 ns) = cast os ∧ (∀ o ∈ os, o < 256) ∧ os.length ≤ 9 := by
  refine ⟨(List.take 9 ns).map fun x => (x % 256).toNat, ?_, ?_, ?_⟩
  · unfold cast
    rw [List.map_map]
    congr 1
    funext x
    rw [Int.fmod_eq_emod_of_nonneg _ (by decide)]
    simp only [Function.comp]
    omega
  · intro o ho
    obtain ⟨x, _, rfl⟩ := List.mem_map.mp ho
    omega
  · simp; omega
/-- the number of a row, by the sum of the law -/
theorem sum_num : ∀ os : List Nat, ((cast os).reverse.mapIdx (fun j p => p * 256 ^ j)).sum = ((num os : Nat) : Int) := by
  have key : ∀ r : List Nat, ((cast r).mapIdx (fun j p => p * 256 ^ j)).sum = ((num r.reverse : Nat) : Int) := by
    intro r
    induction r with
    | nil => rfl
    | cons a r ih =>
      show (((a : Int) :: cast r).mapIdx (fun j p => p * 256 ^ j)).sum = _
      rw [sum_pow_cons, ih, List.reverse_cons, num_snoc]
      push_cast; omega
  intro os
  have := key os.reverse
  rw [List.reverse_reverse] at this
  rw [← this]
  unfold cast
  rw [List.map_reverse]
theorem num_lt : ∀ os : List Nat, (∀ o ∈ os, o < 256) → num os < 256 ^ os.length := by
  have key : ∀ r : List Nat, (∀ o ∈ r, o < 256) → num r.reverse < 256 ^ r.length := by
    intro r
    induction r with
    | nil => intro _; simp [num]
    | cons a r ih =>
      intro h
      have h1 := ih fun o ho => h o (List.mem_cons_of_mem _ ho)
      have h2 := h a (List.mem_cons_self ..)
      rw [List.reverse_cons, num_snoc, List.length_cons, Nat.pow_succ]
      omega
  intro os h
  have := key os.reverse (fun o ho => h o (List.mem_reverse.mp ho))
  rwa [List.reverse_reverse, List.length_reverse] at this
theorem nats_byteArr {os : List Nat} (h : ∀ o ∈ os, o < 256) : (byteArr (cast os)).toList.map UInt8.toNat = os := by
  unfold byteArr cast
  simp only [List.map_map]
  conv => rhs; rw [← List.map_id os]
  apply List.map_congr_left
  intro o ho
  have := h o ho
  simp
  omega
end Mine
end
section
open PySem PySem.W PyProof.Rows PySem.Calls PySem.Spec
namespace Mine
def nib (os : List Nat) : List Nat := os.flatMap fun c => [c / 16, c % 16]
theorem b16_nib (os : List Nat) : List.map (fun x : Nat => (x : Int)) (b16L os) = cast ((nib os).map hexU) := by
  have : b16L os = (nib os).map hexU := by
    unfold b16L nib
    rw [List.map_flatMap]; rfl
  rw [this]; rfl
theorem nib_lt {os : List Nat} (h : ∀ o ∈ os, o < 256) : ∀ x ∈ nib os, x < 16 := by
  intro x hx
  obtain ⟨c, hc, hx⟩ := List.mem_flatMap.mp hx
  have := h c hc
  rcases List.mem_cons.mp hx with rfl | hx
  · omega
  · rw [List.mem_singleton.mp hx]; omega
theorem nib_length (os : List Nat) : (nib os).length = 2 * os.length := by
  induction os with
  | nil => rfl
  | cons a r ih => 
    show ([a / 16, a % 16] ++ nib r).length = _
    rw [List.length_append, ih]; simp; omega
/-- the w places of x, the lowest first -/
def bitsL : Nat → Nat → List Nat
  | 0, _ => []
  | w + 1, x => x % 2 :: bitsL w (x / 2)
theorem bitsL_length : ∀ (w x : Nat), (bitsL w x).length = w
  | 0, _ => rfl
  | w + 1, x => by rw [bitsL, List.length_cons, bitsL_length]
theorem bitsL_lt : ∀ (w x q : Nat), q ∈ bitsL w x → q < 2
  | 0, _, _, h => by cases h
  | w + 1, x, q, h => by
    rcases List.mem_cons.mp h with rfl | h
    · omega
    · exact bitsL_lt w _ q h
theorem bitsH_succ (w x : Nat) : bitsH (w + 1) x = bitsH w (x / 2) ++ [x % 2] := by
  unfold bitsH
  rw [List.range_succ, List.map_append]
  congr 1
  · apply List.map_congr_left
    intro j hj
    have hj' : j < w := List.mem_range.mp hj
    rw [Nat.div_div_eq_div_mul, show w + 1 - 1 - j = (w - 1 - j) + 1 by omega, Nat.pow_succ, Nat.mul_comm]
  · simp
theorem bitsH_rev : ∀ (w x : Nat), (bitsH w x).reverse = bitsL w x
  | 0, _ => rfl
  | w + 1, x => by rw [bitsH_succ, List.reverse_append, bitsH_rev w]; rfl
theorem bitsL_add : ∀ (w v x : Nat), bitsL (w + v) x = bitsL w x ++ bitsL v (x / 2 ^ w)
  | 0, v, x => by simp [bitsL]
  | w + 1, v, x => by
    rw [show w + 1 + v = (w + v) + 1 by omega, bitsL, bitsL_add w v, bitsL, Nat.div_div_eq_div_mul, Nat.pow_succ, Nat.mul_comm]; rfl
theorem bitsL_mod : ∀ (w x : Nat), bitsL w (x % 2 ^ w) = bitsL w x
  | 0, _ => rfl
  | w + 1, x => by
    have e1 : x % 2 ^ (w + 1) % 2 = x % 2 := by
      rw [Nat.pow_succ, Nat.mul_comm, Nat.mod_mul_right_mod]
    have e2 : x % 2 ^ (w + 1) / 2 = x / 2 % 2 ^ w := by
      rw [Nat.pow_succ, Nat.mul_comm, Nat.mod_mul_right_div_self]
    rw [bitsL, bitsL, e1, e2, bitsL_mod w]
theorem bitsL_zero : ∀ w, bitsL w 0 = List.replicate w 0
  | 0 => rfl
  | w + 1 => by rw [bitsL, bitsL_zero w]; rfl
/-- digits of w places each, read from the last -/
theorem flat_rev (w : Nat) (xs : List Nat) : (xs.flatMap (bitsH w)).reverse = xs.reverse.flatMap (bitsL w) := by
  induction xs with
  | nil => rfl
  | cons a r ih => rw [List.flatMap_cons, List.reverse_append, ih, bitsH_rev, List.reverse_cons, List.flatMap_append]; simp
/-- the number of digits to the base 2 ^ w, the last weighs least -/
def numW (w : Nat) : List Nat → Nat
  | [] => 0
  | a :: r => a + 2 ^ w * numW w r
theorem flat_bits (w : Nat) : ∀ r : List Nat, (∀ a ∈ r, a < 2 ^ w) → r.flatMap (bitsL w) = bitsL (w * r.length) (numW w r)
  | [], _ => by simp [bitsL]
  | a :: r, h => by
    have ha := h a (List.mem_cons_self ..)
    have e1 : numW w (a :: r) % 2 ^ w = a := by
      rw [numW, Nat.add_mul_mod_self_left, Nat.mod_eq_of_lt ha]
    have e2 : numW w (a :: r) / 2 ^ w = numW w r := by
      rw [numW, Nat.add_mul_div_left _ _ (Nat.two_pow_pos w), Nat.div_eq_of_lt ha, Nat.zero_add]
    rw [List.flatMap_cons, flat_bits w r (fun b hb => h b (List.mem_cons_of_mem _ hb)), List.length_cons, Nat.mul_succ, Nat.add_comm, bitsL_add, e2, ← bitsL_mod w (numW w (a :: r)), e1]
theorem numW_append (w : Nat) : ∀ (a b : List Nat), numW w (a ++ b) = numW w a + 2 ^ (w * a.length) * numW w b
  | [], b => by simp [numW]
  | x :: a, b => by
    rw [List.cons_append, numW, numW_append w a b, numW, List.length_cons, Nat.mul_succ, Nat.pow_add, Nat.mul_add, Nat.add_assoc]
    congr 2
    rw [← Nat.mul_assoc, Nat.mul_comm (2 ^ w)]
theorem nib_num (os : List Nat) : numW 4 (nib os).reverse = num os := by
  have key : ∀ r : List Nat, numW 4 (nib r.reverse).reverse = num r.reverse := by
    intro r
    induction r with
    | nil => rfl
    | cons a r ih =>
      rw [List.reverse_cons, num_snoc, ← ih]
      have : nib (r.reverse ++ [a]) = nib r.reverse ++ [a / 16, a % 16] := by unfold nib; rw [List.flatMap_append]; rfl
      rw [this, List.reverse_append]
      show numW 4 ([a % 16, a / 16] ++ (nib r.reverse).reverse) = _
      rw [numW_append]
      simp only [numW, List.length_cons, List.length_nil]
      omega
  have := key os.reverse
  rwa [List.reverse_reverse] at this
/-- the places that base 16 shows -/
theorem fours_eq {os : List Nat} (h : ∀ o ∈ os, o < 256) : ((nib os).flatMap (bitsH 4)).reverse = bitsL (8 * os.length) (num os) := by
  rw [flat_rev, flat_bits 4 _ (fun a ha => nib_lt h a (List.mem_reverse.mp ha)), nib_num, List.length_reverse, nib_length]
  congr 1; omega
theorem sext_num : ∀ (k n : Nat), numW 6 (sext k n).reverse = n % 2 ^ (6 * k)
  | 0, n => by simp [sext, numW]; omega
  | k + 1, n => by
    rw [sext, List.reverse_append]
    show numW 6 (n % 64 :: (sext k (n / 64)).reverse) = _
    rw [numW, sext_num k, show 6 * (k + 1) = 6 + 6 * k by omega, Nat.pow_add, Nat.mod_mul]
theorem num_lt2 {os : List Nat} (h : ∀ o ∈ os, o < 256) : num os < 2 ^ (8 * os.length) := by
  have := num_lt os h
  rwa [show (256 : Nat) = 2 ^ 8 from rfl, ← Nat.pow_mul] at this
def sx (os : List Nat) : List Nat := sext ((4 * os.length + shortOf os.length) / 3) (num os * 4 ^ shortOf os.length)
theorem sx_length (os : List Nat) : (sx os).length = (4 * os.length + shortOf os.length) / 3 := sext_length _ _
theorem take_b64 (os : List Nat) {k : Nat} (hk : k = (b64L os).length - shortOf os.length) : (b64L os).take k = (sx os).map c64 := by
  have h : b64L os = (sx os).map c64 ++ List.replicate (shortOf os.length) 61 := rfl
  subst hk
  rw [h, List.length_append, List.length_replicate, Nat.add_sub_cancel, List.take_left]
theorem drop_b64 (os : List Nat) {k : Nat} (hk : k = (b64L os).length - shortOf os.length) : (b64L os).drop k = List.replicate (shortOf os.length) 61 := by
  have h : b64L os = (sx os).map c64 ++ List.replicate (shortOf os.length) 61 := rfl
  subst hk
  rw [h, List.length_append, List.length_replicate, Nat.add_sub_cancel, List.drop_left]
/-- the places that base 64 shows: noughts, and the same -/
theorem sixes_eq {os : List Nat} (h : ∀ o ∈ os, o < 256) :
    ((sext ((4 * os.length + shortOf os.length) / 3) (num os * 4 ^ shortOf os.length)).flatMap (bitsH 6)).reverse = List.replicate (2 * shortOf os.length) 0 ++ bitsL (8 * os.length) (num os) := by
  have hc : 6 * ((4 * os.length + shortOf os.length) / 3) = 2 * shortOf os.length + 8 * os.length := by unfold shortOf; omega
  have h4 : (4 : Nat) ^ shortOf os.length = 2 ^ (2 * shortOf os.length) := by rw [Nat.pow_mul]
  rw [flat_rev, flat_bits 6 _ (fun a ha => sext_lt _ _ a (List.mem_reverse.mp ha)), sext_num, List.length_reverse, sext_length, hc, h4, bitsL_mod, bitsL_add, Nat.mul_div_cancel _ (Nat.two_pow_pos _)]
  congr 1
  rw [← bitsL_mod, Nat.mul_mod_left, bitsL_zero]
end Mine
end
section
open PySem PySem.W PyProof.Rows PySem.Calls PySem.Spec
namespace Mine
/-- the words of the bits of x from place i on -/
def bitWords (x : Int) (i k : Nat) : List Str := ((List.range' i k).filter (fun j => x / 2 ^ j % 2 = 1)).map wordP
theorem bitWords_none {x : Int} : ∀ {k i : Nat}, x / 2 ^ i = 0 → bitWords x i k = []
  | 0, i, _ => rfl
  | k + 1, i, h => by
    have h1 : x / 2 ^ (i + 1) = 0 := by rw [div_pow_succ, h]; rfl
    have := bitWords_none (k := k) h1
    unfold bitWords at this ⊢
    rw [List.range'_succ, List.filter_cons_of_neg (by rw [h]; decide)]
    exact this
theorem div_zero_up {x : Int} {i : Nat} (h : x / 2 ^ i = 0) : ∀ k, x / 2 ^ (i + k) = 0
  | 0 => h
  | k + 1 => by rw [← Nat.add_assoc, div_pow_succ, div_zero_up h k]; rfl
def tailP (x : Int) : List Str := if x / 2 ^ 32 = 0 then [] else [hexT (2 ^ 32 * (x / 2 ^ 32))]
theorem pfGo_bits (x : Int) : ∀ (k i : Nat) (ws : List Str), i + k = 32 → x / 2 ^ i ≠ 0 → pfGo k i (2 ^ i * (x / 2 ^ i)) ws = ws ++ bitWords x i k ++ tailP x
  | 0, i, ws, hi, hq => by
    obtain rfl : i = 32 := by omega
    unfold tailP
    rw [if_neg hq]
    simp [pfGo, bitWords]
  | k + 1, i, ws, hi, hq => by
    have hp := pow2_pos i
    have e : 2 ^ (i + 1) * (x / 2 ^ (i + 1)) = 2 ^ i * (2 * (x / 2 ^ i / 2)) := by rw [div_pow_succ, Int.pow_succ, Int.mul_assoc]
    have hw : bitWords x i (k + 1) = (if x / 2 ^ i % 2 = 1 then [wordP i] else []) ++ bitWords x (i + 1) k := by
      unfold bitWords
      rw [List.range'_succ]
      by_cases h : x / 2 ^ i % 2 = 1
      · rw [List.filter_cons_of_pos (by simpa using h), if_pos h]; rfl
      · rw [List.filter_cons_of_neg (by simpa using h), if_neg h]; rfl
    rw [pfGo, bitAnd_cut]
    rcases Int.emod_two_eq (x / 2 ^ i) with h | h
    · rw [h, if_pos (by simp), hw, if_neg (by omega), List.nil_append]
      have hq2 : x / 2 ^ (i + 1) ≠ 0 := by rw [div_pow_succ]; omega
      have := pfGo_bits x k (i + 1) ws (by omega) hq2
      rw [e] at this
      rw [← this]
      congr 2
      omega
    · rw [h, Int.one_mul, if_neg (Int.ne_of_gt hp), bitXor_and, bitAnd_cut, h, hw, if_pos h]
      have e2 : 2 ^ i * (x / 2 ^ i) + 2 ^ i - 2 * (1 * 2 ^ i) = 2 ^ (i + 1) * (x / 2 ^ (i + 1)) := by
        rw [e]
        have e3 : x / 2 ^ i = 2 * (x / 2 ^ i / 2) + 1 := by omega
        generalize x / 2 ^ i / 2 = r at e3 ⊢
        rw [e3, Int.mul_add]
        omega
      rw [e2]
      by_cases hz : x / 2 ^ (i + 1) = 0
      · rw [hz, Int.mul_zero, if_pos rfl, bitWords_none hz]
        have h32 : x / 2 ^ 32 = 0 := by
          have := div_zero_up hz k
          rwa [show i + 1 + k = 32 by omega] at this
        unfold tailP
        rw [if_pos h32]; simp
      · have hne : ¬ 2 ^ (i + 1) * (x / 2 ^ (i + 1)) = 0 := by
          intro h0
          rcases Int.mul_eq_zero.mp h0 with h0 | h0
          · exact absurd h0 (Int.ne_of_gt (pow2_pos (i + 1)))
          · exact hz h0
        rw [if_neg hne, pfGo_bits x k (i + 1) (ws ++ [wordP i]) (by omega) hz]
        simp
theorem pfGo_some {x : Int} (h : x ≠ 0) : pfGo 32 0 x [] = bitWords x 0 32 ++ tailP x := by
  have := pfGo_bits x 32 0 [] rfl (by simpa using h)
  simpa using this
theorem pfGo_zero : pfGo 32 0 0 [] = [hexT 0] := by
  have : ∀ k i, pfGo k i 0 [] = [hexT 0] := by
    intro k
    induction k with
    | zero => intro i; rfl
    | succ k ih => intro i; rw [pfGo, if_pos (by rw [kbt_bit]; simp), ih]
  exact this 32 0
theorem wordsOf_bits {x : Int} {ps : List Int} {wanted : Int} (h : ∀ i, i < 32 → (ps.getD i 0 = wanted ↔ x / 2 ^ i % 2 = 1)) : wordsOf ps wanted 32 = bitWords x 0 32 := by
  unfold wordsOf bitWords
  rw [List.range_eq_range']
  congr 1
  apply List.filter_congr
  intro i hi
  have hi : i < 32 := by rw [← List.range_eq_range'] at hi; exact List.mem_range.mp hi
  exact decide_eq_decide.mpr (h i hi)
theorem bitsL_getD : ∀ (w x i : Nat), x < 2 ^ w → (bitsL w x).getD i 0 = x / 2 ^ i % 2
  | 0, x, i, h => by
    have : x = 0 := by simpa using h
    subst this
    simp [bitsL]
  | w + 1, x, 0, h => by simp [bitsL]
  | w + 1, x, i + 1, h => by
    rw [bitsL, List.getD_cons_succ, bitsL_getD w (x / 2) i (by rw [Nat.pow_succ] at h; omega), Nat.div_div_eq_div_mul, Nat.pow_succ, Nat.mul_comm]
theorem cast_getD (l : List Nat) (i : Nat) : (cast l).getD i 0 = ((l.getD i 0 : Nat) : Int) := by
  unfold cast
  simp only [List.getD_eq_getElem?_getD, List.getElem?_map]
  cases l[i]? <;> rfl
end Mine
end
section
open PySem PySem.W PyProof.Rows PySem.Calls PySem.Spec
namespace Mine
theorem cv_append : ∀ a b : List Nat, cv (a ++ b) = cv a + 2 ^ a.length * cv b
  | [], b => by simp [cv]
  | x :: a, b => by
    rw [List.cons_append, cv, cv, cv_append a b, List.length_cons, Nat.pow_succ, Nat.mul_add, ← Nat.mul_assoc 2, Nat.mul_comm 2 (2 ^ a.length)]; omega
theorem cv_bitsL : ∀ (w x : Nat), x < 2 ^ w → cv (bitsL w x) = x
  | 0, x, h => by
    have : x = 0 := by simpa using h
    subst this; rfl
  | w + 1, x, h => by
    rw [bitsL, cv, cv_bitsL w (x / 2) (by rw [Nat.pow_succ] at h; omega)]; omega
theorem bitsL_drop (w v x : Nat) : (bitsL (w + v) x).drop w = bitsL v (x / 2 ^ w) := by
  rw [bitsL_add, List.drop_left' (bitsL_length w x)]
theorem dig_drop (qs : List Nat) (i : Nat) : dig (qs.drop 4) i = dig qs (i + 1) := by
  unfold dig
  rw [List.drop_drop]
  congr 3
  congr 1
  omega
theorem sixC_snoc (qs : List Nat) : ∀ k, sixC qs (k + 1) = sixC (qs.drop 4) k ++ [dig qs 0]
  | 0 => rfl
  | k + 1 => by
    rw [sixC, sixC_snoc qs k, sixC, dig_drop]; rfl
def Dg (m : Nat) : List Nat := (Nat.toDigits 16 m).map Char.toNat
theorem digitChar_hex {c : Nat} (h : c < 16) : (Nat.digitChar c).toNat = Builtin.Bytes.hexDigit c := by
  have : ∀ v : Fin 16, (Nat.digitChar v.val).toNat = Builtin.Bytes.hexDigit v.val := by decide +kernel
  exact this ⟨c, h⟩
theorem Dg_small {c : Nat} (h : c < 16) : Dg c = [Builtin.Bytes.hexDigit c] := by
  unfold Dg
  rw [Nat.toDigits_of_lt_base h, List.map_singleton, digitChar_hex h]
theorem Dg_step {n c : Nat} (hn : 0 < n) (h : c < 16) : Dg (c + 16 * n) = Dg n ++ [Builtin.Bytes.hexDigit c] := by
  have := Nat.toDigits_append_toDigits (b := 16) (by decide) hn h
  have e : c + 16 * n = 16 * n + c := by omega
  rw [← Dg_small h]
  unfold Dg
  rw [e, ← this, List.map_append]
theorem Dg_ne (m : Nat) : Dg m ≠ [] := by
  intro h
  have h1 := toDigits_len_ge 16 m
  unfold Dg at h
  rw [List.map_eq_nil_iff.mp h] at h1
  exact absurd h1 (by decide)
theorem hexDigit_zero {c : Nat} (h : c < 16) : (Builtin.Bytes.hexDigit c == 48) = decide (c = 0) := by
  have : ∀ v : Fin 16, (Builtin.Bytes.hexDigit v.val == 48) = decide (v.val = 0) := by decide +kernel
  exact this ⟨c, h⟩
theorem cv_four (qs : List Nat) (k : Nat) : cv (qs.take (4 * (k + 1))) = cv (qs.take 4) + 16 * cv ((qs.drop 4).take (4 * k)) := by
  have e : qs.take (4 * (k + 1)) = qs.take 4 ++ (qs.drop 4).take (4 * k) := by
    rw [show 4 * (k + 1) = 4 + 4 * k by omega, List.take_add]
  rw [e, cv_append]
  by_cases h : 4 ≤ qs.length
  · rw [List.length_take, Nat.min_eq_left h]
  · rw [List.drop_eq_nil_of_le (by omega)]; simp [cv]
theorem sixC_drop : ∀ (k : Nat) (qs : List Nat), (∀ q ∈ qs, q < 2) → (sixC qs k).dropWhile (· == 48) = if cv (qs.take (4 * k)) = 0 then [] else Dg (cv (qs.take (4 * k)))
  | 0, qs, _ => by simp [sixC, cv]
  | k + 1, qs, h => by
    have ih := sixC_drop k (qs.drop 4) fun q hq => h q (List.mem_of_mem_drop hq)
    have hc : cv (qs.take 4) < 16 := by
      have := chunk_lt h 0
      simpa using this
    have hd : dig qs 0 = Builtin.Bytes.hexDigit (cv (qs.take 4)) := by unfold dig; simp
    rw [sixC_snoc, List.dropWhile_append, ih, cv_four, hd]
    by_cases hv : cv ((qs.drop 4).take (4 * k)) = 0
    · rw [if_pos hv, hv]
      simp only [List.isEmpty_nil, if_true, Nat.mul_zero, Nat.add_zero]
      by_cases h0 : cv (qs.take 4) = 0
      · rw [if_pos h0, List.dropWhile_cons_of_pos (by rw [hexDigit_zero hc]; simpa using h0)]; rfl
      · rw [if_neg h0, List.dropWhile_cons_of_neg (by rw [hexDigit_zero hc]; simpa using h0), Dg_small hc]
    · rw [if_neg hv, if_neg (by simpa using Dg_ne _), if_neg (by omega), Dg_step (by omega) hc]
theorem drop_takeWhile (p : Nat → Bool) : ∀ l : List Nat, l.drop (l.takeWhile p).length = l.dropWhile p
  | [] => rfl
  | a :: l => by
    by_cases h : p a = true
    · rw [List.takeWhile_cons_of_pos h, List.dropWhile_cons_of_pos h, List.length_cons, List.drop_succ_cons, drop_takeWhile p l]
    · rw [List.takeWhile_cons_of_neg h, List.dropWhile_cons_of_neg h]; rfl
theorem lstrip_zero (l : List Nat) : Txt.lstripChars ⟨l.toArray⟩ (Str.ofString "0") = ⟨(l.dropWhile (· == 48)).toArray⟩ := by
  have e : Str.ofString "0" = ⟨#[48]⟩ := by decide +kernel
  have hp : (#[48] : Array Nat).contains = (fun c : Nat => c == 48) := by
    funext c
    rw [Bool.eq_iff_iff]; simp
  unfold Txt.lstripChars
  rw [e, PySem.W.stripBy_eq]
  show Str.mk (l.toArray.extract (l.takeWhile (#[48] : Array Nat).contains).length l.toArray.size) = _
  rw [hp, List.extract_toArray, List.size_toArray, List.extract_eq_drop_take, List.take_of_length_le (by simp), drop_takeWhile]
theorem sixT_eq {qs : List Nat} (h : ∀ q ∈ qs, q < 2) : sixT qs = ⟨(if cv qs = 0 then [] else Dg (cv qs)).toArray⟩ := by
  unfold sixT
  rw [lstrip_zero, sixC_drop _ _ h, List.take_of_length_le (by omega)]
theorem sixT_nil {qs : List Nat} (h : ∀ q ∈ qs, q < 2) : sixT qs = Str.ofString "" ↔ cv qs = 0 := by
  have e : Str.ofString "" = ⟨#[]⟩ := by decide +kernel
  rw [sixT_eq h, e]
  by_cases h0 : cv qs = 0
  · simp [h0]
  · rw [if_neg h0]
    constructor
    · intro h1
      have : (Dg (cv qs)).toArray = #[] := by injection h1
      exact absurd (by simpa using this) (Dg_ne (cv qs))
    · intro h1; exact absurd h1 h0
theorem Dg_shift {n : Nat} (hn : 0 < n) : ∀ k, Dg (n * 16 ^ k) = Dg n ++ List.replicate k 48
  | 0 => by simp
  | k + 1 => by
    have hp : 0 < n * 16 ^ k := Nat.mul_pos hn (Nat.pow_pos (by decide))
    have := Dg_step hp (c := 0) (by decide)
    rw [show n * 16 ^ (k + 1) = 0 + 16 * (n * 16 ^ k) by rw [Nat.pow_succ, ← Nat.mul_assoc]; omega, this, Dg_shift hn k, List.replicate_succ', List.append_assoc]; rfl
theorem ofList_Dg (m : Nat) : Str.ofString (String.ofList (Nat.toDigits 16 m)) = ⟨(Dg m).toArray⟩ := by
  rw [PySem.W.Fast.ofString_ofList]; rfl
theorem str_app (a b : List Nat) : (⟨a.toArray⟩ : Str) ++ ⟨b.toArray⟩ = ⟨(a ++ b).toArray⟩ := by
  show Str.mk (a.toArray ++ b.toArray) = _
  simp
theorem hexT_pos {m : Nat} (hm : 0 < m) {qs : List Nat} (h : ∀ q ∈ qs, q < 2) (hv : cv qs = m) :
    hexT (2 ^ 32 * ((m : Nat) : Int)) = Str.ofString "0x" ++ sixT qs ++ Str.ofString "00000000" := by
  have e8 : Str.ofString "00000000" = ⟨(List.replicate 8 48).toArray⟩ := by decide +kernel
  have e0 : Str.ofString "" = ⟨([] : List Nat).toArray⟩ := by decide +kernel
  have e1 : Str.ofString "0x" = ⟨[48, 120].toArray⟩ := by decide +kernel
  have hn : (2 ^ 32 * ((m : Nat) : Int)).natAbs = m * 16 ^ 8 := by
    rw [show (2 : Int) ^ 32 = 4294967296 by decide, show (16 : Nat) ^ 8 = 4294967296 by decide]; omega
  have hlt : ¬ (2 ^ 32 * ((m : Nat) : Int)) < 0 := by rw [show (2 : Int) ^ 32 = 4294967296 by decide]; omega
  unfold hexT baseText
  rw [if_neg hlt, hn, ofList_Dg, Dg_shift hm, sixT_eq h, hv, if_neg (by omega), e8, e0, e1]
  simp only [str_app]
  simp
theorem hexT_neg {m : Nat} (hm : 0 < m) {qs : List Nat} (h : ∀ q ∈ qs, q < 2) (hv : cv qs = m) :
    hexT (2 ^ 32 * (-((m : Nat) : Int))) = Str.ofString "-0x" ++ sixT qs ++ Str.ofString "00000000" := by
  have e8 : Str.ofString "00000000" = ⟨(List.replicate 8 48).toArray⟩ := by decide +kernel
  have e0 : Str.ofString "-" = ⟨[45].toArray⟩ := by decide +kernel
  have e1 : Str.ofString "0x" = ⟨[48, 120].toArray⟩ := by decide +kernel
  have e2 : Str.ofString "-0x" = ⟨[45, 48, 120].toArray⟩ := by decide +kernel
  have hn : (2 ^ 32 * (-((m : Nat) : Int))).natAbs = m * 16 ^ 8 := by
    rw [show (2 : Int) ^ 32 = 4294967296 by decide, show (16 : Nat) ^ 8 = 4294967296 by decide]; omega
  have hlt : (2 ^ 32 * (-((m : Nat) : Int))) < 0 := by rw [show (2 : Int) ^ 32 = 4294967296 by decide]; omega
  unfold hexT baseText
  rw [if_pos hlt, hn, ofList_Dg, Dg_shift hm, sixT_eq h, hv, if_neg (by omega), e8, e0, e1, e2]
  simp only [str_app]
  simp
end Mine
end
section
open PySem PySem.W PyProof.Rows PySem.Calls PySem.Spec
namespace Mine
theorem cv_drop : ∀ (k w N : Nat), N < 2 ^ w → cv ((bitsL w N).drop k) = N / 2 ^ k
  | 0, w, N, h => by rw [List.drop_zero, cv_bitsL w N h]; simp
  | k + 1, 0, N, h => by
    have : N = 0 := by simpa using h
    subst this
    simp [bitsL, cv]
  | k + 1, w + 1, N, h => by
    rw [bitsL, List.drop_succ_cons, cv_drop k w (N / 2) (by rw [Nat.pow_succ] at h; omega), Nat.div_div_eq_div_mul, Nat.pow_succ, Nat.mul_comm]
theorem bitWords_nil {x : Int} : ∀ (k i : Nat), bitWords x i k = [] → x / 2 ^ (i + k) = 0 → x / 2 ^ i = 0
  | 0, i, _, h => h
  | k + 1, i, hn, h => by
    unfold bitWords at hn
    rw [List.range'_succ] at hn
    by_cases hb : x / 2 ^ i % 2 = 1
    · rw [List.filter_cons_of_pos (by simpa using hb)] at hn
      exact absurd hn (by simp)
    · rw [List.filter_cons_of_neg (by simpa using hb)] at hn
      have := bitWords_nil k (i + 1) hn (by rwa [show i + 1 + k = i + (k + 1) by omega])
      rw [div_pow_succ] at this
      omega
theorem nat_bit (N i : Nat) : ((N : Nat) : Int) / 2 ^ i = ((N / 2 ^ i : Nat) : Int) := by
  rw [← kbt_cast]; rfl
theorem neg_bit (N i : Nat) : (-1 - ((N : Nat) : Int)) / 2 ^ i = -1 - ((N / 2 ^ i : Nat) : Int) := by
  have := (kbt_below (-1 - ((N : Nat) : Int)) (kbt_pos i)).1
  rw [this, show -(-1 - ((N : Nat) : Int)) - 1 = ((N : Nat) : Int) by omega, nat_bit]
  omega
theorem words_up {w N : Nat} (h : N < 2 ^ w) : wordsOf (cast (bitsL w N)) 1 32 = bitWords ((N : Nat) : Int) 0 32 := by
  apply wordsOf_bits
  intro i _
  rw [cast_getD, bitsL_getD w N i h, nat_bit]
  omega
theorem words_down {w N : Nat} (h : N < 2 ^ w) : wordsOf (cast (bitsL w N)) 0 32 = bitWords (-1 - ((N : Nat) : Int)) 0 32 := by
  apply wordsOf_bits
  intro i _
  rw [cast_getD, bitsL_getD w N i h, neg_bit]
  omega
theorem drop_lt {w N k : Nat} : ∀ q ∈ (bitsL w N).drop k, q < 2 := fun q hq => bitsL_lt _ _ q (List.mem_of_mem_drop hq)
theorem pf_up {w N : Nat} (h : N < 2 ^ w) : pfGo 32 0 ((N : Nat) : Int) [] = wordsOf (cast (bitsL w N)) 1 32 ++
    (if sixT ((bitsL w N).drop 32) = Str.ofString "" then (if wordsOf (cast (bitsL w N)) 1 32 = [] then [Str.ofString "0x0"] else []) else [Str.ofString "0x" ++ sixT ((bitsL w N).drop 32) ++ Str.ofString "00000000"]) := by
  have hcv := cv_drop 32 w N h
  have hs := sixT_nil (qs := (bitsL w N).drop 32) drop_lt
  rw [hcv] at hs
  rw [words_up h]
  by_cases h0 : N = 0
  · subst h0
    have e : ((0 : Nat) : Int) = 0 := rfl
    rw [if_pos (hs.mpr (by simp)), e, pfGo_zero, bitWords_none (by simp), if_pos rfl]
    decide +kernel
  · rw [pfGo_some (by omega)]
    congr 1
    unfold tailP
    rw [nat_bit]
    by_cases hM : N / 2 ^ 32 = 0
    · rw [if_pos (hs.mpr hM), hM, if_pos (show ((0 : Nat) : Int) = 0 from rfl), if_neg]
      intro hn
      have := bitWords_nil 32 0 hn (by rw [Nat.zero_add, nat_bit, hM]; rfl)
      simp at this
      omega
    · rw [if_neg (fun hh => hM (hs.mp hh)), if_neg (by omega), hexT_pos (by omega) drop_lt hcv]
theorem up_cv : ∀ (k : Nat) (qs : List Nat), (∀ q ∈ qs, q < 2) → k ≤ qs.length → (∀ j < k, qs.getD j 0 = 1) → (k < qs.length → ¬ qs.getD k 0 = 1) →
    cv (List.replicate k 0 ++ [1] ++ qs.drop (k + 1)) = cv qs + 1
  | 0, [], _, _, _, _ => rfl
  | 0, a :: r, h, _, _, h1 => by
    have h2 := h a (List.mem_cons_self ..)
    have h3 : ¬ a = 1 := by simpa using h1 (by simp)
    have : a = 0 := by omega
    subst this
    simp [cv]; omega
  | k + 1, [], _, hl, _, _ => absurd hl (by simp)
  | k + 1, a :: r, h, hl, hj, h1 => by
    have h2 : a = 1 := by simpa using hj 0 (by omega)
    subst h2
    have ih := up_cv k r (fun q hq => h q (List.mem_cons_of_mem _ hq)) (by simpa using hl) (fun j hjk => by simpa using hj (j + 1) (by omega)) (fun hk => by simpa using h1 (by simpa using hk))
    rw [List.replicate_succ, List.cons_append, List.cons_append, cv, List.drop_succ_cons, ih, cv]
    omega
theorem up_lt {k : Nat} {qs : List Nat} (h : ∀ q ∈ qs, q < 2) : ∀ q ∈ List.replicate k 0 ++ [1] ++ qs.drop (k + 1), q < 2 := by
  intro q hq
  rcases List.mem_append.mp hq with hq | hq
  · rcases List.mem_append.mp hq with hq | hq
    · rw [(List.mem_replicate.mp hq).2]; decide
    · rw [List.mem_singleton.mp hq]; decide
  · exact h q (List.mem_of_mem_drop hq)
theorem pf_down {w N : Nat} (h : N < 2 ^ w) {us : List Nat}
    (hu : ∃ k, us = List.replicate k 0 ++ [1] ++ ((bitsL w N).drop 32).drop (k + 1) ∧ k ≤ ((bitsL w N).drop 32).length ∧ (∀ j < k, ((bitsL w N).drop 32).getD j 0 = 1) ∧ (k < ((bitsL w N).drop 32).length → ¬ ((bitsL w N).drop 32).getD k 0 = 1)) :
    pfGo 32 0 (-1 - ((N : Nat) : Int)) [] = wordsOf (cast (bitsL w N)) 0 32 ++ [Str.ofString "-0x" ++ sixT us ++ Str.ofString "00000000"] := by
  obtain ⟨k, rfl, h1, h2, h3⟩ := hu
  have hcv := up_cv k ((bitsL w N).drop 32) drop_lt h1 h2 h3
  rw [cv_drop 32 w N h] at hcv
  rw [words_down h, pfGo_some (by omega)]
  congr 1
  unfold tailP
  have e : (-1 - ((N / 2 ^ 32 : Nat) : Int)) = -((N / 2 ^ 32 + 1 : Nat) : Int) := by
    generalize N / 2 ^ 32 = M
    omega
  rw [neg_bit, if_neg (by omega), e]
  rw [hexT_neg (by omega) (up_lt drop_lt) hcv]
end Mine
end
section
open PySem PySem.W PyProof.Rows PySem.Calls PySem.Spec
namespace Mine
section
variable {prog : Program} {w : World} {A : Around} {E : Value → Shared → Prop} {s : Shared} {h₀ : Heap} {L : Addr} {m : Str → Option Value}
/-- after a branching statement: the list of words at l holds the texts T -/
def MidJ (h₀ : Heap) (L : Addr) (m : Str → Option Value) (l : Addr) (rest : List (Addr × Obj)) (T : List Str) (s s' : Shared) : Prop :=
  ∃ vs k h' tk', s' = { s with heap := h', toks := tk' } ∧ Fr h₀ L h' m ∧ News h₀ L h' ((l, listOf (strValues vs).toArray k) :: rest) ∧ vs.map (·.1) = T
def MidE (h₀ : Heap) (L : Addr) (m : Str → Option Value) (l : Addr) (rest : List (Addr × Obj)) (T : List Str) (s : Shared) (f : Flow) (s' : Shared) : Prop :=
  f = .next ∧ MidJ h₀ L m l rest T s s'
theorem MidE.intro {l : Addr} {rest : List (Addr × Obj)} {T : List Str} {vs : List (Str × Tok)} {k : Nat} {h' : Heap} {tk' : Nat} (F : Fr h₀ L h' m) (N : News h₀ L h' ((l, listOf (strValues vs).toArray k) :: rest)) (e : vs.map (·.1) = T) :
    MidE h₀ L m l rest T s .next { s with heap := h', toks := tk' } := ⟨rfl, vs, k, h', tk', rfl, F, N, e⟩
theorem mid_if {t : Sem Flow} {Q : Flow → Shared → Prop} {l : Addr} {rest : List (Addr × Obj)} {ws : List (Str × Tok)} {k : Nat} (F : Fr h₀ L s.heap m) (N : News h₀ L s.heap ((l, listOf (strValues ws).toArray k) :: rest)) (T : List Str)
    (h : wpAny (model prog w) A t (MidE h₀ L m l rest T s) E s)
    (hn : ∀ vs k h' tk', vs.map (·.1) = T → Fr h₀ L h' m → News h₀ L h' ((l, listOf (strValues vs).toArray k) :: rest) → Q .next { s with heap := h', toks := tk' }) : wpAny (model prog w) A t Q E s := by
  refine wpAny_mono h ?_ (fun _ _ x => x)
  rintro f s' ⟨rfl, vs, k', h', tk', rfl, F', N', e⟩
  exact hn vs k' h' tk' e F' N'
theorem eq_nil_list {l b : Addr} {items : Array Value} {Q : Value → Shared → Prop} (c : Bool) (hl : s.heap.IsList l items) (hb : s.heap.IsList b #[]) (hu : A.units < cLine) (hc : c = decide (items.size = 0)) (h : Q (.bool c) s) :
    wpAny (model prog w) A (compareOp .Eq (.ref l) (.ref b)) Q E s := by
  by_cases h0 : items.size = 0
  · have e : c = true := by rw [hc]; simpa using h0
    subst e
    refine SeqAt.eq_listAt (e := fun _ => true) hl hb (by simpa using h0) hu (fun j h1 _ => absurd h1 (by omega)) ?_
    rw [h0]; exact h
  · have e : c = false := by rw [hc]; simpa using h0
    subst e
    exact SeqAt.eq_list_lengthsAt hl hb (by simpa using h0) hu h
end
end Mine
end
section
open PySem PySem.W PyProof.Rows PySem.Calls PySem.Spec
namespace Mine
section
open PySem.Builtin
def trOut (b tab : Array UInt8) : Array UInt8 := b.map fun c => tab.getD c.toNat c
theorem same_bytes (b : Array UInt8) (t : Tok) : Bytes.Kind.same .bytes (.bytes b t) = pure (.bytes b t) := by rfl
theorem trans_gives (b tab : Array UInt8) (t u : Tok) (ht : tab.size = 256) : Gives («bytes.translate» ⟨[.bytes b t, .bytes tab u], []⟩) (.either (.val (.bytes (trOut b tab) t)) (.bytes (trOut b tab))) := by
  have h0 : (b.filter (fun c => !(#[] : Array UInt8).contains c)).map (fun c => tab.getD c.toNat c) = trOut b tab := by
    rw [Array.filter_eq_self.mpr]
    · rfl
    · intro a _; simp
  refine .of_wp fun M A E s Q hq => ?_
  show wpAny M A (Bytes.bytesLike _ (.bytes tab u) >>= fun r => _) _ E s
  refine wpAny_bind (wpAny_of_eq KBd.like_eq ?_)
  show wpAny M A (if (tab.size != 256) = true then _ else _) _ E s
  rw [if_neg (by rw [ht]; decide)]
  show wpAny M A (if ((b.filter (fun c => !(#[] : Array UInt8).contains c)).map (fun c => tab.getD c.toNat c) == b) = true then (rule _ >>= fun _ => Bytes.Kind.same .bytes (.bytes b t) >>= fun v => ret v) else (mkBytes ((b.filter (fun c => !(#[] : Array UInt8).contains c)).map (fun c => tab.getD c.toNat c)) >>= fun v => ret v)) _ E s
  rw [h0]
  by_cases hb : (trOut b tab == b) = true
  · rw [if_pos hb]
    refine wpAny_bind (wpAny_rule ?_)
    rw [same_bytes]
    refine wpAny_bind (wpAny_pure (wpAny_pure ⟨_, rfl, ?_⟩))
    have e : trOut b tab = b := by simpa using hb
    have h1 := hq.1
    rw [e] at h1
    exact h1
  · rw [if_neg hb]
    exact wpAny_bind (wpAny_mkBytes (wpAny_pure ⟨_, rfl, hq.2.2⟩) hq.2.1)
def mkTab (frm to : Array UInt8) : Array UInt8 := (frm.toList.zip to.toList).foldl (fun t (p : UInt8 × UInt8) => t.setIfInBounds p.1.toNat p.2) ((Array.range 256).map (·.toUInt8))
theorem mk_gives (frm to : Array UInt8) (t u : Tok) (ht : frm.size = to.size) : Gives («bytes.maketrans» ⟨[.bytes frm t, .bytes to u], []⟩) (.bytes (mkTab frm to)) := by
  refine .of_wp fun M A E s Q hq => ?_
  show wpAny M A (Bytes.bytesLike _ (.bytes frm t) >>= fun r => _) _ E s
  refine wpAny_bind (wpAny_of_eq KBd.like_eq ?_)
  show wpAny M A (Bytes.bytesLike _ (.bytes to u) >>= fun r => _) _ E s
  refine wpAny_bind (wpAny_of_eq KBd.like_eq ?_)
  show wpAny M A (if (frm.size != to.size) = true then _ else _) _ E s
  rw [if_neg (by rw [ht]; simp)]
  exact wpAny_bind (wpAny_mkBytes (wpAny_pure ⟨_, rfl, hq.2⟩) hq.1)
end
theorem slot_bytes_translate : Slot "bytes" (Str.ofString "translate") "bytes.translate" :=
  .of (owner := "bytes") (n := "translate") (by rw [typeLookup_type, builtinLookup_eq_fast]; kernel_rfl) (by decide +kernel) (by decide +kernel) (by decide +kernel)
    (by first | exact .inl (by decide +kernel) | exact .inr (by decide +kernel)) (by rw [isSubtype_type]; kernel_rfl)
theorem type_bytes_translate : typeOf (.builtin "bytes.translate") = pure (.type "method_descriptor") := by show builtinType _ = _; rw [builtinType_eq_fast]; kernel_rfl
theorem entry_bytes_translate : entryFor table "bytes.translate" = some Builtin.«bytes.translate» := entryFor_of_tree (by kernel_rfl)
theorem args_bytes_translate_2 (a b : Value) : argsOk "bytes.translate" ⟨[a, b], []⟩ := by
  unfold argsOk; rw [signature?_of (id := "bytes.translate") (n := ['e', 't', 'a', 'l', 's', 'n', 'a', 'r', 't']) (o := ['s', 'e', 't', 'y', 'b']) (by kernel_rfl) FB.owner_bytes]; kernel_rfl
theorem entry_bytes_maketrans : entryFor table "bytes.maketrans" = some Builtin.«bytes.maketrans» := entryFor_of_tree (by kernel_rfl)
theorem args_bytes_maketrans_2 (a b : Value) : argsOk "bytes.maketrans" ⟨[a, b], []⟩ := by
  unfold argsOk; rw [signature?_of (id := "bytes.maketrans") (n := ['s', 'n', 'a', 'r', 't', 'e', 'k', 'a', 'm']) (o := ['s', 'e', 't', 'y', 'b']) (by kernel_rfl) FB.owner_bytes]; kernel_rfl
theorem kind_maketrans : builtinKind "bytes.maketrans" = some .staticMethod := by decide +kernel
theorem split_maketrans : splitId "bytes.maketrans" = some ("bytes", "maketrans") := by decide +kernel
theorem plain_maketrans : plainId "bytes.maketrans" = true := by decide +kernel
section
variable {prog : Program} {w : World} {A : Around} {E : Value → Shared → Prop} {s : Shared}
theorem trans_method {M : Model} {b : Array UInt8} {t : Tok} {pl : Sem Bool} {Q : Value × List Value → Shared → Prop} (h : Q (.builtin "bytes.translate", [.bytes b t]) s) : wpAny M A (getMethod (.bytes b t) (Str.ofString "translate") pl) Q E s :=
  by with_reducible exact KBd.method_of (.bytes b t) (typeIs_bytes _ _ _) slot_bytes_translate type_bytes_translate KBd.noRef h
theorem trOut_size (b tab : Array UInt8) : (trOut b tab).size = b.size := by unfold trOut; rw [Array.size_map]
theorem trans_call {b tab : Array UInt8} {t u : Tok} {Q : Value → Shared → Prop} (ht : tab.size = 256) (hs : b.size ≤ 10000) (h : ∀ t' k', Q (.bytes (trOut b tab) t') { s with toks := k' }) :
    wpAny (model prog w) A (call (.builtin "bytes.translate") [.bytes b t, .bytes tab u]) Q E s :=
  call_meets slot_bytes_translate (typeIs_bytes _ _ _) entry_bytes_translate (args_bytes_translate_2 _ _) (trans_gives b tab t u ht).meets ⟨h _ _, by rw [trOut_size, sizeLine_eq]; omega, h _ _⟩
theorem foldl_set_size (l : List (UInt8 × UInt8)) : ∀ (a : Array UInt8), (l.foldl (fun t (p : UInt8 × UInt8) => t.setIfInBounds p.1.toNat p.2) a).size = a.size := by
  induction l with
  | nil => intro a; rfl
  | cons p l ih => intro a; rw [List.foldl_cons, ih]; simp
theorem mkTab_size (frm to : Array UInt8) : (mkTab frm to).size = 256 := by unfold mkTab; rw [foldl_set_size]; simp
theorem mk_call {frm to : Array UInt8} {t u : Tok} {Q : Value → Shared → Prop} (ht : frm.size = to.size) (h : ∀ t', Q (.bytes (mkTab frm to) t') { s with toks := s.toks + 1 }) :
    wpAny (model prog w) A (call (.builtin "bytes.maketrans") [.bytes frm t, .bytes to u]) Q E s :=
  by
  have hfin := (mk_gives frm to t u ht).meets prog w A (wants Q E) s ⟨by rw [mkTab_size, sizeLine_eq]; decide, h _⟩
  refine wpAny_call (codeAny_call_builtin plain_maketrans entry_bytes_maketrans ?_)
  have ok := args_bytes_maketrans_2 (.bytes frm t) (.bytes to u)
  simp only [checkBuiltinCall, kind_maketrans, split_maketrans]
  cases hsig : Manifest.signature? "bytes.maketrans" with
  | none => exact wpAny_pure hfin
  | some sig =>
    simp only [argsOk, hsig] at ok
    have h2 : Bind.checkArgs "bytes.maketrans" sig ⟨[.bytes frm t, .bytes to u], []⟩ = pure () := ok
    show wpAny _ _ (Bind.checkArgs "bytes.maketrans" sig ⟨[.bytes frm t, .bytes to u], []⟩) _ _ s
    rw [h2]; exact wpAny_pure hfin
theorem find_mk : findCls [] (.type "bytes") (.type "type") (Str.ofString "maketrans") = some (.val (.builtin "bytes.maketrans")) := by first | decide +kernel | kernel_rfl
theorem mk_method {pl : Sem Bool} {Q : Value × List Value → Shared → Prop} (h : Q (.builtin "bytes.maketrans", []) { s with toks := s.toks + 1 }) : wpAny (model prog w) A (getMethod (.type "bytes") (Str.ofString "maketrans") pl) Q E s := by
  have X : Frag.In [] s.heap := fun a o e => nomatch e
  have hstub : opaqueClassAbove (.type "bytes") = pure none := by unfold opaqueClassAbove; dsimp only; rw [show Manifest.isStub "bytes" = false by decide +kernel]; rfl
  have ht : typeOf (.type "bytes") = pure (.type "type") := by first | rfl | kernel_rfl
  have L0 : Looks (model prog w) s.heap (typeOf (.type "bytes")) (.type "type") := Looks.of_pure ht
  have hg : findIn [] (.type "type") "__getattribute__" = some (some (.builtin "type.__getattribute__")) := type_tga
  unfold getMethod specialOf
  refine wpAny_bind (wpAny_bind (L0.here ((looks_findIn X hg).here ?_)))
  dsimp only
  rw [if_pos canon_tga]
  refine wpAny_bind (wpAny_mono (Q := fun v => Q (v, [])) (E := E) ?_ (fun _ _ z => wpAny_pure z) fun _ _ z => z)
  have LO : Looks (model prog w) s.heap (opaqueClassAbove (.type "bytes")) none := Looks.of_pure hstub
  refine cls_open X LO L0 hg (looks_hook X (r := none) (by rfl)) (by show subIn [] _ _ = _; rfl) find_mk ?_
  refine wpAny_pure ?_
  show wpAny _ _ (handedOut (.builtin "bytes.maketrans")) _ _ _
  rw [handedOut_of (by first | rfl | decide +kernel)]
  exact wpAny_pure h
end
end Mine
end
section
open PySem PySem.W PyProof.Rows PySem.Calls PySem.Spec
namespace Mine
open LCg
section
variable {prog : Program} {w : World} {A : Around} {E : Value → Shared → Prop} {s : Shared} {b : Array UInt8} {t : Tok}
theorem nextB_item {it : Addr} {i : Nat} {c : UInt8} {Q : Value → Shared → Prop} (hit : KBw.IsBytesIter s.heap it b t i) (hx : b[i]? = some c)
    (hQ : ∀ h', KBw.IsBytesIter h' it b t (i + 1) → Heap.SameBut it s.heap h' → Q (.int (c.toNat : Int) s.toks) { s with heap := h', toks := s.toks + 1 }) :
    wpAny (model prog w) A (Builtin.SmallTypes.nextOf (.ref it)) Q E s := by
  obtain ⟨o, ho, hc, hd⟩ := id hit
  unfold Builtin.SmallTypes.nextOf
  refine wpAny_bind (wpAny_callSpecial?_slot (name := Str.ofString "__next__") (KBw.iter_typeIs hit) KBw.slot_next
    (wpAny_call_entry KBw.slot_next (KBw.iter_typeIs hit) KBw.entry_next ?_ (KBw.args_next _)))
  show wpAny _ _ (field (.ref it) 0 >>= _) _ _ s
  refine wpAny_bind (wpAny_field ho hd (x := .bytes b t) rfl ?_)
  show wpAny _ _ (if (Value.bytes b t == Value.none) = true then _ else _) _ _ s
  rw [if_neg (show ¬ ((Value.bytes b t == Value.none) = true) from Bool.false_ne_true)]
  show wpAny _ _ (field (.ref it) 1 >>= _) _ _ s
  refine wpAny_bind (wpAny_field ho hd (x := .int i 0) rfl ?_)
  refine wpAny_bind (wpAny_of_eq (a := b) rfl ?_)
  simp only [Int.toNat_natCast, hx]
  refine wpAny_bind (wpAny_setField ho hd (by simp) (wpAny_bind (wpAny_mkInt (wpAny_pure ⟨_, rfl, wpAny_pure (hQ _ ?_ (Heap.SameBut.update ..))⟩))))
  exact ⟨_, Heap.get?_update_self _ ho (Obj.isFreed_of_fields (Obj.data_mapFields hd _)), (Obj.cls_mapFields ..).trans hc, by
    rw [Obj.data_mapFields hd]; simp [rawInt]⟩
theorem nextB_end {it : Addr} {i : Nat} {Q : Value → Shared → Prop} (hh : A.handled = none) (hit : KBw.IsBytesIter s.heap it b t i) (hx : b[i]? = none)
    (hE : ∀ h' e, Heap.ExtBut it s.heap h' → (∃ o, h'.get? e = some o ∧ o.cls = .type "StopIteration") → E (.ref e) { s with heap := h' }) :
    wpAny (model prog w) A (Builtin.SmallTypes.nextOf (.ref it)) Q E s := by
  obtain ⟨o, ho, hc, hd⟩ := id hit
  unfold Builtin.SmallTypes.nextOf
  refine wpAny_bind (wpAny_callSpecial?_slot (name := Str.ofString "__next__") (KBw.iter_typeIs hit) KBw.slot_next
    (wpAny_call_entry KBw.slot_next (KBw.iter_typeIs hit) KBw.entry_next ?_ (KBw.args_next _)))
  show wpAny _ _ (field (.ref it) 0 >>= _) _ _ s
  refine wpAny_bind (wpAny_field ho hd (x := .bytes b t) rfl ?_)
  show wpAny _ _ (if (Value.bytes b t == Value.none) = true then _ else _) _ _ s
  rw [if_neg (show ¬ ((Value.bytes b t == Value.none) = true) from Bool.false_ne_true)]
  show wpAny _ _ (field (.ref it) 1 >>= _) _ _ s
  refine wpAny_bind (wpAny_field ho hd (x := .int i 0) rfl ?_)
  refine wpAny_bind (wpAny_of_eq (a := b) rfl ?_)
  simp only [Int.toNat_natCast, hx]
  refine wpAny_bind (wpAny_rule (wpAny_bind (wpAny_setField ho hd (by simp) ?_)))
  show wpAny _ _ (newExc (.type "StopIteration") [] >>= _) _ _ _
  refine wpAny_bind ?_
  simp only [newExc, newTuple]
  refine wpAny_bind (wpAny_newObj_type ?_ (by size_fits))
  refine wpAny_bind (m := firstArgMember _ _) (wpAny_of_eq (a := Value.none) (by first | rfl | (simp only [firstArgMember]; rfl)) ?_)
  refine wpAny_newObj_type ?_ (by size_fits)
  simp only [raiseNew]
  refine wpAny_bind (wpAny_handled ?_)
  first | rw [show A.in1.handled = none from hh] | rw [hh]
  refine wpAny_bind (wpAny_pure (wpAny_throw ?_))
  exact hE _ _ (((Heap.SameBut.update ..).extBut.push _).push _) ⟨_, Heap.get?_push_size _ rfl, rfl⟩
end
theorem drawsB {prog : Program} {w : World} {A : Around} (hh : A.handled = none) (it : Addr) (b : Array UInt8) (t : Tok) :
    Draws prog w A it [it] b.size (fun i v => ∃ c u, b[i]? = some c ∧ v = .int (c.toNat : Int) u) (fun i h => KBw.IsBytesIter h it b t i) where
  live := fun _ _ st => let ⟨o, ho, _⟩ := st; ⟨o, ho⟩
  frame := fun _ _ _ st hk => let ⟨o, ho, r⟩ := st; ⟨o, hk it (by simp) o ho, r⟩
  item := fun i s Q E hi st hQ => by
    refine nextB_item st (c := b[i]) (by simp [hi]) fun h' hit' hs' => ?_
    exact hQ _ h' (s.toks + 1) ⟨_, _, by simp [hi], rfl⟩ hit' hs'
  done := fun s Q E st hE => nextB_end hh st (by simp) hE
theorem enum_newB (b : Array UInt8) (t : Tok) :
    Meets (Builtin.«enumerate.__new__» ⟨[.type "enumerate", .bytes b t], []⟩) (fun _ R s =>
      R (.ok (.ret (.ref (s.heap.push { cls := .type "bytes_iterator", data := .fields #[.bytes b t, .int 0 0] }).objs.size)))
        { s with heap := (s.heap.push { cls := .type "bytes_iterator", data := .fields #[.bytes b t, .int 0 0] }).push { cls := .type "enumerate", data := .fields #[.none, .bool false, .ref s.heap.objs.size, rawInt 0, .none, .none] } }) :=
  .of_wp fun prog w A R s h => by
    obtain ⟨hp, g, d, tk, os⟩ := s
    have hsub := sub_enumerate
    wp_walk
    refine wpAny_stack_any fun st => wpAny_pure ?_
    split
    · rename_i c _ _ _ _ _
      cases (c == Value.type "enumerate")
      · wp_walk using KBw.pyIter_bytes
        exact ⟨_, rfl, h⟩
      · wp_walk using KBw.pyIter_bytes
        exact ⟨_, rfl, h⟩
    · wp_walk using KBw.pyIter_bytes
      exact ⟨_, rfl, h⟩
section
variable {prog : Program} {w : World} {A : Around} {E : Value → Shared → Prop} {s : Shared}
theorem call_enumerate_bytes {b : Array UInt8} {t : Tok} {Q : Value → Shared → Prop}
    (h : ∀ h', IsEnum h' (s.heap.objs.size + 1) s.heap.objs.size 0 .none → KBw.IsBytesIter h' s.heap.objs.size b t 0 → h'.objs.size = s.heap.objs.size + 2 →
      (∀ b o, s.heap.get? b = some o → h'.get? b = some o) → Q (.ref (s.heap.objs.size + 1)) { s with heap := h' }) :
    wpAny (model prog w) A (call (.type "enumerate") [.bytes b t]) Q E s := by
  refine callType_new F.called_enumerate (by decide) (F.typeCall_enumerate_1 _) (F.newCall_enumerate_1 _) (fun obj => F.args_object_init_2 obj _) F.entry_enumerate_new
    (enum_newB b t) ?_
  have hz : (s.heap.push { cls := .type "bytes_iterator", data := .fields #[.bytes b t, .int 0 0] }).objs.size = s.heap.objs.size + 1 := Heap.size_push ..
  show _ ∧ _
  rw [hz]
  have he : IsEnum ((s.heap.push { cls := .type "bytes_iterator", data := .fields #[.bytes b t, .int 0 0] }).push
      { cls := .type "enumerate", data := .fields #[.none, .bool false, .ref s.heap.objs.size, rawInt 0, .none, .none] }) (s.heap.objs.size + 1) s.heap.objs.size 0 .none := by
    have := Heap.get?_push_size (s.heap.push { cls := .type "bytes_iterator", data := .fields #[.bytes b t, .int 0 0] })
      (o := { cls := .type "enumerate", data := .fields #[.none, .bool false, .ref s.heap.objs.size, rawInt 0, .none, .none] }) rfl
    rw [hz] at this; exact this
  refine ⟨⟨_, he, rfl⟩, h _ he ⟨_, Heap.get?_push_of_some _ (Heap.get?_push_size _ rfl), rfl, rfl⟩ (by rw [Heap.size_push, hz]) fun b o y => Heap.get?_push_of_some _ (Heap.get?_push_of_some _ y)⟩
end
section
variable {prog : Program} {w : World} {A : Around} {E : Value → Shared → Prop} {s : Shared} {h₀ : Heap} {L : Addr} {m : Str → Option Value} {env : Env}
theorem srcE_bytes {elt : Expr} {x x₂ : Str} {scope : Scope} {cl : List (Str × Addr)} {Q : Value → Shared → Prop} {b : Array UInt8} {tb : Tok} {news : List (Addr × Obj)} (hh : A.handled = none) (F : Fr h₀ L s.heap m) (N : News h₀ L s.heap news)
    (hsz : b.size ≤ 10000) (g : Nat → Int → Int)
    (helt : ∀ (i : Nat) c t t' C m₂ s₂ (E' : Value → Shared → Prop), b[i]? = some c → s₂.heap.Ns C m₂ → m₂ x = some (.int i t) → m₂ x₂ = some (.int (c.toNat : Int) t') →
      wpAny (model prog w) A (eval elt (compEnvC scope cl C env)) (fun y s₃ => (∃ t, y = .int (g i (c.toNat : Int)) t) ∧ ∃ tk, s₃ = { s₂ with toks := tk }) E' s₂)
    (fin : ∀ D (ys : List Value) h tk, Fr h₀ L h m → News h₀ L h ((D, lst ys) :: news) → (∀ p ∈ news, p.1 < D) → IntsAre ys ((b.toList.map fun c => (c.toNat : Int)).mapIdx g) → Q (.ref D) { s with heap := h, toks := tk }) :
    wpAny (model prog w) A (call (.type "enumerate") [.bytes b tb]) (SrcE prog w A h₀ L m env elt x x₂ scope cl Q) E s := by
  refine call_enumerate_bytes fun h' he hit hsz' hk => ?_
  have W := (WalksT.enumerateD (prog := prog) (w := w) (A := A) (drawsB (A := A.in1) hh s.heap.objs.size b tb) (s.heap.objs.size + 1) (Nat.ne_of_gt (Nat.lt_succ_self _)) (by simp) (by simp)).toU
  have fresh : ∀ a, s.heap.objs.size ≤ a → h₀.get? a = none := fun a ha => by
    cases e : h₀.get? a with
    | none => rfl
    | some o' => exact absurd (Heap.lt_size (F.keep a o' e)) (Nat.not_lt.mpr ha)
  have hwr : ∀ b ∈ [s.heap.objs.size + 1, s.heap.objs.size], s.heap.objs.size ≤ b := fun b hb => by
    rcases List.mem_cons.mp hb with rfl | hb
    · exact Nat.le_succ _
    · rw [List.mem_singleton.mp hb]; exact Nat.le_refl _
  refine ⟨s.heap.objs.size + 1, _, _, b.size, _, _, _, news, (fun i y => ∃ c t, b[i]? = some c ∧ y = .int (g i (c.toNat : Int)) t), rfl, W, by rw [sizeLine_eq]; omega, ⟨⟨_, he⟩, hit⟩, ?_, F.keeps hk, N.grown hk, ?_, ?_, ?_⟩
  · intro b hb
    show b < h'.objs.size
    rw [hsz']
    rcases List.mem_cons.mp hb with rfl | hb
    · exact Nat.lt_succ_self _
    · rw [List.mem_singleton.mp hb]; exact Nat.lt_succ_of_lt (Nat.lt_succ_self _)
  · intro b hb
    have := hwr b hb
    exact ⟨Ne.symm (Nat.ne_of_lt (Nat.lt_of_lt_of_le F.ns.lt this)), fresh b this, fun p hp => Nat.ne_of_lt (Nat.lt_of_lt_of_le (Heap.lt_size (N p hp).1) this)⟩
  · rintro i vals C m₂ s₂ E' hi' ⟨t, x', ⟨c, u, hc, rfl⟩, rfl⟩
    refine ⟨_, _, rfl, fun hns h1 h2 => ?_⟩
    refine wpAny_mono (helt i c t u C m₂ s₂ E' hc hns h1 h2) (fun y s₃ h₃ => ?_) fun _ _ e => e
    obtain ⟨⟨t₂, e⟩, h₃⟩ := h₃
    exact ⟨⟨c, t₂, hc, e⟩, h₃⟩
  · intro D ys h tk F' N' hD hyl hg
    refine fin D ys h tk F' N' hD (ints_of_all (by rw [hyl, List.length_mapIdx, List.length_map, Array.length_toList]) fun i y hy => ?_)
    obtain ⟨c, t, hc, e⟩ := hg i y hy
    refine ⟨t, ?_⟩
    rw [e, List.getD_eq_getElem?_getD, List.getElem?_mapIdx, List.getElem?_map, Array.getElem?_toList, hc]
    rfl
/-- for over enumerate of a list of ints -/
theorem enumFor_rule {Q : Flow → Shared → Prop} {xi xc : Str} {body : List Stmt} {l : Addr} {vs : List Value} {ns : List Int} {news : List (Addr × Obj)} (hh : A.handled = none) (F : Fr h₀ env.locals s.heap m) (N : News h₀ env.locals s.heap news)
    (hl : s.heap.IsList l vs.toArray) (hlL : l ≠ env.locals) (hi : IntsAre vs ns)
    (J : Nat → (Str → Option Value) → List (Addr × Obj) → Prop) (h0 : J 0 m news)
    (turn : ∀ (i : Nat) n t t' m₁ news₁ h tk own, ns[i]? = some n → J i m₁ news₁ → news₁.map (·.1) = news.map (·.1) → (∀ p ∈ own, p.1 = l ∨ ∀ q ∈ news, q.1 < p.1) →
      Fr h₀ env.locals h (fun y => if y = xc then some (.int n t') else if y = xi then some (.int i t) else m₁ y) → News h₀ env.locals h (own ++ news₁) →
      wpAny (model prog w) A (execs body env) (LoopStep3 h₀ env.locals own news₁ (J (i + 1)) { s with heap := h, toks := tk } (fun v s' => Q (.ret v) s') fun s' => Q .next s') E { s with heap := h, toks := tk })
    (done : ∀ h' tk m' news', Fr h₀ env.locals h' m' → News h₀ env.locals h' news' → news'.map (·.1) = news.map (·.1) → J ns.length m' news' → Q .next { s with heap := h', toks := tk }) :
    wpAny (model prog w) A (call (.type "enumerate") [.ref l]) (fun xv s₁ => wpAny (model prog w) A (pyIter xv) (fun it s₂ => PairAt3 prog w A h₀ env xi xc body Q E it s₂) E s₁) E s := by
  obtain ⟨ol, hol, hlr⟩ := id hl
  have hlt : l < s.heap.objs.size := Heap.lt_size hol
  refine call_enumerate_list hl fun h' he hit hsz' hk => ?_
  refine wpAny_pyIter_enum he ?_
  have W := WalksT.enumerate (prog := prog) (w := w) hh (s.heap.objs.size + 1) s.heap.objs.size l (Nat.ne_of_gt (Nat.lt_succ_self _)) (Nat.ne_of_lt (Nat.lt_succ_of_lt hlt)) (Nat.ne_of_lt hlt) vs.toArray
  have hvl : vs.toArray.size = ns.length := by rw [List.size_toArray, hi.length]
  have fresh : ∀ a, s.heap.objs.size ≤ a → h₀.get? a = none := fun a ha => by
    cases e : h₀.get? a with
    | none => rfl
    | some o' => exact absurd (Heap.lt_size (F.keep a o' e)) (Nat.not_lt.mpr ha)
  have hwr : ∀ b ∈ [s.heap.objs.size + 1, s.heap.objs.size], s.heap.objs.size ≤ b := fun b hb => by
    rcases List.mem_cons.mp hb with rfl | hb
    · exact Nat.le_succ _
    · rw [List.mem_singleton.mp hb]; exact Nat.le_refl _
  have nlt : ∀ p ∈ news, p.1 < s.heap.objs.size := fun p hp => Heap.lt_size (N p hp).1
  refine ⟨s.heap.objs.size + 1, _, _, vs.toArray.size, _, _, _, (fun i v0 v1 => ∃ n t t', ns[i]? = some n ∧ v0 = .int i t ∧ v1 = .int n t'), m, news, J, rfl, W, ?_, ?_, ?_, ?_, ⟨⟨_, he⟩, hit, ⟨ol, hk _ _ hol, hlr⟩⟩, F.keeps hk, N.grown hk, h0, ?_, ?_⟩
  · rintro i vals ⟨t, x', hx', rfl⟩
    obtain ⟨n, t', e', hn⟩ := hi.at i x' (by simpa using hx')
    exact ⟨_, _, rfl, n, t, t', hn, rfl, e'⟩
  · intro hm
    have hLlt := F.ns.lt
    rcases List.mem_cons.mp hm with e | hm
    · rw [e] at hLlt; exact absurd hLlt (Nat.not_lt.mpr (Nat.le_succ _))
    · rcases List.mem_cons.mp hm with e | hm
      · rw [e] at hLlt; exact Nat.lt_irrefl _ hLlt
      · exact hlL (List.mem_singleton.mp hm).symm
  · intro b hb
    exact fresh b (hwr b hb)
  · intro p hp hb
    exact absurd (nlt p hp) (Nat.not_lt.mpr (hwr _ hb))
  · rintro i v0 v1 m₁ news₁ s₁ own ⟨h, tk, rfl⟩ hin ⟨n, t, t', hn, rfl, rfl⟩ hJ ha hown F₁ N₁
    refine turn i n t t' m₁ news₁ h tk own hn hJ ha (fun p hp => ?_) F₁ N₁
    rcases List.mem_cons.mp (hown p hp) with e | hm
    · right; intro q hq; rw [e]; exact Nat.lt_succ_of_lt (nlt q hq)
    · rcases List.mem_cons.mp hm with e | hm
      · right; intro q hq; rw [e]; exact nlt q hq
      · left; exact List.mem_singleton.mp hm
  · intro h₂ tk m' news' F' N' ha hJ
    rw [hvl] at hJ
    exact done h₂ tk m' news' F' N' ha hJ
end
end Mine
end
section
open PySem PySem.W PyProof.Rows PySem.Calls PySem.Spec
namespace Mine
/-- the sign of a six -/
def sgn (a0 a1 x : Nat) : Nat := (B64A.take 62 ++ [a0, a1]).getD x 0
/-- what is written of a row with two signs of one's own -/
def wr (os : List Nat) (a0 a1 : Nat) : List Nat := (sx os).map (sgn a0 a1) ++ List.replicate (shortOf os.length) 61
theorem sgn_low (a0 a1 : Nat) {y : Nat} (h : y < 62) : sgn a0 a1 y = c64 y ∧ c64 y ≠ 43 ∧ c64 y ≠ 47 := by
  have hk : ∀ y : Fin 62, (B64A.take 62).getD y.val 0 = c64 y.val ∧ c64 y.val ≠ 43 ∧ c64 y.val ≠ 47 := by decide +kernel
  have hl : (B64A.take 62).length = 62 := by decide +kernel
  obtain ⟨h1, h2⟩ := hk ⟨y, h⟩
  refine ⟨?_, h2⟩
  unfold sgn
  rw [List.getD_eq_getElem?_getD, List.getElem?_append_left (by omega), ← List.getD_eq_getElem?_getD]
  exact h1
theorem sgn_62 (a0 a1 : Nat) : sgn a0 a1 62 = a0 ∧ c64 62 = 43 := by
  have hl : (B64A.take 62).length = 62 := by decide +kernel
  refine ⟨?_, by decide +kernel⟩
  unfold sgn
  rw [List.getD_eq_getElem?_getD, List.getElem?_append_right (by omega), hl]; rfl
theorem sgn_63 (a0 a1 : Nat) : sgn a0 a1 63 = a1 ∧ c64 63 = 47 := by
  have hl : (B64A.take 62).length = 62 := by decide +kernel
  refine ⟨?_, by decide +kernel⟩
  unfold sgn
  rw [List.getD_eq_getElem?_getD, List.getElem?_append_right (by omega), hl]; rfl
theorem tab_get (x0 x1 : UInt8) {n : Nat} (hn : n < 256) (c : UInt8) : (mkTab #[43, 47] #[x0, x1]).getD n c = if n = 47 then x1 else if n = 43 then x0 else n.toUInt8 := by
  have e : mkTab #[43, 47] #[x0, x1] = (((Array.range 256).map (·.toUInt8)).setIfInBounds 43 x0).setIfInBounds 47 x1 := rfl
  rw [e]
  rw [Array.getD_eq_getD_getElem?, Array.getElem?_setIfInBounds, Array.getElem?_setIfInBounds]
  simp only [Array.size_setIfInBounds, Array.size_map, Array.size_range]
  by_cases h1 : n = 47
  · subst h1; simp
  · by_cases h2 : n = 43
    · subst h2; simp
    · rw [if_neg (fun e => h1 e.symm), if_neg (fun e => h2 e.symm), if_neg h1, if_neg h2]
      simp [hn]
theorem tr_eq (os : List Nat) {a0 a1 : Nat} (h0 : a0 < 256) (h1 : a1 < 256) : trOut (byteArr (cast (b64L os))) (mkTab #[43, 47] (byteArr (cast [a0, a1]))) = byteArr (cast (wr os a0 a1)) := by
  have ea : byteArr (cast [a0, a1]) = #[a0.toUInt8, a1.toUInt8] := by unfold byteArr cast; simp
  rw [ea]
  have key : ∀ x : Nat, x < 256 → (mkTab #[43, 47] #[a0.toUInt8, a1.toUInt8]).getD ((x.toUInt8).toNat) (x.toUInt8) = if x = 47 then a1.toUInt8 else if x = 43 then a0.toUInt8 else x.toUInt8 := by
    intro x hx
    have e : x.toUInt8.toNat = x := by simp; omega
    rw [e]
    exact tab_get _ _ hx _
  have hb : b64L os = (sx os).map c64 ++ List.replicate (shortOf os.length) 61 := rfl
  rw [hb]
  unfold trOut byteArr cast wr
  rw [List.map_toArray]
  congr 1
  rw [List.map_map, List.map_map, List.map_append, List.map_map, List.map_map, List.map_append, List.map_map]
  congr 1
  · apply List.map_congr_left
    intro y hy
    have hy64 : y < 64 := sext_lt _ _ y hy
    have hc := c64_lt y
    simp only [Function.comp, Int.toNat_natCast]
    rw [key _ (by omega)]
    by_cases hlow : y < 62
    · obtain ⟨e1, e2, e3⟩ := sgn_low a0 a1 hlow
      rw [if_neg e3, if_neg e2, e1]
    · have hcs : y = 62 ∨ y = 63 := by omega
      rcases hcs with rfl | rfl
      · rw [(sgn_62 a0 a1).1, (sgn_62 a0 a1).2]; simp
      · rw [(sgn_63 a0 a1).1, (sgn_63 a0 a1).2]; simp
  · rw [List.map_replicate, List.map_replicate]
    congr 1
    simp only [Function.comp, Int.toNat_natCast]
    rw [key _ (by decide)]
    rfl
theorem wr_lt {os : List Nat} {a0 a1 : Nat} (h0 : a0 < 256) (h1 : a1 < 256) : ∀ x ∈ wr os a0 a1, x < 256 := by
  intro x hx
  rcases List.mem_append.mp hx with hx | hx
  · obtain ⟨y, hy, rfl⟩ := List.mem_map.mp hx
    have hy64 : y < 64 := sext_lt _ _ y hy
    by_cases hlow : y < 62
    · rw [(sgn_low a0 a1 hlow).1]; have := c64_lt y; omega
    · have hcs : y = 62 ∨ y = 63 := by omega
      rcases hcs with rfl | rfl
      · rw [(sgn_62 a0 a1).1]; exact h0
      · rw [(sgn_63 a0 a1).1]; exact h1
  · rw [(List.mem_replicate.mp hx).2]; decide
theorem wr_length (os : List Nat) (a0 a1 : Nat) : (wr os a0 a1).length = (4 * os.length + shortOf os.length) / 3 + shortOf os.length := by
  unfold wr
  rw [List.length_append, List.length_map, sx_length, List.length_replicate]
theorem wr_four (os : List Nat) (a0 a1 : Nat) : (wr os a0 a1).length % 4 = 0 := by rw [wr_length]; unfold shortOf; omega
theorem num_append (a b : List Nat) : num (a ++ b) = num a * 256 ^ b.length + num b := by
  have key : ∀ r : List Nat, num (a ++ r.reverse) = num a * 256 ^ r.length + num r.reverse := by
    intro r
    induction r with
    | nil => simp [num]
    | cons c r ih => rw [List.reverse_cons, ← List.append_assoc, num_snoc, ih, num_snoc, List.length_cons, Nat.pow_succ, Nat.add_mul, ← Nat.mul_assoc, Nat.add_assoc]
  have := key b.reverse
  rwa [List.reverse_reverse, List.length_reverse] at this
theorem num_W8 (W : List Nat) : numW 8 W.reverse = num W := by
  have key : ∀ r : List Nat, numW 8 r = num r.reverse := by
    intro r
    induction r with
    | nil => rfl
    | cons a r ih => rw [List.reverse_cons, num_snoc, ← ih, numW]; omega
  rw [key, List.reverse_reverse]
theorem bits_W {W : List Nat} (h : ∀ x ∈ W, x < 256) : bitsL (8 * W.length) (num W) = W.reverse.flatMap (bitsL 8) := by
  have := flat_bits 8 W.reverse (fun a ha => h a (List.mem_reverse.mp ha))
  rw [this, num_W8, List.length_reverse]
theorem wordsOf_congr {ps qs : List Int} {wanted : Int} {n : Nat} (h : ∀ i, i < n → ps.getD i 0 = qs.getD i 0) : wordsOf ps wanted n = wordsOf qs wanted n := by
  unfold wordsOf
  congr 1
  apply List.filter_congr
  intro i hi
  rw [h i (List.mem_range.mp hi)]
theorem flat_len (l : List Nat) : (l.flatMap (bitsL 8)).length = 8 * l.length := by
  induction l with
  | nil => rfl
  | cons a r ih => rw [List.flatMap_cons, List.length_append, ih, bitsL_length, List.length_cons]; omega
/-- the words of the last four signs are the words of the number -/
theorem words_last {W : List Nat} (h : ∀ x ∈ W, x < 256) (h4 : W.length % 4 = 0) :
    wordsOf (cast ((W.drop (W.length - 4)).reverse.flatMap (bitsL 8))) 1 (8 * (W.drop (W.length - 4)).length) = wordsOf (cast (bitsL (8 * W.length) (num W))) 1 32 := by
  rw [bits_W h]
  by_cases h0 : W.length = 0
  · have : W = [] := List.length_eq_zero_iff.mp h0
    subst this
    decide +kernel
  · have hd : (W.drop (W.length - 4)).length = 4 := by rw [List.length_drop]; omega
    rw [hd]
    apply wordsOf_congr
    intro i hi
    have hr : W.reverse = (W.drop (W.length - 4)).reverse ++ (W.take (W.length - 4)).reverse := by rw [← List.reverse_append, List.take_append_drop]
    rw [hr, List.flatMap_append, cast_append, List.getD_eq_getElem?_getD, List.getD_eq_getElem?_getD, List.getElem?_append_left (by rw [cast_length, flat_len, List.length_reverse, hd]; omega)]
/-- signs of fours, the noughts ahead left out -/
theorem digs_drop : ∀ (r : List Nat), (∀ a ∈ r, a < 16) → ((r.reverse.map Builtin.Bytes.hexDigit).dropWhile (· == 48)) = if numW 4 r = 0 then [] else Dg (numW 4 r)
  | [], _ => by simp [numW]
  | a :: r, h => by
    have ih := digs_drop r fun b hb => h b (.tail _ hb)
    have ha := h a (.head _)
    rw [List.reverse_cons, List.map_append, List.dropWhile_append, ih, numW]
    simp only [List.map_cons, List.map_nil]
    by_cases hv : numW 4 r = 0
    · rw [if_pos hv, hv]
      simp only [List.isEmpty_nil, if_true, Nat.mul_zero, Nat.add_zero]
      by_cases h0 : a = 0
      · rw [if_pos h0, List.dropWhile_cons_of_pos (by rw [hexDigit_zero ha]; simpa using h0)]; rfl
      · rw [if_neg h0, List.dropWhile_cons_of_neg (by rw [hexDigit_zero ha]; simpa using h0), Dg_small ha]
    · rw [if_neg hv, if_neg (by simpa using Dg_ne _), if_neg (by omega), show (2 : Nat) ^ 4 = 16 from rfl, Dg_step (by omega) ha]
/-- what stands ahead, by the signs of b16encode -/
def aheadT (V : List Nat) : Str := Txt.lstripChars ⟨((nib V).map Builtin.Bytes.hexDigit).toArray⟩ (Str.ofString "0")
theorem ahead_eq {V : List Nat} (h : ∀ x ∈ V, x < 256) : aheadT V = ⟨(if num V = 0 then [] else Dg (num V)).toArray⟩ := by
  unfold aheadT
  have := digs_drop (nib V).reverse (fun a ha => nib_lt h a (List.mem_reverse.mp ha))
  rw [List.reverse_reverse, nib_num] at this
  rw [lstrip_zero, this]
theorem head_num {W : List Nat} (h : ∀ x ∈ W, x < 256) (h4 : W.length % 4 = 0) : num W / 2 ^ 32 = num (W.take (W.length - 4)) := by
  by_cases h0 : W.length = 0
  · have : W = [] := List.length_eq_zero_iff.mp h0
    subst this
    decide +kernel
  · have hd : (W.drop (W.length - 4)).length = 4 := by rw [List.length_drop]; omega
    have e := num_append (W.take (W.length - 4)) (W.drop (W.length - 4))
    have hlt := num_lt (W.drop (W.length - 4)) (fun o ho => h o (List.mem_of_mem_drop ho))
    rw [List.take_append_drop, hd] at e
    rw [hd] at hlt
    rw [e, show (256 : Nat) ^ 4 = 2 ^ 32 from rfl] at *
    omega
theorem ahead_six {W : List Nat} (h : ∀ x ∈ W, x < 256) (h4 : W.length % 4 = 0) : sixT ((bitsL (8 * W.length) (num W)).drop 32) = aheadT (W.take (W.length - 4)) := by
  rw [sixT_eq drop_lt, cv_drop 32 _ _ (num_lt2 h), head_num h h4, ahead_eq (fun x hx => h x (List.mem_of_mem_take hx))]
/-- what pretty_flags tells of a writing -/
theorem pf_wr {W : List Nat} (h : ∀ x ∈ W, x < 256) (h4 : W.length % 4 = 0) : pfGo 32 0 ((num W : Nat) : Int) [] =
    wordsOf (cast ((W.drop (W.length - 4)).reverse.flatMap (bitsL 8))) 1 (8 * (W.drop (W.length - 4)).length) ++
    (if aheadT (W.take (W.length - 4)) = Str.ofString "" then (if wordsOf (cast ((W.drop (W.length - 4)).reverse.flatMap (bitsL 8))) 1 (8 * (W.drop (W.length - 4)).length) = [] then [Str.ofString "0x0"] else []) else [Str.ofString "0x" ++ aheadT (W.take (W.length - 4)) ++ Str.ofString "00000000"]) := by
  rw [pf_up (num_lt2 h), words_last h h4, ahead_six h h4]
end Mine
end
section
open PySem PySem.W PyProof.Rows PySem.Calls PySem.Spec PyProof.V
namespace Mine
section
open PySem.Builtin
theorem rev_sliced (b : Array UInt8) : Bytes.sliced b ((b.size : Int) - 1) (-1) (-1) = b.toList.reverse.toArray := by
  unfold Bytes.sliced
  rw [krv_sliceRange, krv_range, List.filterMap_reverse, krv_all]
theorem meets_rev (b : Array UInt8) (t : Tok) (a : Addr) (u : Tok) :
    Meets («bytes.__getitem__» ⟨[.bytes b t, .ref a], []⟩) (fun _ R s => s.heap.IsSliceOf a .none .none (.int (-1) u) ∧ b.size ≤ sizeLine ∧ ∀ t' k, R (.ok (.ret (.bytes b.toList.reverse.toArray t'))) { s with toks := k }) := by
  refine .of_wp fun prog w A R s hS => ?_
  obtain ⟨⟨o, ho, hc, hd⟩, hsz, h⟩ := hS
  have hT : s.TypeIs (.ref a) "slice" := ⟨o, ho, hc⟩
  show wpAny _ _ (Bytes.payload (.bytes b t) >>= fun r => _) _ _ s
  refine wpAny_bind (wpAny_of_eq (a := b) rfl ?_)
  show wpAny _ _ (Bytes.subscript? (.ref a) >>= fun r => _) _ _ s
  refine wpAny_bind ?_
  unfold Bytes.subscript?
  refine wpAny_bind (wpAny_specialOf hT slice_no_index (wpAny_pure ?_))
  refine wpAny_bind (wpAny_typeOf hT ?_)
  show wpAny _ _ (Bytes.sliceParts (.ref a) >>= fun r => _) _ _ s
  refine wpAny_bind ?_
  unfold Bytes.sliceParts
  refine wpAny_bind (wpAny_field (x := .int (-1) u) ho hd rfl ?_)
  kby_int
  refine wpAny_ite (KBy.ite_no (by decide) ?_)
  refine wpAny_bind (wpAny_field (x := .none) ho hd rfl ?_)
  have go : wpAny (model prog w) A.in1 (sliceIndices (rawPart none) (rawPart none) (rawPart (some (-1))) b.size) (fun r s' => r = sliceBounds none none (some (-1)) b.size ∧ s' = s) (fun _ _ => False) s :=
    wpAny_of_eq (sliceIndices_raw none none (some (-1)) b.size (by decide)) ⟨rfl, rfl⟩
  kby_none
  refine wpAny_bind (wpAny_field (x := .none) ho hd rfl ?_)
  kby_none
  refine wpAny_pure ?_
  refine wpAny_bind (wpAny_mono go (fun r s' hr => ?_) fun _ _ e => e.elim)
  obtain ⟨hr1, hr2⟩ := hr
  subst hr1 hr2
  rw [krv_bounds]
  refine wpAny_ite (KBy.ite_no (by simp) ?_)
  dsimp only
  rw [rev_sliced]
  exact wpAny_bind (wpAny_mkBytes (wpAny_pure ⟨_, rfl, h _ _⟩) (by simpa using hsz))
end
section
variable {prog : Program} {w : World} {A : Around} {E : Value → Shared → Prop} {s : Shared} {value slice : PySem.Expr} {b : Array UInt8} {t : Tok} {h₀ : Heap} {L : Addr} {m : PySem.Str → Option Value} {news : List (Addr × Obj)} {vk : Value} {Q : Value → Shared → Prop}
theorem rev_bytes (hF : Fr h₀ L s.heap m) (hN : News h₀ L s.heap news) (pk : IsPart vk (some (-1))) (hz : b.size ≤ 10000)
    (h : ∀ h' t' k, Fr h₀ L h' m → News h₀ L h' news → Q (.bytes b.toList.reverse.toArray t') { s with heap := h', toks := k })
    (hs : subscripted slice false (.bytes b t) (.ref s.heap.objs.size) = operate [.ref s.heap.objs.size, .bytes b t] (getItem (.bytes b t) (.ref s.heap.objs.size)) := by with_unfolding_all rfl)
    (ht : ∀ r, letTemporaryGo value (.bytes b t) r = pure () := by intro _; with_unfolding_all rfl) :
    wpAny (model prog w) A (subscriptTail value slice (.bytes b t) (.ref s.heap.objs.size)) Q E { s with heap := s.heap.push { cls := .type "slice", data := .fields #[.none, .none, vk] } } := by
  cases pk
  exact tail_of_ItemOn ⟨"bytes", _, FB.slot_bytes_getitem.lookup, typeIs_bytes _ _ _, getItem_meets (typeIs_bytes _ _ _) (by decide) FB.slot_bytes_getitem FB.entry_bytes_getitem (FB.args_bytes_getitem_2 _ _) (meets_rev b t _ _)
    ⟨Heap.IsSliceOf.new _ _ _ _, by rw [sizeLine_eq]; omega, fun t' k => h _ _ _ (hF.push _) (News.pushKeep hN _)⟩⟩ hs ht
end
theorem bInts_cast {V : List Nat} (h : ∀ x ∈ V, x < 256) : KBw.bInts (byteArr (cast V)) = cast V := by
  unfold KBw.bInts
  have e := nats_byteArr h
  have : (byteArr (cast V)).toList.map (fun c => (c.toNat : Int)) = cast ((byteArr (cast V)).toList.map UInt8.toNat) := by unfold cast; rw [List.map_map]; rfl
  rw [this, e]
theorem bytes_of_ints {b : Array UInt8} {V : List Nat} (h : ∀ x ∈ V, x < 256) (e : KBw.bInts b = cast V) : b = byteArr (cast V) := by
  have e2 := bInts_cast h
  rw [← e2] at e
  unfold KBw.bInts at e
  apply Array.ext'
  have inj : ∀ a c : UInt8, ((a.toNat : Nat) : Int) = ((c.toNat : Nat) : Int) → a = c := fun a c hq => UInt8.toNat_inj.mp (by omega)
  generalize b.toList = l1 at e
  generalize (byteArr (cast V)).toList = l2 at e
  clear e2
  induction l1 generalizing l2 with
  | nil => cases l2 with
    | nil => rfl
    | cons c r => cases e
  | cons a r ih => cases l2 with
    | nil => cases e
    | cons c r2 =>
      rw [List.map_cons, List.map_cons] at e
      injection e with e1 e2
      rw [inj a c e1, ih _ e2]
theorem cut_four {W : List Nat} (h : ∀ x ∈ W, x < 256) (hk : KBw.bInts (KBy.picked (byteArr (cast W)) none (some (-4))) = ((cast W).drop ((none : Option Int).elim 0 (clipAt (cast W).length))).take ((some (-4 : Int)).elim (cast W).length (clipAt (cast W).length) - (none : Option Int).elim 0 (clipAt (cast W).length))) :
    KBy.picked (byteArr (cast W)) none (some (-4)) = byteArr (cast (W.take (W.length - 4))) := by
  refine bytes_of_ints (fun x hx => h x (List.mem_of_mem_take hx)) ?_
  rw [hk]
  simp only [Option.elim, List.drop_zero, Nat.sub_zero]
  rw [cast_take, cast_length]
  congr 2
  unfold clipAt
  omega
end Mine
end
section
open PySem PySem.W PyProof.Rows
namespace Mine
noncomputable abbrev LO : List Str := looseW Mine.hd.view_39 [Str.ofString "COMPILER_FLAG_NAMES", Str.ofString "b2a_base64", Str.ofString "_NO_SEP", Str.ofString "b2a_hex",
      Str.ofString "hexlify", Str.ofString "b64encode"]
/-- what a call of the def at f, made in the law's own frame, does -/
def Claim (w : World) (mean : ExcName → Option Value) (mg mb : Str → Option Value) (f : Addr) (news : List (Addr × Obj)) (vs : List Value) (Ret : Value → List (Addr × Obj) → Prop) : Prop :=
  ∀ (cn : Str) (cs : Scope) (a : Addr) (ccd : Value) (base h₀ : Heap) (L : Addr) (m : Str → Option Value) (s : Shared) (Q E : Value → Shared → Prop),
    Below callerA base [] h₀ → Fr h₀ L s.heap m → (Mine.hd.heap_39 w.params).In h₀ → News h₀ L s.heap news → Top Mine.hd.view_39 LO mean mg mb h₀ → cs.kind = .function →
    (∀ v tl h' tk', Ret v tl → (∀ p ∈ tl, ∀ q ∈ news, q.1 < p.1) → Fr h₀ L h' m → News h₀ L h' (tl ++ news) → Q v { s with heap := h', toks := tk' }) →
    wpAny (model PySem.Challenge.rw_oc0012_02.row.prog w) (callerA.deeper (envOf cn cs L a ccd)) (call (.ref f) vs) Q E s
theorem claim_ret {h₀ h' : Heap} {L : Addr} {m : Str → Option Value} {s : Shared} {Q : Value → Shared → Prop} {news all : List (Addr × Obj)} {Ret : Value → List (Addr × Obj) → Prop} {v : Value} {tk' : Nat}
    (hret : ∀ v tl h' tk', Ret v tl → (∀ p ∈ tl, ∀ q ∈ news, q.1 < p.1) → Fr h₀ L h' m → News h₀ L h' (tl ++ news) → Q v { s with heap := h', toks := tk' }) (F : Fr h₀ L h' m) (N : News h₀ L h' all)
    (tl : List (Addr × Obj)) (r : Ret v tl) (hlt : ∀ p ∈ tl, ∀ q ∈ news, q.1 < p.1) (hin : ∀ p ∈ tl ++ news, p ∈ all) : Q v { s with heap := h', toks := tk' } :=
  hret v tl h' tk' r hlt F fun p hp => N p (hin p hp)
end Mine
end
section
open PySem PySem.W PyProof.Rows
namespace Mine
local macro_rules | `(tactic| k_all) => `(tactic| assumption)
def PfJ (x : Int) (l' : Addr) (news : List (Addr × Obj)) (i : Nat) (m₁ : Str → Option Value) (news₁ : List (Addr × Obj)) : Prop :=
  ∃ (l : List (Str × Tok)) (k : Nat) (fl : Int) (tf : Tok) (u : Str → Option Value), news₁ = (l', listOf (strValues l).toArray k) :: news ∧
    m₁ = (fun y => if y = Str.ofString "names" then some (.ref l') else if y = Str.ofString "flags" then some (.int fl tf) else u y) ∧ PfInv x i fl (l.map (·.1))

theorem pf_call (w : World) (mean : ExcName → Option Value) (mg mb : Str → Option Value) (news : List (Addr × Obj)) (x : Int) (tx : Tok) :
    CbClaim PySem.Challenge.rw_oc0012_02.row.prog w (Mine.hd.heap_39 w.params) Mine.hd.view_39 LO mean mg mb 29 news [] (x.natAbs < 2^200) [.int x tx] (fun t => .str (pfText x) t) := by
  w_on
  k_fill
  dsimp only [CbClaim, CbLists, CbRet]; intros; rename_i hx _ _ hret
  refine wpAny_call ?_
  k_dflt cell_enter
  (repeat (focus first | (k_unfold; (try dsimp only)) | (k_end; wrow_close) | walk1 | (dsimp only; walk1) | (leave1; walk_say "STEP leave1"; try dsimp only)))
  refine wpAny_For ?_ (hs := by intro _; rfl)
  (first | ((focus first | (k_unfold; (try dsimp only)) | (k_end; wrow_close) | walk1 | (dsimp only; walk1) | (leave1; walk_say "STEP leave1"; try dsimp only)); (first | ((focus first | (k_unfold; (try dsimp only)) | (k_end; wrow_close) | walk1 | (dsimp only; walk1) | (leave1; walk_say "STEP leave1"; try dsimp only)); (first | ((focus first | (k_unfold; (try dsimp only)) | (k_end; wrow_close) | walk1 | (dsimp only; walk1) | (leave1; walk_say "STEP leave1"; try dsimp only)); (first | ((focus first | (k_unfold; (try dsimp only)) | (k_end; wrow_close) | walk1 | (dsimp only; walk1) | (leave1; walk_say "STEP leave1"; try dsimp only)); (first | ((focus first | (k_unfold; (try dsimp only)) | (k_end; wrow_close) | walk1 | (dsimp only; walk1) | (leave1; walk_say "STEP leave1"; try dsimp only)); (first | ((focus first | (k_unfold; (try dsimp only)) | (k_end; wrow_close) | walk1 | (dsimp only; walk1) | (leave1; walk_say "STEP leave1"; try dsimp only)); (first | ((focus first | (k_unfold; (try dsimp only)) | (k_end; wrow_close) | walk1 | (dsimp only; walk1) | (leave1; walk_say "STEP leave1"; try dsimp only)); (first | ((focus first | (k_unfold; (try dsimp only)) | (k_end; wrow_close) | walk1 | (dsimp only; walk1) | (leave1; walk_say "STEP leave1"; try dsimp only)); (first | ((focus first | (k_unfold; (try dsimp only)) | (k_end; wrow_close) | walk1 | (dsimp only; walk1) | (leave1; walk_say "STEP leave1"; try dsimp only)); (first | ((focus first | (k_unfold; (try dsimp only)) | (k_end; wrow_close) | walk1 | (dsimp only; walk1) | (leave1; walk_say "STEP leave1"; try dsimp only)); skip) | skip)) | skip)) | skip)) | skip)) | skip)) | skip)) | skip)) | skip)) | skip)) | skip)
  rename_i l' _ l1 _ _ _ _ _ _ _ _ hr F N _
  refine range_rule (n := 32) hr (by decide) (by decide) rfl rfl rfl F N (PfJ x l' news) ⟨[], 0, x, tx, _, rfl, up2 rfl rfl, pfInv_start x⟩ ?_ ?_
  · rintro i t m₁ news₁ h tk I oI hi ⟨l, k, fl, tf, u, rfl, rfl, inv⟩ hadr hI F₁ N₁
    clear hr F N hadr
    have hrest : ∀ p ∈ news ++ [(I, oI)], p.1 ≠ l' := fun p hp => by
      rcases List.mem_append.mp hp with hp | hp
      · exact Nat.ne_of_lt (l1 p hp)
      · rw [List.mem_singleton.mp hp]; exact Ne.symm (Nat.ne_of_lt (hI _ (List.mem_cons_self ..)))
    have hnews : ∀ p ∈ news, p ∈ news ++ [(I, oI)] := fun p hp => List.mem_append_left _ hp
    clear hI
    rw [List.cons_append] at N₁
    generalize hre : news ++ [(I, oI)] = rest at N₁ hrest hnews
    simp only [Int.zero_add, Int.mul_one] at F₁
    have hlen : l.length ≤ 1000 := by have := inv.2.2.1; rw [List.length_map] at this; omega
    (repeat (focus first | (k_unfold; (try dsimp only)) | (k_end; wrow_close) | walk1 | (dsimp only; walk1) | (leave1; walk_say "STEP leave1"; try dsimp only)))
    · rename Builtin.bitAnd _ _ ≠ 0 => hb
      simp only [Int.one_mul, Int.toNat_natCast] at hb
      refine P.hex_of_int ?_ (hsz := ?_)
      rotate_left
      · simp only [Int.one_mul, Int.toNat_natCast]
        have h1 := hexT_len (x := 2 ^ i) (by
          have : (2 : Nat) ^ i ≤ 2 ^ 32 := Nat.pow_le_pow_right (by decide) (by omega)
          rw [Int.natAbs_pow]
          exact Nat.lt_of_le_of_lt this (by decide))
        unfold hexT at h1
        rw [sizeLine_eq]; omega
      (repeat (focus first | (k_unfold; (try dsimp only)) | (k_end; wrow_close) | walk1 | (dsimp only; walk1) | (leave1; walk_say "STEP leave1"; try dsimp only)))
      rename KTD.Keyed _ _ _ => kyX
      refine get_word (z := wordP i) kyX (Fr.keep (by assumption)) ?_ ?_
      · simp only [Int.one_mul, Int.toNat_natCast]
        suffices h : ∀ j : Nat, j < 32 → strOf ((KTD.datumAt ((2 : Int) ^ j) _).getD (.str (baseText "0x" 16 (2 ^ j)))) = some (wordP j) from h i hi
        decide +kernel
      clear kyX
      intro tw
      (repeat (focus first | (k_unfold; (try dsimp only)) | (k_end; wrow_close) | walk1 | (dsimp only; walk1) | (leave1; walk_say "STEP leave1"; try dsimp only)))
      refine append_str (by assumption) (by assumption) hrest hlen ?_
      intro h₅ F₅ N₅
      dsimp only
      (repeat (focus first | (k_unfold; (try dsimp only)) | (k_end; wrow_close) | walk1 | (dsimp only; walk1) | (leave1; walk_say "STEP leave1"; try dsimp only)))
      · rename Fr _ _ _ _ => F₆
        rename News _ _ _ _ => N₆
        rename Builtin.bitXor _ _ ≠ 0 => hxo
        simp only [Int.one_mul, Int.toNat_natCast] at hxo
        refine TEnd.intro (hd := [_]) F₆ N₆ hre rfl ⟨_, _, _, _, _, rfl, up2 rfl rfl, ?_⟩
        simp only [Int.one_mul, Int.toNat_natCast, List.map_append, List.map_cons, List.map_nil]
        exact pfInv_yes hi inv hb hxo
      (repeat (focus first | (k_unfold; (try dsimp only)) | (k_end; wrow_close) | walk1 | (dsimp only; walk1) | (leave1; walk_say "STEP leave1"; try dsimp only)))
      rename Fr _ _ _ _ => F₆
      rename News _ _ _ _ => N₆
      rename Builtin.bitXor _ _ = 0 => hxo
      simp only [Int.one_mul, Int.toNat_natCast] at hxo
      refine SC.join (News.isList N₆ (.head _)) rfl (joinOk_words ?_ ?_) ?_
      · have := inv.2.2.1
        simp at this ⊢; omega
      · intro y hy
        rw [List.map_append] at hy
        rcases List.mem_append.mp hy with hy | hy
        · have := inv.2.2.2 y hy; omega
        · rw [List.map_cons, List.map_nil, List.mem_singleton] at hy
          have := wordP_len hi
          rw [hy]; show (wordP i).length ≤ 200; omega
      intro t₇ k₇
      (repeat (focus first | (k_unfold; (try dsimp only)) | (k_end; wrow_close) | walk1 | (dsimp only; walk1) | (leave1; walk_say "STEP leave1"; try dsimp only)))
      rename News _ _ _ _ => N₈
      refine cb_retS hret ?_ (by assumption) (fun p hp => N₈ p (List.mem_cons_of_mem _ (hnews p hp)))
      unfold pfText
      rw [pfInv_brk hi inv hb hxo, List.map_append]; rfl
    · rename Builtin.bitAnd _ _ = 0 => hb
      simp only [Int.one_mul, Int.toNat_natCast] at hb
      (repeat (focus first | (k_unfold; (try dsimp only)) | (k_end; wrow_close) | walk1 | (dsimp only; walk1) | (leave1; walk_say "STEP leave1"; try dsimp only)))
      rename Fr _ _ _ _ => F₆
      rename News _ _ _ _ => N₆
      exact TEnd.intro (hd := [_]) F₆ N₆ hre rfl ⟨_, _, _, _, _, rfl, up2 rfl rfl, pfInv_no hi inv hb⟩
  · rintro m₁ news₁ h tk ⟨l, k, fl, tf, u, rfl, rfl, inv⟩ hadr F₁ N₁
    clear hr F N
    have hrest : ∀ p ∈ news, p.1 ≠ l' := fun p hp => Nat.ne_of_lt (l1 p hp)
    have hlen : l.length ≤ 1000 := by have := inv.2.2.1; rw [List.length_map] at this; omega
    have hhex : (hexT fl).length ≤ 93 := hexT_len (pfInv_size (Nat.le_refl _) inv hx)
    (repeat (focus first | (k_unfold; (try dsimp only)) | (k_end; wrow_close) | walk1 | (dsimp only; walk1) | (leave1; walk_say "STEP leave1"; try dsimp only)))
    refine P.hex_of_int ?_ (hsz := ?_)
    rotate_left
    · unfold hexT at hhex
      rw [sizeLine_eq]; omega
    (repeat (focus first | (k_unfold; (try dsimp only)) | (k_end; wrow_close) | walk1 | (dsimp only; walk1) | (leave1; walk_say "STEP leave1"; try dsimp only)))
    refine append_str (by assumption) (by assumption) hrest hlen ?_
    intro h₅ F₅ N₅
    dsimp only
    (repeat (focus first | (k_unfold; (try dsimp only)) | (k_end; wrow_close) | walk1 | (dsimp only; walk1) | (leave1; walk_say "STEP leave1"; try dsimp only)))
    rename Fr _ _ _ _ => F₆
    rename News _ _ _ _ => N₆
    refine SC.join (News.isList N₆ (.head _)) rfl (joinOk_words ?_ ?_) ?_
    · have := inv.2.2.1
      simp at this ⊢; omega
    · intro y hy
      rw [List.map_append] at hy
      rcases List.mem_append.mp hy with hy | hy
      · have := inv.2.2.2 y hy; omega
      · rw [List.map_cons, List.map_nil, List.mem_singleton] at hy
        rw [hy]; unfold hexT at hhex; dsimp only; omega
    intro t₇ k₇
    (repeat (focus first | (k_unfold; (try dsimp only)) | (k_end; wrow_close) | walk1 | (dsimp only; walk1) | (leave1; walk_say "STEP leave1"; try dsimp only)))
    rename News _ _ _ _ => N₈
    refine cb_retS hret ?_ (by assumption) (fun p hp => N₈ p (List.mem_cons_of_mem _ hp))
    unfold pfText
    rw [pfInv_end inv, List.map_append]; rfl
end Mine
end
section
open PySem PySem.W PyProof.Rows
namespace Mine
theorem pf_claim (w : World) (mean : ExcName → Option Value) (mg mb : Str → Option Value) (news : List (Addr × Obj)) (x : Int) (tx : Tok) (hx : x.natAbs < 2 ^ 200) :
    Claim w mean mg mb 29 news [.int x tx] (fun v tl => tl = [] ∧ ∃ t, v = .str (pfText x) t) := by
  unfold Claim
  intro cn cs a ccd base h₀ L m s Q E B F X N T hk ret
  exact pf_call w mean mg mb news x tx _ _ _ cn cs a ccd _ _ callerA base h₀ L m s Q E B F X N T hk hx (by decide) (by decide) (fun t h' tk' F' N' => ret _ [] h' tk' ⟨rfl, t, rfl⟩ (by simp) F' N')
end Mine
end
section
open PySem PySem.W PyProof.Rows
namespace Mine
local macro_rules | `(tactic| k_all) => `(tactic| assumption)
local macro_rules | `(tactic| walk_at "call type:type") => `(tactic| (k_here; (with_reducible show wpAny _ _ (call (Value.type "type") [Value.bytes _ _]) _ _ _); refine PySem.call_type_of (typeIs_bytes _ _ _) (by decide +kernel) ?_))
local macro_rules | `(tactic| cell_enter) => `(tactic| (refine' code_def ?k1 ?k2 ?k3 ?k4 ?k5 ?kA ?kF ?kK ?k6 ?k7 ?k8 ?k9 ?kB ?_ ?c2 ?c3 ?c4 ?c5; (case kA => exact rfl); (case kF => exact rfl); (case kK => assumption); (case k1 => k_asm); (case k2 => k_asm); (case k3 => k_asm); (case k4 => k_asm); (case k5 => k_asm); (case k6 => k_is); (case k7 => k_is); (case k8 => k_room); (case k9 => first | exact BindsTo.of_eq rfl | exact binds_K (by k_in) rfl (by k_is) rfl rfl rfl); (case c5 => decide); (case kB => exact locs rfl); (case c2 => exact rfl); (case c3 => exact rfl); (case c4 => exact rfl); k_whole; intro g' L' h' FG' F' N' B' X' T'; (try dsimp only); (try k_lift B'); (try k_fold)))
def natsOf (b : Array UInt8) : List Nat := b.toList.map UInt8.toNat
def b64B (b : Array UInt8) : Array UInt8 := byteArr ((b64L (natsOf b)).map (fun x : Nat => (x : Int)))
def BJ (b : Array UInt8) (l' : Addr) (news : List (Addr × Obj)) (i : Nat) (m₁ : Str → Option Value) (news₁ : List (Addr × Obj)) : Prop :=
  ∃ (vs : List Value) (out : List Int) (k : Nat) (lb lc : Int) (t1 t2 : Tok) (u : Str → Option Value), news₁ = (l', listOf vs.toArray k) :: news ∧ IntsAre vs out ∧
    m₁ = (fun y => if y = Str.ofString "out" then some (.ref l') else if y = Str.ofString "leftbits" then some (.int lb t1) else if y = Str.ofString "leftchar" then some (.int lc t2) else if y = Str.ofString "newline" then some (.bool false) else u y) ∧
    BInv ((natsOf b).take i) out lb lc ∧ out.length ≤ 2 * i
theorem b64_call (w : World) (mean : ExcName → Option Value) (mg mb : Str → Option Value) (news : List (Addr × Obj)) (b : Array UInt8) (tb : Tok) (hb : b.size ≤ 64) (al : Array UInt8) (ta : Tok) (hal : al.size = 2) :
    Claim w mean mg mb 68 news [.bytes b tb, .bytes al ta] (fun v tl => tl = [] ∧ ∃ t, v = .bytes (trOut (b64B b) (mkTab #[43, 47] al)) t) := by
  w_on
  unfold Claim
  k_fill
  intro cn cs a ccd base h₀ L m s Q E hB hF hX hN hT hk hret
  have hal2 : ((al.size : Nat) : Int) = 2 := by omega
  refine wpAny_call ?_
  k_dflt cell_enter
  (repeat (focus first | (k_unfold; (try dsimp only)) | (k_end; wrow_close) | walk1 | (dsimp only; walk1) | (leave1; walk_say "STEP leave1"; try dsimp only)))
  rename_i F N
  rename Addr => l'
  rename (∀ p ∈ news, p.1 < l') => l1
  refine bytesV_rule rfl F N (BJ b l' news) ⟨[], [], 0, 0, 0, _, _, _, rfl, .nil, up4 rfl rfl rfl rfl, bInv_start, Nat.le_refl _⟩ ?_ ?_
  · rintro i c t m₁ news₁ h tk I oI hc ⟨vs, out, k, lb, lc, t1, t2, u, rfl, hi, rfl, inv, hlen⟩ hadr hI F₁ N₁
    clear F N hadr
    have hrest : ∀ p ∈ news ++ [(I, oI)], p.1 ≠ l' := fun p hp => by
      rcases List.mem_append.mp hp with hp | hp
      · exact Nat.ne_of_lt (l1 p hp)
      · rw [List.mem_singleton.mp hp]; exact Ne.symm (Nat.ne_of_lt (hI _ (List.mem_cons_self ..)))
    clear hI
    rw [List.cons_append] at N₁
    generalize hre : news ++ [(I, oI)] = rest at N₁ hrest
    dsimp only at F₁
    obtain ⟨hl0, hl1⟩ := bInv_lc inv
    have hc1 : c.toNat < 256 := c.toNat_lt
    have htake : (natsOf b).take (i + 1) = (natsOf b).take i ++ [c.toNat] := by
      rw [List.take_add_one]
      have : (natsOf b)[i]? = some c.toNat := by unfold natsOf; rw [List.getElem?_map, Array.getElem?_toList, hc]; rfl
      rw [this]; rfl
    have hi64 : i < 64 := by
      have := (Array.getElem?_eq_some_iff.mp hc).1
      omega
    rcases bInv_cases inv with ⟨h3, rfl⟩ | ⟨h3, rfl⟩ | ⟨h3, rfl⟩
    · (repeat (focus first | (k_unfold; (try dsimp only)) | (k_end; wrow_close) | walk1 | (dsimp only; walk1) | (leave1; walk_say "STEP leave1"; try dsimp only)))
      refine b64_item (by decide +kernel) (idx63 _).1 (idx63 _).2 ?_
      intro t' k'
      (repeat (focus first | (k_unfold; (try dsimp only)) | (k_end; wrow_close) | walk1 | (dsimp only; walk1) | (leave1; walk_say "STEP leave1"; try dsimp only)))
      refine append_int (by assumption) (by assumption) hi hrest (by omega) ?_
      intro h₅ vs₅ hi₅ F₅ N₅
      dsimp only
      (repeat (focus first | (k_unfold; (try dsimp only)) | (k_end; wrow_close) | walk1 | (dsimp only; walk1) | (leave1; walk_say "STEP leave1"; try dsimp only)))
      dsimp only
      rename Fr _ _ _ _ => F₆
      rename News _ _ _ _ => N₆
      refine TEnd.intro (hd := [_]) F₆ N₆ hre rfl ⟨_, _, _, _, _, _, _, _, rfl, hi₅, up4 rfl rfl rfl rfl, ?_, ?_⟩
      · rw [htake, idx_eq, lc_eq hc1]
        exact bInv_0 inv h3 hc1
      · simp; omega
    · (repeat (focus first | (k_unfold; (try dsimp only)) | (k_end; wrow_close) | walk1 | (dsimp only; walk1) | (leave1; walk_say "STEP leave1"; try dsimp only)))
      refine b64_item (by decide +kernel) (idx63 _).1 (idx63 _).2 ?_
      intro t' k'
      (repeat (focus first | (k_unfold; (try dsimp only)) | (k_end; wrow_close) | walk1 | (dsimp only; walk1) | (leave1; walk_say "STEP leave1"; try dsimp only)))
      refine append_int (by assumption) (by assumption) hi hrest (by omega) ?_
      intro h₅ vs₅ hi₅ F₅ N₅
      dsimp only
      (repeat (focus first | (k_unfold; (try dsimp only)) | (k_end; wrow_close) | walk1 | (dsimp only; walk1) | (leave1; walk_say "STEP leave1"; try dsimp only)))
      dsimp only
      rename Fr _ _ _ _ => F₆
      rename News _ _ _ _ => N₆
      refine TEnd.intro (hd := [_]) F₆ N₆ hre rfl ⟨_, _, _, _, _, _, _, _, rfl, hi₅, up4 rfl rfl rfl rfl, ?_, ?_⟩
      · rw [htake, idx_eq, lc_eq hc1]
        exact bInv_2 inv h3 hc1
      · simp; omega
    · (repeat (focus first | (k_unfold; (try dsimp only)) | (k_end; wrow_close) | walk1 | (dsimp only; walk1) | (leave1; walk_say "STEP leave1"; try dsimp only)))
      refine b64_item (by decide +kernel) (idx63 _).1 (idx63 _).2 ?_
      intro t' k'
      (repeat (focus first | (k_unfold; (try dsimp only)) | (k_end; wrow_close) | walk1 | (dsimp only; walk1) | (leave1; walk_say "STEP leave1"; try dsimp only)))
      refine append_int (by assumption) (by assumption) hi hrest (by omega) ?_
      intro h₅ vs₅ hi₅ F₅ N₅
      dsimp only
      (repeat (focus first | (k_unfold; (try dsimp only)) | (k_end; wrow_close) | walk1 | (dsimp only; walk1) | (leave1; walk_say "STEP leave1"; try dsimp only)))
      refine b64_item (by decide +kernel) (idx63 _).1 (idx63 _).2 ?_
      intro t'' k''
      (repeat (focus first | (k_unfold; (try dsimp only)) | (k_end; wrow_close) | walk1 | (dsimp only; walk1) | (leave1; walk_say "STEP leave1"; try dsimp only)))
      refine append_int (by assumption) (by assumption) hi₅ hrest (by simp; omega) ?_
      intro h₇ vs₇ hi₇ F₇ N₇
      dsimp only
      (repeat (focus first | (k_unfold; (try dsimp only)) | (k_end; wrow_close) | walk1 | (dsimp only; walk1) | (leave1; walk_say "STEP leave1"; try dsimp only)))
      dsimp only
      rename Fr _ _ _ _ => F₆
      rename News _ _ _ _ => N₆
      refine TEnd.intro (hd := [_]) F₆ N₆ hre rfl ⟨_, _, _, _, _, _, _, _, rfl, hi₇, up4 rfl rfl rfl rfl, ?_, ?_⟩
      · rw [htake, idx_eq, idx_eq, lc_eq hc1]
        have := bInv_4 inv h3 hc1
        simpa using this
      · simp; omega
  · rintro m₁ news₁ h tk ⟨vs, out, k, lb, lc, t1, t2, u, rfl, hi, rfl, inv, hlen⟩ hadr F₁ N₁
    clear F N hadr
    have hrest : ∀ p ∈ news, p.1 ≠ l' := fun p hp => Nat.ne_of_lt (l1 p hp)
    obtain ⟨hl0, hl1⟩ := bInv_lc inv
    have htake : (natsOf b).take b.size = natsOf b := List.take_of_length_le (by unfold natsOf; simp)
    rw [htake] at inv
    have hsz : (natsOf b).length ≤ 64 := by unfold natsOf; simpa using hb
    have hout : (b64L (natsOf b)).length ≤ 200 := by rw [b64L_length]; unfold shortOf; omega
    obtain ⟨q1, q2⟩ := bitAnd_range lc (y := 3) (by decide)
    obtain ⟨q3, q4⟩ := bitAnd_range lc (y := 15) (by decide)
    rcases bInv_cases inv with ⟨h3, rfl⟩ | ⟨h3, rfl⟩ | ⟨h3, rfl⟩
    · have hfin := bInv_end0 inv h3
      (repeat (focus first | (k_unfold; (try dsimp only)) | (k_end; wrow_close) | walk1 | (dsimp only; walk1) | (leave1; walk_say "STEP leave1"; try dsimp only)))
      refine KBa.make_K (by assumption) (by assumption) rfl (News.isList (by assumption) (.head _)) (hfin ▸ hi) (b64L_in _) (by rw [List.length_map]; omega) ?_
      intro h₅ t₅ k₅ F₅ N₅ _
      (repeat (focus first | (k_unfold; (try dsimp only)) | (k_end; wrow_close) | walk1 | (dsimp only; walk1) | (leave1; walk_say "STEP leave1"; try dsimp only)))
      rotate_left
      · rename (((al.size : Nat) : Int) ≠ 2) => hne
        exact absurd hal2 hne
      refine trans_method ?_
      (repeat (focus first | (k_unfold; (try dsimp only)) | (k_end; wrow_close) | walk1 | (dsimp only; walk1) | (leave1; walk_say "STEP leave1"; try dsimp only)))
      refine mk_method ?_
      (repeat (focus first | (k_unfold; (try dsimp only)) | (k_end; wrow_close) | walk1 | (dsimp only; walk1) | (leave1; walk_say "STEP leave1"; try dsimp only)))
      refine mk_call (by rw [hal]; rfl) ?_
      intro t₆
      (repeat (focus first | (k_unfold; (try dsimp only)) | (k_end; wrow_close) | walk1 | (dsimp only; walk1) | (leave1; walk_say "STEP leave1"; try dsimp only)))
      refine trans_call (mkTab_size _ _) (by unfold byteArr; simp; omega) ?_
      intro t₇ k₇
      (repeat (focus first | (k_unfold; (try dsimp only)) | (k_end; wrow_close) | walk1 | (dsimp only; walk1) | (leave1; walk_say "STEP leave1"; try dsimp only)))
      exact claim_ret hret (by assumption) (by assumption) [] ⟨rfl, _, rfl⟩ (fun p hp => nomatch hp) (fun p hp => List.mem_cons_of_mem _ hp)
    · have hfin := bInv_end2 inv h3
      have hlo : out.length ≤ 200 := by
        have := congrArg List.length hfin
        simp at this; omega
      (repeat (focus first | (k_unfold; (try dsimp only)) | (k_end; wrow_close) | walk1 | (dsimp only; walk1) | (leave1; walk_say "STEP leave1"; try dsimp only)))
      have eix : Builtin.bitAnd lc 3 * 2 ^ (4 : Int).toNat = lc % 4 * 16 := by rw [bitAnd_m2]; rfl
      refine b64_item ?hbk ?hb0 ?hb1 ?_
      case hbk => decide +kernel
      case hb0 => rw [eix]; omega
      case hb1 => rw [eix]; omega
      rw [eix]
      intro t' k'
      (repeat (focus first | (k_unfold; (try dsimp only)) | (k_end; wrow_close) | walk1 | (dsimp only; walk1) | (leave1; walk_say "STEP leave1"; try dsimp only)))
      refine append_int (by assumption) (by assumption) hi hrest (by omega) ?_
      intro hA vsA hiA FA NA
      dsimp only
      (repeat (focus first | (k_unfold; (try dsimp only)) | (k_end; wrow_close) | walk1 | (dsimp only; walk1) | (leave1; walk_say "STEP leave1"; try dsimp only)))
      refine append_int (by assumption) (by assumption) hiA hrest (by simp; omega) ?_
      intro hB vsB hiB FB NB
      dsimp only
      (repeat (focus first | (k_unfold; (try dsimp only)) | (k_end; wrow_close) | walk1 | (dsimp only; walk1) | (leave1; walk_say "STEP leave1"; try dsimp only)))
      refine append_int (by assumption) (by assumption) hiB hrest (by simp; omega) ?_
      intro hC vsC hiC FC NC
      dsimp only
      (repeat (focus first | (k_unfold; (try dsimp only)) | (k_end; wrow_close) | walk1 | (dsimp only; walk1) | (leave1; walk_say "STEP leave1"; try dsimp only)))
      refine KBa.make_K (by assumption) (by assumption) rfl (News.isList (by assumption) (.head _)) (hfin ▸ hiC) (b64L_in _) (by rw [List.length_map]; omega) ?_
      intro h₅ t₅ k₅ F₅ N₅ _
      (repeat (focus first | (k_unfold; (try dsimp only)) | (k_end; wrow_close) | walk1 | (dsimp only; walk1) | (leave1; walk_say "STEP leave1"; try dsimp only)))
      rotate_left
      · rename (((al.size : Nat) : Int) ≠ 2) => hne
        exact absurd hal2 hne
      refine trans_method ?_
      (repeat (focus first | (k_unfold; (try dsimp only)) | (k_end; wrow_close) | walk1 | (dsimp only; walk1) | (leave1; walk_say "STEP leave1"; try dsimp only)))
      refine mk_method ?_
      (repeat (focus first | (k_unfold; (try dsimp only)) | (k_end; wrow_close) | walk1 | (dsimp only; walk1) | (leave1; walk_say "STEP leave1"; try dsimp only)))
      refine mk_call (by rw [hal]; rfl) ?_
      intro t₆
      (repeat (focus first | (k_unfold; (try dsimp only)) | (k_end; wrow_close) | walk1 | (dsimp only; walk1) | (leave1; walk_say "STEP leave1"; try dsimp only)))
      refine trans_call (mkTab_size _ _) (by unfold byteArr; simp; omega) ?_
      intro t₇ k₇
      (repeat (focus first | (k_unfold; (try dsimp only)) | (k_end; wrow_close) | walk1 | (dsimp only; walk1) | (leave1; walk_say "STEP leave1"; try dsimp only)))
      exact claim_ret hret (by assumption) (by assumption) [] ⟨rfl, _, rfl⟩ (fun p hp => nomatch hp) (fun p hp => List.mem_cons_of_mem _ hp)
    · have hfin := bInv_end4 inv h3
      have hlo : out.length ≤ 200 := by
        have := congrArg List.length hfin
        simp at this; omega
      (repeat (focus first | (k_unfold; (try dsimp only)) | (k_end; wrow_close) | walk1 | (dsimp only; walk1) | (leave1; walk_say "STEP leave1"; try dsimp only)))
      have eix : Builtin.bitAnd lc 15 * 2 ^ (2 : Int).toNat = lc % 16 * 4 := by rw [bitAnd_m4]; rfl
      refine b64_item ?hbk ?hb0 ?hb1 ?_
      case hbk => decide +kernel
      case hb0 => rw [eix]; omega
      case hb1 => rw [eix]; omega
      rw [eix]
      intro t' k'
      (repeat (focus first | (k_unfold; (try dsimp only)) | (k_end; wrow_close) | walk1 | (dsimp only; walk1) | (leave1; walk_say "STEP leave1"; try dsimp only)))
      refine append_int (by assumption) (by assumption) hi hrest (by omega) ?_
      intro hA vsA hiA FA NA
      dsimp only
      (repeat (focus first | (k_unfold; (try dsimp only)) | (k_end; wrow_close) | walk1 | (dsimp only; walk1) | (leave1; walk_say "STEP leave1"; try dsimp only)))
      refine append_int (by assumption) (by assumption) hiA hrest (by simp; omega) ?_
      intro hB vsB hiB FB NB
      dsimp only
      (repeat (focus first | (k_unfold; (try dsimp only)) | (k_end; wrow_close) | walk1 | (dsimp only; walk1) | (leave1; walk_say "STEP leave1"; try dsimp only)))
      refine KBa.make_K (by assumption) (by assumption) rfl (News.isList (by assumption) (.head _)) (hfin ▸ hiB) (b64L_in _) (by rw [List.length_map]; omega) ?_
      intro h₅ t₅ k₅ F₅ N₅ _
      (repeat (focus first | (k_unfold; (try dsimp only)) | (k_end; wrow_close) | walk1 | (dsimp only; walk1) | (leave1; walk_say "STEP leave1"; try dsimp only)))
      rotate_left
      · rename (((al.size : Nat) : Int) ≠ 2) => hne
        exact absurd hal2 hne
      refine trans_method ?_
      (repeat (focus first | (k_unfold; (try dsimp only)) | (k_end; wrow_close) | walk1 | (dsimp only; walk1) | (leave1; walk_say "STEP leave1"; try dsimp only)))
      refine mk_method ?_
      (repeat (focus first | (k_unfold; (try dsimp only)) | (k_end; wrow_close) | walk1 | (dsimp only; walk1) | (leave1; walk_say "STEP leave1"; try dsimp only)))
      refine mk_call (by rw [hal]; rfl) ?_
      intro t₆
      (repeat (focus first | (k_unfold; (try dsimp only)) | (k_end; wrow_close) | walk1 | (dsimp only; walk1) | (leave1; walk_say "STEP leave1"; try dsimp only)))
      refine trans_call (mkTab_size _ _) (by unfold byteArr; simp; omega) ?_
      intro t₇ k₇
      (repeat (focus first | (k_unfold; (try dsimp only)) | (k_end; wrow_close) | walk1 | (dsimp only; walk1) | (leave1; walk_say "STEP leave1"; try dsimp only)))
      exact claim_ret hret (by assumption) (by assumption) [] ⟨rfl, _, rfl⟩ (fun p hp => nomatch hp) (fun p hp => List.mem_cons_of_mem _ hp)
end Mine
end
section
open PySem PySem.W PyProof.Rows
namespace Mine
local macro_rules | `(tactic| k_all) => `(tactic| assumption)
local macro_rules | `(tactic| walk_at "call type:type") => `(tactic| (k_here; (with_reducible show wpAny _ _ (call (Value.type "type") [Value.bytes _ _]) _ _ _); refine PySem.call_type_of (typeIs_bytes _ _ _) (by decide +kernel) ?_))
local macro_rules | `(tactic| cell_enter) => `(tactic| (refine' code_def ?k1 ?k2 ?k3 ?k4 ?k5 ?kA ?kF ?kK ?k6 ?k7 ?k8 ?k9 ?kB ?_ ?c2 ?c3 ?c4 ?c5; (case kA => exact rfl); (case kF => exact rfl); (case kK => assumption); (case k1 => k_asm); (case k2 => k_asm); (case k3 => k_asm); (case k4 => k_asm); (case k5 => k_asm); (case k6 => k_is); (case k7 => k_is); (case k8 => k_room); (case k9 => first | exact BindsTo.of_eq rfl | exact binds_K (by k_in) rfl (by k_is) rfl rfl rfl); (case c5 => decide); (case kB => exact locs rfl); (case c2 => exact rfl); (case c3 => exact rfl); (case c4 => exact rfl); k_whole; intro g' L' h' FG' F' N' B' X' T'; (try dsimp only); (try k_lift B'); (try k_fold)))

theorem b16_call (w : World) (mean : ExcName → Option Value) (mg mb : Str → Option Value) (news : List (Addr × Obj)) (b : Array UInt8) (tb : Tok) (hb : b.size ≤ 1000) :
    Claim w mean mg mb 75 news [.bytes b tb] (fun v tl => tl = [] ∧ ∃ t, v = .bytes (byteArr ((b16L (b.toList.map UInt8.toNat)).map (fun x : Nat => (x : Int)))) t) := by
  w_on
  unfold Claim
  k_fill
  intro cn cs a ccd base h₀ L m s Q E hB hF hX hN hT hk hret
  refine wpAny_call ?_
  k_dflt cell_enter
  (repeat (focus first | (k_unfold; (try dsimp only)) | (k_end; wrow_close) | walk1 | (dsimp only; walk1) | (leave1; walk_say "STEP leave1"; try dsimp only)))
  refine hex_method ?_
  (repeat (focus first | (k_unfold; (try dsimp only)) | (k_end; wrow_close) | walk1 | (dsimp only; walk1) | (leave1; walk_say "STEP leave1"; try dsimp only)))
  refine hex_call hb ?_
  intro t₁
  (repeat (focus first | (k_unfold; (try dsimp only)) | (k_end; wrow_close) | walk1 | (dsimp only; walk1) | (leave1; walk_say "STEP leave1"; try dsimp only)))
  refine enc_method ?_
  (repeat (focus first | (k_unfold; (try dsimp only)) | (k_end; wrow_close) | walk1 | (dsimp only; walk1) | (leave1; walk_say "STEP leave1"; try dsimp only)))
  refine enc_call (x := ⟨hexCps b⟩) (hexCps_lt b) (by show (hexCps b).size ≤ 10000; rw [hexCps_size]; omega) ?_
  intro t₂
  (repeat (focus first | (k_unfold; (try dsimp only)) | (k_end; wrow_close) | walk1 | (dsimp only; walk1) | (leave1; walk_say "STEP leave1"; try dsimp only)))
  refine upper_method ?_
  (repeat (focus first | (k_unfold; (try dsimp only)) | (k_end; wrow_close) | walk1 | (dsimp only; walk1) | (leave1; walk_say "STEP leave1"; try dsimp only)))
  refine upper_call (by show ((hexCps b).map _).size ≤ 10000; rw [Array.size_map, hexCps_size]; omega) ?_
  intro t₃
  rw [b16_bytes]
  (repeat (focus first | (k_unfold; (try dsimp only)) | (k_end; wrow_close) | walk1 | (dsimp only; walk1) | (leave1; walk_say "STEP leave1"; try dsimp only)))
  exact claim_ret hret (by assumption) (by assumption) [] ⟨rfl, _, rfl⟩ (fun p hp => nomatch hp) (fun p hp => hp)
end Mine
end
section
open PySem PySem.W PyProof.Rows
namespace Mine
local macro_rules | `(tactic| k_all) => `(tactic| assumption)
local macro_rules | `(tactic| walk_at "subscriptTail Name Slice ref ref") => `(tactic| (k_here; (with_reducible show wpAny _ _ (subscriptTail _ (PySem.Expr.Slice none none (some _) _) (Value.ref _) (Value.ref _)) _ _ _); refine stop_intro ?_))
local macro_rules | `(tactic| walk_at "eval ListComp") => `(tactic| (k_here; (with_reducible show wpAny _ _ (eval (Expr.ListComp _ _ _ _) _) _ _ _); refine stop_intro ?_))
local macro_rules | `(tactic| cell_enter) => `(tactic| (refine' code_defC ?k1 ?k2 ?k3 ?k4 ?k5 ?kA ?kF ?kK ?k6 ?k7 ?k8 ?k9 ?kB ?kD ?_ ?c2 ?c3 ?c4; (case kA => exact rfl); (case kF => exact rfl); (case kK => assumption); (case k1 => k_asm); (case k2 => k_asm); (case k3 => k_asm); (case k4 => k_asm); (case k5 => k_asm); (case k6 => k_is); (case k7 => k_is); (case k8 => k_room); (case k9 => first | exact BindsTo.of_eq rfl | exact binds_K (by k_in) rfl (by k_is) rfl rfl rfl); (case kB => exact rfl); (case kD => decide +kernel); (case c2 => exact rfl); (case c3 => exact rfl); (case c4 => exact rfl); k_whole; intro g' L' h' tk' cells' FG' F' N' Y' B' X' T' l1; (try k_lt l1); k_cells Y'; (try simp only [List.cons_append, List.nil_append] at N'); (try dsimp only); (try k_lift B'); (try k_fold)))
local macro_rules | `(tactic| cell_enter) => `(tactic| (refine' code_def ?k1 ?k2 ?k3 ?k4 ?k5 ?kA ?kF ?kK ?k6 ?k7 ?k8 ?k9 ?kB ?_ ?c2 ?c3 ?c4 ?c5; (case kA => exact rfl); (case kF => exact rfl); (case kK => assumption); (case k1 => k_asm); (case k2 => k_asm); (case k3 => k_asm); (case k4 => k_asm); (case k5 => k_asm); (case k6 => k_is); (case k7 => k_is); (case k8 => k_room); (case k9 => first | exact BindsTo.of_eq rfl | exact binds_K (by k_in) rfl (by k_is) rfl rfl rfl); (case c5 => decide); (case kB => exact locs rfl); (case c2 => exact rfl); (case c3 => exact rfl); (case c4 => exact rfl); k_whole; intro g' L' h' FG' F' N' B' X' T'; (try dsimp only); (try k_lift B'); (try k_fold)))
local macro_rules | `(tactic| walk_at "exec Assign cons ListComp") => `(tactic| (k_here; (with_reducible show wpAny _ _ (exec (Stmt.Assign _ (PySem.Expr.ListComp _ _ _ _) _) _) _ _ _); refine stop_intro ?_))
local macro_rules | `(tactic| walk_at "call type:enumerate cons nil") => `(tactic| (k_here; refine stop_intro ?_))
local macro_rules | `(tactic| walk_at "call type:enumerate") => `(tactic| (k_here; refine stop_intro ?_))
local macro_rules | `(tactic| walk_at "binaryOp Add ref ref") => `(tactic| (k_here; refine stop_intro ?_))
local macro_rules | `(tactic| walk_at "call builtin:len") => `(tactic| (k_here; refine len_list (News.isList (by k_asm) (by k_mem)) (by (simp only [List.size_toArray]; omega)) ?_; (try simp only [List.size_toArray])))
local macro_rules | `(tactic| walk_at "binaryOp Pow int int") => `(tactic| (k_here; with_reducible refine pow_nat (by decide) (by omega) ?_))
local macro_rules | `(tactic| walk_at "binaryOp Mult int int") => `(tactic| (k_here; refine stop_intro ?_))
local macro_rules | `(tactic| walk_at "binaryOp FloorDiv int int") => `(tactic| (k_here; with_reducible refine fdiv_pow (by decide) (by decide) (by omega) ?_))
local macro_rules | `(tactic| walk_at "binaryOp Mod int int") => `(tactic| (k_here; with_reducible refine mod_pos (by decide) ?_))
local macro_rules | `(tactic| walk_at "subscriptTail Name BinOp ref int") => `(tactic| (k_here; refine stop_intro ?_))
local macro_rules | `(tactic| walk_at "subscriptTail") => `(tactic| (k_here; (with_reducible show wpAny _ _ (subscriptTail _ (PySem.Expr.BinOp _ _ _ _) (Value.ref _) (Value.int _ _)) _ _ _); refine stop_intro ?_))
section
open LCg
variable {prog : Program} {w : World} {A : Around} {E : Value → Shared → Prop} {s : Shared} {h₀ : Heap} {L : Addr} {m : Str → Option Value} {env : Env}
theorem srcW_str {elt : PySem.Expr} {x : Str} {scope : Scope} {cl : List (Str × Addr)} {Fin : Shared → List Value → List (Addr × Obj) → Prop} {b : Str} {tb : Tok} {news : List (Addr × Obj)}
    (hh : A.handled = none) (F : Fr h₀ L s.heap m) (N : News h₀ L s.heap news) (ha : b.cps.all (· < 128) = true) (hsz : b.cps.size ≤ sizeLine)
    (h : ∀ g, CompRest prog w A h₀ L m env elt x scope cl { s with heap := g } (fun _ => True) (fun i v => ∃ c u, b.cps[i]? = some c ∧ v = .str ⟨#[c]⟩ u) (Fin { s with heap := g }) b.cps.size 0 [] news) :
    wpAny (model prog w) A (pyIter (.str b tb)) (SrcW prog w A h₀ L m env elt x scope cl Fin) E s := by
  refine wpAny_pyIter_ascii ha ?_
  refine ⟨s.heap.objs.size, b.cps.size, _, _, news, rfl, Walks.strAscii hh s.heap.objs.size b tb, hsz, (fun i h st => let ⟨o, ho, _⟩ := st; ⟨o, ho⟩), ?_, ⟨_, Heap.get?_push_size _ rfl, rfl, rfl⟩, ?_, F.push _, (N.grown fun _ _ e => Heap.get?_push_of_some _ e), Nat.ne_of_lt F.ns.lt, next_is_new F, (fun p hp => Nat.ne_of_lt (Heap.lt_size (N p hp).1)), h _⟩
  · rintro i h h' o ⟨o', ho', r⟩ e e'
    rw [e] at ho'; cases ho'
    exact ⟨o, e', r⟩
  · show s.heap.objs.size < (s.heap.push _).objs.size
    rw [Heap.size_push]; exact Nat.lt_succ_self _
end
def LET : Str := Str.ofString "ABCDEFGHIJKLMNOPQRSTUVWXYZabcdefghijklmnopqrstuvwxyz0123456789"
theorem let_size : LET.cps.size = 62 := by decide +kernel
theorem let_list : LET.cps.toList = B64A.take 62 := by decide +kernel
theorem down_small {n : Nat} (h : n ≤ 16) : Builtin.Range.small ((n : Int) - 1) (-1) (-1) = true ∧ Builtin.Range.rangeSize ((n : Int) - 1) (-1) (-1) = ((n : Nat) : Int) := by
  have : ∀ n : Fin 17, Builtin.Range.small ((n.val : Int) - 1) (-1) (-1) = true ∧ Builtin.Range.rangeSize ((n.val : Int) - 1) (-1) (-1) = ((n.val : Nat) : Int) := by decide +kernel
  exact this ⟨n, by omega⟩
theorem idx_cast (N s kk : Nat) : ((N : Nat) : Int) * 4 ^ s / 64 ^ kk % 64 = ((N * 4 ^ s / 64 ^ kk % 64 : Nat) : Int) := by push_cast; rfl
theorem sext_get : ∀ (k n j : Nat), j < k → (sext k n)[j]? = some (n / 64 ^ (k - 1 - j) % 64)
  | 0, _, _, h => by omega
  | k + 1, n, j, h => by
    rw [sext]
    by_cases hj : j < k
    · rw [List.getElem?_append_left (by rw [sext_length]; exact hj), sext_get k (n / 64) j hj, Nat.div_div_eq_div_mul, show k + 1 - 1 - j = (k - 1 - j) + 1 by omega, Nat.pow_succ, Nat.mul_comm]
    · have e : j = k := by omega
      subst e
      rw [List.getElem?_append_right (by rw [sext_length]; exact Nat.le_refl _), sext_length]
      simp
theorem idx_all {os : List Nat} {cnt j kk : Nat} (hcd : cnt = (4 * os.length + shortOf os.length) / 3) (hj : j < cnt) (hkk : kk = cnt - 1 - j) :
    ∃ xN : Nat, ((num os : Nat) : Int) * 4 ^ shortOf os.length / 64 ^ kk % 64 = ((xN : Nat) : Int) ∧ xN < 64 ∧ (sx os)[j]? = some xN := by
  refine ⟨num os * 4 ^ shortOf os.length / 64 ^ kk % 64, idx_cast _ _ _, Nat.mod_lt _ (by decide), ?_⟩
  unfold sx
  rw [← hcd, sext_get _ _ _ hj, hkk]
theorem alph_get {a0 a1 x : Nat} (h : x < 64) : (cast (B64A.take 62 ++ [a0, a1]))[x]? = some ((sgn a0 a1 x : Nat) : Int) := by
  have hl : (B64A.take 62 ++ [a0, a1]).length = 64 := by rw [List.length_append, show (B64A.take 62).length = 62 by decide +kernel]; rfl
  unfold cast sgn
  rw [List.getElem?_map, List.getD_eq_getElem?_getD, List.getElem?_eq_getElem (by omega)]
  rfl
theorem signs_call (w : World) (mean : ExcName → Option Value) (mg mb : Str → Option Value) (news : List (Addr × Obj)) (os : List Nat) (hos : ∀ x ∈ os, x < 256) (hl : os.length ≤ 12) (a0 a1 : Nat) (h0 : a0 < 256) (h1 : a1 < 256) (lo la : Addr) (its ita : List Value) (kl ka : Nat)
    (hmo : (lo, listOf its.toArray kl) ∈ news) (hma : (la, listOf ita.toArray ka) ∈ news) (hits : IntsAre its (cast os)) (hita : IntsAre ita (cast [a0, a1])) :
    Claim w mean mg mb 80 news [.ref lo, .ref la]
      (fun v tl => ∃ l vs k, v = .ref l ∧ tl = [(l, listOf vs.toArray k)] ∧ IntsAre vs (cast (wr os a0 a1))) := by
  w_on
  unfold Claim
  k_fill
  intro cn cs a ccd base h₀ L m s Q E hB hF hX hN hTo hk hret
  have hlc : (cast os).length ≤ 12 := by rw [cast_length]; exact hl
  have hlv : its.length ≤ 12 := by rw [hits.length]; exact hlc
  refine wpAny_call ?_
  w_strict (k_dflt cell_enter)
  (repeat (focus first | (k_unfold; (try dsimp only)) | (k_end; wrow_close) | walk1 | (dsimp only; walk1) | (leave1; walk_say "STEP leave1"; try dsimp only)))
  rename (∀ p ∈ news, p.1 < _) => lc
  rename Fr _ _ _ _ => F₁
  rename News _ _ _ _ => N₁
  rename_i g' L' _ _ FG BG XG TG oN oA dN dA _
  show wpAny _ _ _ _ _ _
  w_strict (k_dflt (refine ListComp_W (by k_asm) (by with_unfolding_all rfl) (by decide) (by rfl) (by decide) (by rfl) ?_))
  (repeat (focus first | (k_unfold; (try dsimp only)) | (k_end; wrow_close) | walk1 | (dsimp only; walk1) | (leave1; walk_say "STEP leave1"; try dsimp only)))
  refine srcW_str rfl F₁ N₁ (by decide +kernel) (by rw [sizeLine_eq]; decide +kernel) ?_
  intro g
  refine rest_gen (fun j y => ∃ t, y = .int ((cast (B64A.take 62)).getD j 0) t) ?_ ?_
  · rintro j v I₂ oI₂ C oC D₂ m₂ ys₂ h₂ tk₂ E' hj ⟨c, t₂, hc, rfl⟩ hC hxv F₂ N₂ off ne
    (repeat (focus first | (k_unfold; (try dsimp only)) | (k_end; wrow_close) | walk1 | (dsimp only; walk1) | (leave1; walk_say "STEP leave1"; try dsimp only)))
    have hv : ((c : Nat) : Int) = (cast (B64A.take 62)).getD j 0 := by
      have e : LET.cps.toList[j]? = some c := by rw [Array.getElem?_toList]; exact hc
      rw [let_list] at e
      unfold cast
      rw [List.getD_eq_getElem?_getD, List.getElem?_map, e]; rfl
    exact LCg.CompEnd.intro F₂ N₂ _ (fun p hp => hp) off trivial ⟨rfl, _, congrArg (fun z => Value.int z _) hv⟩
  intro ss hsl hsg D₁ h₁₀ tk₁₀ F₁₀ N₁₀ off₁₀
  have hss : IntsAre ss (cast (B64A.take 62)) := ints_of_all (by rw [hsl, cast_length]; decide +kernel) hsg
  clear hsg
  (repeat (focus first | (k_unfold; (try dsimp only)) | (k_end; wrow_close) | walk1 | (dsimp only; walk1) | (leave1; walk_say "STEP leave1"; try dsimp only)))
  show wpAny _ _ _ _ _ _
  refine kmk_add_ints F₁₀ N₁₀ (News.isList N₁₀ (.head _)) (News.isList N₁₀ (.tail _ (.tail _ (.tail _ hma)))) hss hita ?_ (by rw [cast_length, cast_length, show (B64A.take 62).length = 62 by decide +kernel, sizeLine_eq]; simp)
  intro Da va h₁₁ F₁₁ N₁₁ lDa hva
  rw [← cast_append] at hva
  have hmo2 : (lo, listOf its.toArray kl) ∈ news := hmo
  clear F₁ N₁
  have hc1 : ∀ p ∈ news, p.1 ≠ L' + 1 := fun p hp => Nat.ne_of_lt (Nat.lt_succ_of_lt (lc p hp))
  have hc2 : ∀ p ∈ news, p.1 ≠ L' + 1 + 1 := fun p hp => Nat.ne_of_lt (Nat.lt_succ_of_lt (Nat.lt_succ_of_lt (lc p hp)))
  have hd2 : L' + 1 + 1 < Da := lDa _ (.tail _ (.head _))
  have hd1 : L' + 1 < Da := lDa _ (.tail _ (.tail _ (.head _)))
  have N₁₁ : News _ _ _ ((Da, _) :: (L' + 1 + 1, oN) :: (L' + 1, oA) :: news) := fun p hp => N₁₁ p (by
    rcases List.mem_cons.mp hp with rfl | hp
    · exact .head _
    · exact .tail _ (.tail _ hp))
  (repeat (focus first | (k_unfold; (try dsimp only)) | (k_end; wrow_close) | walk1 | (dsimp only; walk1) | (leave1; walk_say "STEP leave1"; try dsimp only)))
  show wpAny _ _ _ _ _ _
  w_strict (k_dflt (refine storeX_C F₁₁ N₁₁ rfl (UpdF.tail (Ne.symm (Nat.ne_of_lt hd1)) (UpdF.tail (Nat.succ_ne_self _) (UpdF.head hc1))) dA ?_ rfl rfl))
  intro h₁₂ oA₂ F₁₂ N₁₂ dA₂
  try dsimp only at N₁₂
  clear F₁₁ N₁₁ dA
  have N₁₂ : News _ _ _ ((Da, listOf va.toArray 0) :: (L' + 1 + 1, oN) :: (L' + 1, oA₂) :: (lo, listOf its.toArray kl) :: news) := fun p hp => N₁₂ p (by
    rcases List.mem_cons.mp hp with rfl | hp
    · exact .head _
    · rcases List.mem_cons.mp hp with rfl | hp
      · exact .tail _ (.head _)
      · rcases List.mem_cons.mp hp with rfl | hp
        · exact .tail _ (.tail _ (.head _))
        · rcases List.mem_cons.mp hp with rfl | hp
          · exact .tail _ (.tail _ (.tail _ hmo))
          · exact .tail _ (.tail _ (.tail _ hp)))
  (repeat (focus first | (k_unfold; (try dsimp only)) | (k_end; wrow_close) | walk1 | (dsimp only; walk1) | (leave1; walk_say "STEP leave1"; try dsimp only)))
  show wpAny _ _ _ _ _ _
  rename Fr _ _ _ _ => F₁₃
  rename News _ _ _ _ => N₁₃
  have hlen : its.length = os.length := by rw [hits.length, cast_length]
  have hsh : ∀ k : Nat, k = os.length → (-((k : Nat) : Int)) % 3 = ((shortOf os.length : Nat) : Int) := by
    rintro k rfl
    unfold shortOf
    omega
  first
    | rw [hsh _ hlen] at F₁₃
    | rw [hsh _ (cast_length os)] at F₁₃
    | rw [hsh its.toArray.size (by rw [List.size_toArray, hlen])] at F₁₃
  w_strict (k_dflt (refine ListComp_E F₁₃ (by with_unfolding_all rfl) (by decide) (by rfl) (by decide) (by rfl) (by rfl) (by decide) rfl ?_))
  (repeat (focus first | (k_unfold; (try dsimp only)) | (k_end; wrow_close) | walk1 | (dsimp only; walk1) | (leave1; walk_say "STEP leave1"; try dsimp only)))
  show wpAny _ _ _ _ _ _
  w_strict (k_dflt (refine krv_ints F₁₃ N₁₃ (News.isList N₁₃ (.tail _ (.tail _ (.tail _ (.head _))))) (IsPart.int _ _) hits ?_ (by with_unfolding_all rfl) (by kmk_pure) (by rw [List.size_toArray, sizeLine_eq]; omega)))
  intro Dr vr h₁₄ F₁₄ N₁₄ lDr hvr _
  (repeat (focus first | (k_unfold; (try dsimp only)) | (k_end; wrow_close) | walk1 | (dsimp only; walk1) | (leave1; walk_say "STEP leave1"; try dsimp only)))
  show wpAny _ _ _ _ _ _
  refine srcE_list rfl F₁₄ N₁₄ (News.isList N₁₄ (.head _)) hvr (by rw [List.length_reverse, cast_length]; omega) (fun j p => p * 256 ^ j) ?_ ?_
  · intro j n t₃ t₄ C m₂ s₂ E' hn hns h1 h2
    have hj : j < 12 := by
      have := (List.getElem?_eq_some_iff.mp hn).1
      rw [List.length_reverse, cast_length] at this; omega
    have hn1 : n.natAbs < 2 ^ 64 := by
      have hm := List.mem_reverse.mp (List.mem_of_getElem? hn)
      obtain ⟨q, hq, rfl⟩ := List.mem_map.mp hm
      have := hos q hq
      omega
    exact elt_mul_pow (by rfl) (by rfl) (by rfl) (by decide) (by decide) (by decide) (by omega) hn1 hns h1 h2
  intro Ds vz h₁₅ tk₁₅ F₁₅ N₁₅ lDs hvz
  have hs2 : shortOf os.length ≤ 2 := by unfold shortOf; omega
  have N₁₅ : News _ _ _ ((Ds, LCg.lst vz) :: (Da, listOf va.toArray 0) :: (L' + 1 + 1, oN) :: (L' + 1, oA₂) :: (lo, listOf its.toArray kl) :: news) := fun p hp => N₁₅ p (by
    rcases List.mem_cons.mp hp with rfl | hp
    · exact .head _
    · exact .tail _ (.tail _ hp))
  (repeat (focus first | (k_unfold; (try dsimp only)) | (k_end; wrow_close) | walk1 | (dsimp only; walk1) | (leave1; walk_say "STEP leave1"; try dsimp only)))
  show wpAny _ _ _ _ _ _
  rw [sum_num]
  refine PyProof.Rows.mul_int ?_ (IntMulOk.of_right ?_)
  rotate_left
  · have hcs : shortOf os.length = 0 ∨ shortOf os.length = 1 ∨ shortOf os.length = 2 := by omega
    rcases hcs with e | e | e <;> (rw [e]; decide)
  (repeat (focus first | (k_unfold; (try dsimp only)) | (k_end; wrow_close) | walk1 | (dsimp only; walk1) | (leave1; walk_say "STEP leave1"; try dsimp only)))
  show wpAny _ _ _ _ _ _
  rename Fr _ _ _ _ => F₁₆
  rename News _ _ _ _ => N₁₆
  have N₁₆ : News _ _ _ ((Da, listOf va.toArray 0) :: (L' + 1 + 1, oN) :: (L' + 1, oA₂) :: (lo, listOf its.toArray kl) :: news) := fun p hp => N₁₆ p (.tail _ hp)
  w_strict (k_dflt (refine storeX_C F₁₆ N₁₆ rfl (UpdF.tail (Ne.symm (Nat.ne_of_lt hd2)) (UpdF.head ?hup)) dN ?_ rfl rfl))
  case hup =>
    intro p hp
    rcases List.mem_cons.mp hp with rfl | hp
    · exact Ne.symm (Nat.succ_ne_self _)
    · rcases List.mem_cons.mp hp with rfl | hp
      · exact hc2 _ hmo
      · exact hc2 p hp
  intro h₁₇ oN₂ F₁₇ N₁₇ dN₂
  try dsimp only at N₁₇
  clear F₁₆ N₁₆ dN
  (repeat (focus first | (k_unfold; (try dsimp only)) | (k_end; wrow_close) | walk1 | (dsimp only; walk1) | (leave1; walk_say "STEP leave1"; try dsimp only)))
  show wpAny _ _ _ _ _ _
  refine PyProof.Rows.mul_int ?_ (IntMulOk.of_left (by decide))
  (repeat (focus first | (k_unfold; (try dsimp only)) | (k_end; wrow_close) | walk1 | (dsimp only; walk1) | (leave1; walk_say "STEP leave1"; try dsimp only)))
  show wpAny _ _ _ _ _ _
  rename Fr _ _ _ _ => F₁₈
  rename News _ _ _ _ => N₁₈
  have hcnt : (4 * (((cast os).length : Nat) : Int) + ((shortOf os.length : Nat) : Int)).fdiv 3 = (((4 * os.length + shortOf os.length) / 3 : Nat) : Int) := by
    rw [Int.fdiv_eq_ediv_of_nonneg _ (by decide), cast_length]; omega
  rw [hcnt] at F₁₈
  obtain ⟨cnt, hcd⟩ : ∃ c, c = (4 * os.length + shortOf os.length) / 3 := ⟨_, rfl⟩
  rw [← hcd] at F₁₈
  have hc16 : cnt ≤ 16 := by omega
  clear hcnt
  w_strict (k_dflt (refine ListComp_W F₁₈ (by with_unfolding_all rfl) (by decide) (by rfl) (by decide) (by rfl) ?_))
  (repeat (focus first | (k_unfold; (try dsimp only)) | (k_end; wrow_close) | walk1 | (dsimp only; walk1) | (leave1; walk_say "STEP leave1"; try dsimp only)))
  rename IsRange _ _ _ _ _ _ _ _ => hr
  refine srcW_range (n := cnt) rfl (by assumption) (by assumption) hr (down_small hc16).1 (down_small hc16).2 (by rw [sizeLine_eq]; omega) ?_
  intro g₂
  refine rest_gen (fun j y => ∃ t, y = .int ((cast ((sx os).map (sgn a0 a1))).getD j 0) t) ?_ ?_
  · rintro j v I₂ oI₂ C oC D₂ m₂ ys₂ h₂ tk₂ E' hj ⟨t₂, rfl⟩ hC hxv F₂ N₂ off ne
    have hkj : ((cnt : Nat) : Int) - 1 + (j : Int) * -1 = ((cnt - 1 - j : Nat) : Int) := by omega
    rw [hkj] at hxv
    have hk3 : cnt - 1 - j ≤ 15 := by omega
    obtain ⟨kk, hkk⟩ : ∃ c, c = cnt - 1 - j := ⟨_, rfl⟩
    rw [← hkk] at hxv hk3
    obtain ⟨xN, hxI, hx64, hsx⟩ := idx_all hcd hj hkk
    obtain ⟨ti, hti⟩ := hva.get xN _ (alph_get hx64)
    have hv : ((sgn a0 a1 xN : Nat) : Int) = (cast ((sx os).map (sgn a0 a1))).getD j 0 := by
      unfold cast
      rw [List.getD_eq_getElem?_getD, List.getElem?_map, List.getElem?_map, hsx]; rfl
    have i0 : 0 ≤ ((num os : Nat) : Int) * 4 ^ shortOf os.length / 64 ^ kk % 64 := by rw [hxI]; exact Int.natCast_nonneg xN
    have i1 : ((num os : Nat) : Int) * 4 ^ shortOf os.length / 64 ^ kk % 64 < 2 ^ 63 := by rw [hxI]; omega
    have i2 : va[(((num os : Nat) : Int) * 4 ^ shortOf os.length / 64 ^ kk % 64).toNat]? = some (.int ((sgn a0 a1 xN : Nat) : Int) ti) := by rw [hxI, Int.toNat_natCast]; exact hti
    clear hxI hx64 hsx
    (repeat (focus first | (k_unfold; (try dsimp only)) | (k_end; wrow_close) | walk1 | (dsimp only; walk1) | (leave1; walk_say "STEP leave1"; try dsimp only)))
    show wpAny _ _ _ _ _ _
    refine item_list (x := .int ((sgn a0 a1 xN : Nat) : Int) ti) (News.isList N₂ (.tail _ (.tail _ (.tail _ (.head _))))) i0 i1 (by simpa using i2) ?_
    exact LCg.CompEnd.intro F₂ N₂ _ (fun p hp => hp) off trivial ⟨rfl, _, congrArg (fun z => Value.int z _) hv⟩
  intro ss₂ hsl₂ hsg₂ D₃ h₂₀ tk₂₀ F₂₀ N₂₀ off₂₀
  have hss₂ : IntsAre ss₂ (cast ((sx os).map (sgn a0 a1))) := ints_of_all (by rw [hsl₂, cast_length, List.length_map, sx_length, hcd]) hsg₂
  clear hsg₂
  have hD₃ : ∀ p ∈ news, p.1 < Da := fun p hp => lDa p (.tail _ (.tail _ (.tail _ hp)))
  have N₂₀ : News _ _ _ ((D₃, LCg.lst ss₂) :: news) := fun p hp => N₂₀ p (by
    rcases List.mem_cons.mp hp with rfl | hp
    · exact .head _
    · exact .tail _ (.tail _ (.tail _ (.tail _ (.tail _ hp)))))
  have e61 : cast (List.replicate (shortOf os.length) 61) = (List.replicate ((shortOf os.length : Nat) : Int).toNat [(61 : Int)]).flatten := by
    rw [Int.toNat_natCast, List.flatten_replicate_singleton]; simp [cast]
  (repeat (focus first | (k_unfold; (try dsimp only)) | (k_end; wrow_close) | walk1 | (dsimp only; walk1) | (leave1; walk_say "STEP leave1"; try dsimp only)))
  show wpAny _ _ _ _ _ _
  rename Fr _ _ _ _ => F₂₁
  rename News _ _ _ _ => N₂₁
  rename IntsAre _ (List.flatten _) => h61
  rw [← e61] at h61
  refine kmk_add_ints F₂₁ N₂₁ (News.isList N₂₁ (.tail _ (.tail _ (.head _)))) (News.isList N₂₁ (.head _)) hss₂ h61 ?_ (by rw [cast_length, cast_length, List.length_map, sx_length, List.length_replicate, sizeLine_eq]; omega)
  intro Df vf h₂₂ F₂₂ N₂₂ lDf hvf
  rw [← cast_append] at hvf
  (repeat (focus first | (k_unfold; (try dsimp only)) | (k_end; wrow_close) | walk1 | (dsimp only; walk1) | (leave1; walk_say "STEP leave1"; try dsimp only)))
  refine claim_ret hret (by assumption) (by assumption) [(Df, listOf vf.toArray 0)] ⟨Df, vf, 0, rfl, rfl, hvf⟩ ?_ ?_
  · intro p hp q hq
    rw [List.mem_singleton.mp hp]
    exact lDf q (.tail _ (.tail _ (.tail _ hq)))
  · intro p hp
    rcases List.mem_cons.mp hp with rfl | hp
    · exact .head _
    · exact .tail _ (.tail _ (.tail _ (.tail _ hp)))
end Mine
end
section
open PySem PySem.W PyProof.Rows
namespace Mine
local macro_rules | `(tactic| k_all) => `(tactic| assumption)
local macro_rules | `(tactic| walk_at "eval IfExp") => `(tactic| (k_here; (with_reducible show wpAny _ _ (eval (PySem.Expr.IfExp _ _ _ _) _) _ _ _); refine stop_intro ?_))
local macro_rules | `(tactic| walk_at "eval ListComp") => `(tactic| (k_here; (with_reducible show wpAny _ _ (eval (Expr.ListComp _ _ _ _) _) _ _ _); refine stop_intro ?_))
local macro_rules | `(tactic| walk_at "binaryOp Pow int int") => `(tactic| (k_here; with_reducible refine pow_nat (by decide) (by omega) ?_))
local macro_rules | `(tactic| walk_at "binaryOp FloorDiv int int") => `(tactic| (k_here; with_reducible refine fdiv_pow (by decide) (by decide) (by omega) ?_))
local macro_rules | `(tactic| walk_at "binaryOp Mod int int") => `(tactic| (k_here; with_reducible refine mod_pos (by decide) ?_))
local macro_rules | `(tactic| cell_enter) => `(tactic| (refine' code_defC ?k1 ?k2 ?k3 ?k4 ?k5 ?kA ?kF ?kK ?k6 ?k7 ?k8 ?k9 ?kB ?kD ?_ ?c2 ?c3 ?c4; (case kA => exact rfl); (case kF => exact rfl); (case kK => assumption); (case k1 => k_asm); (case k2 => k_asm); (case k3 => k_asm); (case k4 => k_asm); (case k5 => k_asm); (case k6 => k_is); (case k7 => k_is); (case k8 => k_room); (case k9 => first | exact BindsTo.of_eq rfl | exact binds_K (by k_in) rfl (by k_is) rfl rfl rfl); (case kB => exact rfl); (case kD => decide +kernel); (case c2 => exact rfl); (case c3 => exact rfl); (case c4 => exact rfl); k_whole; intro g' L' h' tk' cells' FG' F' N' Y' B' X' T' l1; (try k_lt l1); k_cells Y'; (try simp only [List.cons_append, List.nil_append] at N'); (try dsimp only); (try k_lift B'); (try k_fold)))
local macro_rules | `(tactic| cell_enter) => `(tactic| (refine' code_def ?k1 ?k2 ?k3 ?k4 ?k5 ?kA ?kF ?kK ?k6 ?k7 ?k8 ?k9 ?kB ?_ ?c2 ?c3 ?c4 ?c5; (case kA => exact rfl); (case kF => exact rfl); (case kK => assumption); (case k1 => k_asm); (case k2 => k_asm); (case k3 => k_asm); (case k4 => k_asm); (case k5 => k_asm); (case k6 => k_is); (case k7 => k_is); (case k8 => k_room); (case k9 => first | exact BindsTo.of_eq rfl | exact binds_K (by k_in) rfl (by k_is) rfl rfl rfl); (case c5 => decide); (case kB => exact locs rfl); (case c2 => exact rfl); (case c3 => exact rfl); (case c4 => exact rfl); k_whole; intro g' L' h' FG' F' N' B' X' T'; (try dsimp only); (try k_lift B'); (try k_fold)))
local macro_rules | `(tactic| walk_at "exec For Tuple Call cons nil") => `(tactic| (k_here; (with_reducible show wpAny _ _ (exec (Stmt.For _ _ _ _ _) _) _ _ _); refine stop_intro ?_))
local macro_rules | `(tactic| walk_at "exec For Name Call cons nil") => `(tactic| (k_here; (with_reducible show wpAny _ _ (exec (Stmt.For _ _ _ _ _) _) _ _ _); refine stop_intro ?_))
local macro_rules | `(tactic| walk_at "call type:enumerate cons nil") => `(tactic| (k_here; refine stop_intro ?_))
local macro_rules | `(tactic| walk_at "call type:enumerate") => `(tactic| (k_here; refine stop_intro ?_))
local macro_rules | `(tactic| walk_at "subscriptTail Name Slice ref ref") => `(tactic| (k_here; (with_reducible show wpAny _ _ (subscriptTail _ (PySem.Expr.Slice none none (some _) _) (Value.ref _) (Value.ref _)) _ _ _); refine stop_intro ?_))
theorem pick {h₀ : Heap} {L : Addr} {h : Heap} {x a b : Addr × Obj} {c : List (Addr × Obj)} (N : News h₀ L h (a :: x :: b :: c)) : ∃ rest, b ∈ rest ∧ a ∈ rest ∧ (∀ p ∈ c, p ∈ rest) ∧ (∀ p ∈ rest, p = a ∨ p = b ∨ p ∈ c) ∧ News h₀ L h (x :: rest) := by
  refine ⟨a :: b :: c, .tail _ (.head _), .head _, fun p hp => .tail _ (.tail _ hp), fun p hp => ?_, fun p hp => N p ?_⟩
  · rcases List.mem_cons.mp hp with rfl | hp
    · exact .inl rfl
    · rcases List.mem_cons.mp hp with rfl | hp
      · exact .inr (.inl rfl)
      · exact .inr (.inr hp)
  · rcases List.mem_cons.mp hp with rfl | hp
    · exact .tail _ (.head _)
    · rcases List.mem_cons.mp hp with rfl | hp
      · exact .head _
      · exact .tail _ (.tail _ hp)
theorem bring {h₀ : Heap} {L : Addr} {h : Heap} {x b : Addr × Obj} {own rest : List (Addr × Obj)} (N : News h₀ L h (own ++ x :: rest)) (hb : b ∈ rest) : ∃ R, b ∈ R ∧ (∀ p, p ∈ R ↔ p ∈ own ∨ p ∈ rest) ∧ News h₀ L h (x :: b :: R) := by
  refine ⟨own ++ rest, List.mem_append_right _ hb, fun p => List.mem_append, fun p hp => N p ?_⟩
  rcases List.mem_cons.mp hp with rfl | hp
  · exact List.mem_append_right _ (.head _)
  · rcases List.mem_cons.mp hp with rfl | hp
    · exact List.mem_append_right _ (.tail _ hb)
    · rcases List.mem_append.mp hp with hp | hp
      · exact List.mem_append_left _ hp
      · exact List.mem_append_right _ (.tail _ hp)
theorem bring2 {h₀ : Heap} {L : Addr} {h : Heap} {x b : Addr × Obj} {R tl : List (Addr × Obj)} (N : News h₀ L h ((x :: R) ++ tl)) (hb : b ∈ R) : News h₀ L h (x :: b :: (R ++ tl)) := fun p hp => N p (by
  rcases List.mem_cons.mp hp with rfl | hp
  · exact .head _
  · rcases List.mem_cons.mp hp with rfl | hp
    · exact .tail _ (List.mem_append_left _ hb)
    · exact .tail _ hp)
theorem ne_cons2 {b : Addr × Obj} {R : List (Addr × Obj)} {l' I : Addr} (hb : b ∈ R) (h : ∀ p ∈ R, p.1 ≠ l') (hI : I ≠ l') (oI : Obj) : ∀ p ∈ b :: (R ++ [(I, oI)]), p.1 ≠ l' := by
  intro p hp
  rcases List.mem_cons.mp hp with rfl | hp
  · exact h _ hb
  · rcases List.mem_append.mp hp with hp | hp
    · exact h p hp
    · rw [List.mem_singleton.mp hp]; exact hI
theorem drop2 {h₀ : Heap} {L : Addr} {h : Heap} {x b : Addr × Obj} {R : List (Addr × Obj)} (N : News h₀ L h (x :: b :: R)) : News h₀ L h (x :: R) := fun p hp => N p (by
  rcases List.mem_cons.mp hp with rfl | hp
  · exact .head _
  · exact .tail _ (.tail _ hp))
theorem back {h₀ : Heap} {L : Addr} {h : Heap} {x : Addr × Obj} {own rest R : List (Addr × Obj)} (hR : ∀ p, p ∈ R ↔ p ∈ own ∨ p ∈ rest) (N : News h₀ L h (x :: R)) : News h₀ L h (own ++ x :: rest) := fun p hp => N p (by
  rcases List.mem_append.mp hp with hp | hp
  · exact .tail _ ((hR p).mpr (.inl hp))
  · rcases List.mem_cons.mp hp with rfl | hp
    · exact .head _
    · exact .tail _ ((hR p).mpr (.inr hp)))
/-- places of signs -/
theorem ps_get {T : List Nat} (hT : ∀ x ∈ T, x < 256) {i j n : Nat} (hj : j < 8) (h : T[i]? = some n) : (T.flatMap (bitsL 8)).getD (8 * i + j) 0 = n / 2 ^ j % 2 := by
  induction T generalizing i with
  | nil => cases h
  | cons a r ih =>
    rw [List.flatMap_cons]
    cases i with
    | zero =>
      have e : a = n := by simpa using h
      subst e
      have ha := hT a (.head _)
      rw [List.getD_eq_getElem?_getD, List.getElem?_append_left (by rw [bitsL_length]; omega), ← List.getD_eq_getElem?_getD, Nat.mul_zero, Nat.zero_add, bitsL_getD 8 a j ha]
    | succ i =>
      rw [List.getD_eq_getElem?_getD, List.getElem?_append_right (by rw [bitsL_length]; omega), ← List.getD_eq_getElem?_getD, bitsL_length, show 8 * (i + 1) + j - 8 = 8 * i + j by omega]
      exact ih (fun x hx => hT x (.tail _ hx)) (by simpa using h)
theorem words2_call (w : World) (mean : ExcName → Option Value) (mg mb : Str → Option Value) (news : List (Addr × Obj)) (T : List Nat) (hT : ∀ x ∈ T, x < 256) (hl : T.length ≤ 4) (lp : Addr) (its : List Value) (kl : Nat) (hml : (lp, listOf its.toArray kl) ∈ news) (hits : IntsAre its (cast T)) :
    Claim w mean mg mb 87 news [.ref lp]
      (fun v tl => ∃ l vs k, v = .ref l ∧ tl = [(l, listOf (strValues vs).toArray k)] ∧ vs.map (·.1) = wordsOf (cast (T.reverse.flatMap (bitsL 8))) 1 (8 * T.length)) := by
  w_on
  unfold Claim
  k_fill
  intro cn cs a ccd base h₀ L m s Q E hB hF hX hN hTo hk hret
  have hlc : (cast T).length ≤ 4 := by rw [cast_length]; exact hl
  have hlv : its.length ≤ 4 := by rw [hits.length]; exact hlc
  refine wpAny_call ?_
  w_strict (k_dflt cell_enter)
  (repeat (focus first | (k_unfold; (try dsimp only)) | (k_end; wrow_close) | walk1 | (dsimp only; walk1) | (leave1; walk_say "STEP leave1"; try dsimp only)))
  rename_i g LL hz FG BG XG TG l2 h6 l1a h5 l1b h4 l1c D h3 l1d h2 l' h1 l1e hh Fq Nq
  show wpAny _ _ _ _ _ _
  have N : News _ _ _ ((l', listOf (strValues []).toArray 0) :: (D, _) :: news) := fun p hp => Nq p (by
    rcases List.mem_cons.mp hp with rfl | hp
    · exact .head _
    · rcases List.mem_cons.mp hp with rfl | hp
      · exact .tail _ (.head _)
      · exact .tail _ (.tail _ (.tail _ (.tail _ hp))))
  clear Nq
  have hml' : (lp, listOf its.toArray kl) ∈ news := hml
  refine For_pair3 g rfl rfl rfl rfl ?_ (by intro _; rfl)
  (repeat (focus first | (k_unfold; (try dsimp only)) | (k_end; wrow_close) | walk1 | (dsimp only; walk1) | (leave1; walk_say "STEP leave1"; try dsimp only)))
  show wpAny _ _ _ _ _ _
  rename Fr _ _ _ _ => F₁
  w_strict (k_dflt (refine krv_ints F₁ N (News.isList N (.tail _ (.tail _ hml))) (IsPart.int _ _) hits ?_ (by with_unfolding_all rfl) (by kmk_pure) (by rw [List.size_toArray, sizeLine_eq]; omega)))
  intro Dr ws h₂ F₂ N₂ lDr hR _
  (repeat (focus first | (k_unfold; (try dsimp only)) | (k_end; wrow_close) | walk1 | (dsimp only; walk1) | (leave1; walk_say "STEP leave1"; try dsimp only)))
  show wpAny _ _ _ _ _ _
  rename Fr _ _ _ _ => F₃
  obtain ⟨rest, hDm, hrm, hnm, hrest, N₃⟩ := pick N₂
  have hR' : IntsAre ws (cast T.reverse) := by
    have : cast T.reverse = (cast T).reverse := by unfold cast; rw [List.map_reverse]
    rw [this]; exact hR
  have hl' : ∀ p ∈ rest, p.1 ≠ l' := by
    intro p hp
    rcases hrest p hp with rfl | rfl | hp
    · exact Ne.symm (Nat.ne_of_lt (lDr _ (.head _)))
    · exact Nat.ne_of_lt l1e.1
    · exact Nat.ne_of_lt (Nat.lt_trans (Nat.lt_trans (l1a p hp) l1d.2.1) l1e.1)
  have hlD : l' < Dr := lDr _ (.head _)
  have hTr : ∀ x ∈ T.reverse, x < 256 := fun x hx => hT x (List.mem_reverse.mp hx)
  generalize hps : cast (T.reverse.flatMap (bitsL 8)) = ps
  refine enumFor_rule rfl F₃ N₃ (News.isList N₃ (.tail _ hrm)) ?_ hR' (fun i m₁ news₁ => ∃ (l : List (Str × Tok)) (k : Nat) (u : Str → Option Value), news₁ = (l', listOf (strValues l).toArray k) :: rest ∧ l.map (·.1) = wordsOf ps 1 (8 * i) ∧ l.length ≤ 8 * i ∧
    m₁ = (fun y => if y = Str.ofString "words" then some (.ref l') else if y = Str.ofString "names" then some (.ref D) else u y)) ⟨[], 0, _, rfl, rfl, Nat.le_refl _, up2 rfl rfl⟩ ?_ ?_
  · exact (N₃ _ (.tail _ hrm)).2.1
  · rintro i n t t' m₁ news₁ h tk own hn ⟨l, k, u, rfl, hws, hln, rfl⟩ hadr hown F₄ N₄
    clear F₃ N N₂ N₃ hadr
    (try clear F₁); (try clear Fq)
    have hi4 : i < 4 := by
      have := (List.getElem?_eq_some_iff.mp hn).1
      rw [cast_length, List.length_reverse] at this
      omega
    obtain ⟨n', hn', rfl⟩ : ∃ n' : Nat, T.reverse[i]? = some n' ∧ n = ((n' : Nat) : Int) := by
      unfold cast at hn
      rw [List.getElem?_map] at hn
      obtain ⟨q, hq, e⟩ := Option.map_eq_some_iff.mp hn
      exact ⟨q, hq, e.symm⟩
    have hn2 : n' < 256 := hTr n' (List.mem_of_getElem? hn')
    obtain ⟨R, hDR, hR1, N₅⟩ := bring N₄ hDm
    have hRl : ∀ p ∈ R, p.1 ≠ l' := by
      intro p hp
      rcases (hR1 p).mp hp with hp | hp
      · rcases hown p hp with e | e
        · rw [e]; exact Ne.symm (Nat.ne_of_lt hlD)
        · exact Ne.symm (Nat.ne_of_lt (e _ (.head _)))
      · exact hl' p hp
    have F₅ : Fr g LL h _ := F₄
    have N₅ : News g LL h _ := N₅
    clear F₄ N₄
    (repeat (focus first | (k_unfold; (try dsimp only)) | (k_end; wrow_close) | walk1 | (dsimp only; walk1) | (leave1; walk_say "STEP leave1"; try dsimp only)))
    show wpAny _ _ _ _ _ _
    refine wpAny_For ?_ (hs := by intro _; rfl)
    (first | ((focus first | (k_unfold; (try dsimp only)) | (k_end; wrow_close) | walk1 | (dsimp only; walk1) | (leave1; walk_say "STEP leave1"; try dsimp only)); (first | ((focus first | (k_unfold; (try dsimp only)) | (k_end; wrow_close) | walk1 | (dsimp only; walk1) | (leave1; walk_say "STEP leave1"; try dsimp only)); (first | ((focus first | (k_unfold; (try dsimp only)) | (k_end; wrow_close) | walk1 | (dsimp only; walk1) | (leave1; walk_say "STEP leave1"; try dsimp only)); (first | ((focus first | (k_unfold; (try dsimp only)) | (k_end; wrow_close) | walk1 | (dsimp only; walk1) | (leave1; walk_say "STEP leave1"; try dsimp only)); (first | ((focus first | (k_unfold; (try dsimp only)) | (k_end; wrow_close) | walk1 | (dsimp only; walk1) | (leave1; walk_say "STEP leave1"; try dsimp only)); (first | ((focus first | (k_unfold; (try dsimp only)) | (k_end; wrow_close) | walk1 | (dsimp only; walk1) | (leave1; walk_say "STEP leave1"; try dsimp only)); (first | ((focus first | (k_unfold; (try dsimp only)) | (k_end; wrow_close) | walk1 | (dsimp only; walk1) | (leave1; walk_say "STEP leave1"; try dsimp only)); (first | ((focus first | (k_unfold; (try dsimp only)) | (k_end; wrow_close) | walk1 | (dsimp only; walk1) | (leave1; walk_say "STEP leave1"; try dsimp only)); (first | ((focus first | (k_unfold; (try dsimp only)) | (k_end; wrow_close) | walk1 | (dsimp only; walk1) | (leave1; walk_say "STEP leave1"; try dsimp only)); (first | ((focus first | (k_unfold; (try dsimp only)) | (k_end; wrow_close) | walk1 | (dsimp only; walk1) | (leave1; walk_say "STEP leave1"; try dsimp only)); skip) | skip)) | skip)) | skip)) | skip)) | skip)) | skip)) | skip)) | skip)) | skip)) | skip)
    rename IsRange _ _ _ _ _ _ _ _ => hr
    rename Fr _ _ _ _ => F₆
    rename News _ _ _ _ => N₆
    have N₆ : News g LL _ ((l', listOf (strValues l).toArray k) :: R) := fun p hp => N₆ p (by
      rcases List.mem_cons.mp hp with rfl | hp
      · first | exact .head _ | exact .tail _ (.head _)
      · first | exact .tail _ (.tail _ hp) | exact .tail _ (.tail _ (.tail _ hp)))
    have hps1 : ∀ j, j < 8 → ps.getD (8 * i + j) 0 = ((n' / 2 ^ j % 2 : Nat) : Int) := fun j hj => by rw [← hps, cast_getD, ps_get hTr hj hn']
    refine range_rule (n := 8) hr (by decide) (by decide) rfl rfl rfl F₆ N₆ (fun j m₁ news₁ => ∃ (l : List (Str × Tok)) (k : Nat) (u : Str → Option Value), news₁ = (l', listOf (strValues l).toArray k) :: R ∧ l.map (·.1) = wordsOf ps 1 (8 * i + j) ∧ l.length ≤ 8 * i + j ∧
      m₁ = (fun y => if y = Str.ofString "words" then some (.ref l') else if y = Str.ofString "names" then some (.ref D) else if y = Str.ofString "sign" then some (.int ((n' : Nat) : Int) t') else if y = Str.ofString "k" then some (.int (i : Int) t) else u y)) ⟨l, k, _, rfl, hws, hln, up4 rfl rfl rfl rfl⟩ ?_ ?_
    · rintro j tj m₂ news₂ h₇ tk₇ I oI hj ⟨l₂, k₂, u₂, rfl, hws₂, hln₂, rfl⟩ hadr₂ hI F₇ N₇
      clear hr F₆ N₆ hadr₂
      (try clear F₅); (try clear N₅)
      have hIl : I ≠ l' := Ne.symm (Nat.ne_of_lt (hI _ (.head _)))
      clear hI
      have F₈ : Fr g LL h₇ _ := F₇
      have N₈ : News g LL h₇ _ := bring2 N₇ hDR
      clear F₇ N₇
      have hR9 := ne_cons2 hDR hRl hIl oI
      simp only [Int.zero_add, Int.mul_one] at F₈
      have hb := hps1 j hj
      have hcase : (((n' : Nat) : Int) / 2 ^ j % 2 = 1 ↔ ps.getD (8 * i + j) 0 = 1) := by rw [hb, nat_bit]; omega
      (repeat (focus first | (k_unfold; (try dsimp only)) | (k_end; wrow_close) | walk1 | (dsimp only; walk1) | (leave1; walk_say "STEP leave1"; try dsimp only)))
      · rename (((n' : Nat) : Int) / 2 ^ j % 2 = 1) => heq
        show wpAny _ _ _ _ _ _
        rename Fr _ _ _ _ => F₉
        rename News _ _ _ _ => N₉
        have ep : 8 * (i : Int) + (j : Int) = ((8 * i + j : Nat) : Int) := by push_cast; rfl
        rw [ep] at F₉
        refine by_text F₉ N₉ (wordP (8 * i + j)) ?_ ?_
        · refine wpAny_IfExp ?_
          (repeat (focus first | (k_unfold; (try dsimp only)) | (k_end; wrow_close) | walk1 | (dsimp only; walk1) | (leave1; walk_say "STEP leave1"; try dsimp only)))
          · refine WEnd.intro ?_ F₉ N₉ (fun p hp => hp)
            rw [Int.toNat_natCast]
            exact wordP_low (by omega)
          · rename (¬ ((8 * i + j : Nat) : Int) < _) => hlt
            (repeat (focus first | (k_unfold; (try dsimp only)) | (k_end; wrow_close) | walk1 | (dsimp only; walk1) | (leave1; walk_say "STEP leave1"; try dsimp only)))
            have e := wordP_high (i := 8 * i + j) (by omega) (by omega)
            refine PyProof.Rows.add_str ?_ ?_
            · intro t₄ tk₄
              exact WEnd.intro e F₉ N₉ (fun p hp => hp)
            · rw [← Str.length_append, e, sizeLine_eq]
              have := wordP_len (i := 8 * i + j) (by omega)
              omega
        intro tv₂ h₁₀ tk₁₀ F₁₀ N₁₀
        (repeat (focus first | (k_unfold; (try dsimp only)) | (k_end; wrow_close) | walk1 | (dsimp only; walk1) | (leave1; walk_say "STEP leave1"; try dsimp only)))
        refine append_str F₁₀ N₁₀ hR9 (by omega) ?_
        intro h₁₁ F₁₁ N₁₁
        dsimp only
        (repeat (focus first | (k_unfold; (try dsimp only)) | (k_end; wrow_close) | walk1 | (dsimp only; walk1) | (leave1; walk_say "STEP leave1"; try dsimp only)))
        dsimp only
        refine TEnd.intro (hd := [_]) F₁₁ (drop2 N₁₁) rfl rfl ⟨_, _, _, rfl, ?_, ?_, up4 rfl rfl rfl rfl⟩
        · rw [List.map_append, hws₂]
          exact (wordsOf_yes (hcase.mp heq)).symm
        · simp; omega
      · rename (¬ ((n' : Nat) : Int) / 2 ^ j % 2 = 1) => heq
        (repeat (focus first | (k_unfold; (try dsimp only)) | (k_end; wrow_close) | walk1 | (dsimp only; walk1) | (leave1; walk_say "STEP leave1"; try dsimp only)))
        dsimp only
        rename Fr _ _ _ _ => F₁₁
        rename News _ _ _ _ => N₁₁
        refine TEnd.intro (hd := [_]) F₁₁ (drop2 N₁₁) rfl rfl ⟨_, _, _, rfl, ?_, by omega, up4 rfl rfl rfl rfl⟩
        rw [hws₂]
        exact (wordsOf_no (fun e => heq (hcase.mpr e))).symm
    · rintro m₂ news₂ h₇ tk₇ ⟨l₂, k₂, u₂, rfl, hws₂, hln₂, rfl⟩ hadr₂ F₇ N₇
      clear hr F₆ N₆ hadr₂
      (try clear F₅); (try clear N₅)
      (repeat (focus first | (k_unfold; (try dsimp only)) | (k_end; wrow_close) | walk1 | (dsimp only; walk1) | (leave1; walk_say "STEP leave1"; try dsimp only)))
      exact LoopStep2.intro F₇ (back hR1 N₇) rfl ⟨l₂, k₂, _, rfl, hws₂, hln₂, up2 rfl rfl⟩
  · rintro h₇ tk₇ m₂ news₂ F₇ N₇ hadr₂ ⟨l₂, k₂, u₂, rfl, hws₂, hln₂, rfl⟩
    clear F₃ N N₂ N₃ hadr₂
    (try clear F₁); (try clear Fq)
    rw [cast_length, List.length_reverse] at hws₂
    have F₈ : Fr g LL h₇ _ := F₇
    have N₈ : News g LL h₇ _ := N₇
    clear F₇ N₇
    (repeat (focus first | (k_unfold; (try dsimp only)) | (k_end; wrow_close) | walk1 | (dsimp only; walk1) | (leave1; walk_say "STEP leave1"; try dsimp only)))
    refine claim_ret hret (by assumption) (by assumption) [(l', listOf (strValues l₂).toArray k₂)] ⟨l', l₂, k₂, rfl, rfl, by rw [hws₂, hps]⟩ ?_ ?_
    · intro p hp q hq
      rw [List.mem_singleton.mp hp]
      exact Nat.lt_trans (l1a q hq) l1e.2.2.1
    · intro p hp
      rcases List.mem_cons.mp hp with rfl | hp
      · exact .head _
      · exact .tail _ (hnm p hp)
end Mine
end
section
open PySem PySem.W PyProof.Rows PySem.Calls PySem.Spec
namespace Mine
theorem byteArr_cast (V : List Nat) : byteArr (cast V) = (V.map Nat.toUInt8).toArray := by
  unfold byteArr cast
  rw [List.map_map]
  congr 1
theorem up_same {ys : List Nat} (h : ∀ x ∈ ys, x < 16) : ((byteArr (cast (ys.map hexU))).toList.map Builtin.Bytes.toUpper).toArray = byteArr (cast (ys.map hexU)) := by
  rw [byteArr_cast]
  congr 1
  simp only [List.map_map]
  apply List.map_congr_left
  intro x hx
  have hk : ∀ x : Fin 16, Builtin.Bytes.toUpper (Nat.toUInt8 (hexU x.val)) = Nat.toUInt8 (hexU x.val) := by decide +kernel
  exact hk ⟨x, h x hx⟩
theorem low_hex {ys : List Nat} (h : ∀ x ∈ ys, x < 16) : Txt.lower ⟨(ys.map hexU).toArray⟩ = ⟨(ys.map Builtin.Bytes.hexDigit).toArray⟩ := by
  have hk : ∀ x : Fin 16, lo1 (hexU x.val) = Builtin.Bytes.hexDigit x.val := by decide +kernel
  rw [lower_ascii (x := ⟨(ys.map hexU).toArray⟩) (by
    intro c hc
    have hc : c ∈ ys.map hexU := hc
    obtain ⟨y, hy, rfl⟩ := List.mem_map.mp hc
    have := h y hy; unfold hexU; split <;> omega)]
  show Str.mk _ = Str.mk _
  congr 1
  show (ys.map hexU).toArray.map lo1 = _
  rw [List.map_toArray, List.map_map]
  congr 1
  apply List.map_congr_left
  intro x hx
  exact hk ⟨x, h x hx⟩
theorem join_chars : ∀ (l : List Nat), Txt.join (Str.ofString "") (l.map fun c => (⟨#[c]⟩ : Str)) = ⟨l.toArray⟩ := by
  intro l
  show Builtin.Str.glued _ _ = _
  rw [StrLaws.glued_eq_join]
  induction l with
  | nil => rfl
  | cons a r ih =>
    cases r with
    | nil => rfl
    | cons b r =>
      have e : Str.join (Str.ofString "") ((a :: b :: r).map fun c => (⟨#[c]⟩ : Str)) = ⟨#[a]⟩ ++ Str.ofString "" ++ Str.join (Str.ofString "") ((b :: r).map fun c => (⟨#[c]⟩ : Str)) := rfl
      rw [e, ih]
      show Str.mk _ = Str.mk _
      congr 1
      show #[a] ++ (Str.ofString "").cps ++ (b :: r).toArray = _
      have e0 : (Str.ofString "").cps = #[] := by decide +kernel
      rw [e0]
      simp
theorem joinOk_chars {l : List Nat} (hl : l.length ≤ 1000) : JoinOk (Str.ofString "") (l.map fun c => (⟨#[c]⟩ : Str)) = true := by
  refine joinOk_of ?_
  have h2 : (Str.ofString "").length = 0 := by decide +kernel
  have h1 : ((l.map fun c => (⟨#[c]⟩ : Str)).map (·.length)).sum = l.length := by
    clear hl
    induction l with
    | nil => rfl
    | cons a r ih =>
      simp only [List.map_cons, List.sum_cons, List.length_cons]
      rw [ih]
      show 1 + _ = _
      omega
  rw [h1, h2]
  omega
theorem strs_of_all {ss : List Value} {ts : List Str} (hl : ss.length = ts.length) (h : ∀ (i : Nat) y, ss[i]? = some y → ∃ t, y = .str (ts.getD i Str.empty) t) : ∃ l : List (Str × Tok), ss = strValues l ∧ l.map (·.1) = ts := by
  induction ts generalizing ss with
  | nil =>
    have : ss = [] := by simpa using hl
    subst this; exact ⟨[], rfl, rfl⟩
  | cons n r ih =>
    cases ss with
    | nil => simp at hl
    | cons y ss =>
      obtain ⟨t, e⟩ := h 0 y rfl
      obtain ⟨l, e1, e2⟩ := ih (ss := ss) (by simpa using hl) (fun i y' hy' => by
        have := h (i + 1) y' (by simpa using hy')
        simpa using this)
      refine ⟨(n, t) :: l, ?_, by rw [List.map_cons, e2]⟩
      rw [e, e1]; rfl
theorem rev_cast (V : List Nat) : (byteArr (cast V)).toList.reverse.toArray = byteArr (cast V.reverse) := by
  rw [byteArr_cast, byteArr_cast, List.map_reverse]
end Mine
end
section
open PySem PySem.W PyProof.Rows PySem.Calls PySem.Spec
namespace Mine
theorem wordsOf_len (ps : List Int) (wanted : Int) (n : Nat) : (wordsOf ps wanted n).length ≤ n := by
  unfold wordsOf
  rw [List.length_map]
  exact Nat.le_trans (List.length_filter_le ..) (by simp)
theorem pfGo_fit {x : Int} (hx : x.natAbs < 2 ^ 200) : (pfGo 32 0 x []).length ≤ 100 ∧ ∀ y ∈ pfGo 32 0 x [], y.length ≤ 200 := by
  by_cases h0 : x = 0
  · subst h0
    rw [pfGo_zero]
    refine ⟨by decide, fun y hy => ?_⟩
    rw [List.mem_singleton.mp hy]
    have := hexT_len (x := 0) (by decide)
    omega
  · rw [pfGo_some h0]
    have hb : (bitWords x 0 32).length ≤ 32 := by
      unfold bitWords
      rw [List.length_map]
      exact Nat.le_trans (List.length_filter_le ..) (by simp)
    have ht : (tailP x).length ≤ 1 := by unfold tailP; split <;> simp
    refine ⟨by rw [List.length_append]; omega, fun y hy => ?_⟩
    rcases List.mem_append.mp hy with hy | hy
    · unfold bitWords at hy
      obtain ⟨j, hj, rfl⟩ := List.mem_map.mp hy
      have hj := (List.mem_filter.mp hj).1
      rw [← List.range_eq_range'] at hj
      have := wordP_len (List.mem_range.mp hj)
      omega
    · unfold tailP at hy
      split at hy
      · exact absurd hy (by simp)
      · rw [List.mem_singleton.mp hy]
        have h7 : (2 : Nat) ^ 200 + 4294967296 < 16 ^ 90 := by decide
        have := hexT_len (x := 2 ^ 32 * (x / 2 ^ 32)) (by
          rw [show (2 : Int) ^ 32 = 4294967296 by decide]
          omega)
        omega
section
variable {prog : Program} {w : World} {A : Around} {E : Value → Shared → Prop} {s : Shared} {t u : Tok} {Q : Value → Shared → Prop}
theorem ne_int_same {a b : Int} (e : a = b) (h : Q (.bool false) s) : wpAny (model prog w) A (compareOp .NotEq (.int a t) (.int b u)) Q E s := by
  subst e
  refine PyProof.Rows.ne_int ?_
  simpa using h
theorem ne_bytes_same {a : Array UInt8} (h : Q (.bool false) s) : wpAny (model prog w) A (compareOp .NotEq (.bytes a t) (.bytes a u)) Q E s := by
  refine ne_bytes ?_
  simpa using h
end
end Mine
end
section
open PySem PySem.W PyProof.Rows
namespace Mine
local macro_rules | `(tactic| walk_at "call ref") => `(tactic| (k_here; (with_reducible show wpAny _ _ (call (Value.ref _) (_ :: _)) _ _ _); refine stop_intro ?_))
local macro_rules | `(tactic| walk_at "call type:enumerate") => `(tactic| (k_here; refine stop_intro ?_))
local macro_rules | `(tactic| walk_at "call type:enumerate cons nil") => `(tactic| (k_here; refine stop_intro ?_))
local macro_rules | `(tactic| walk_at "call type:bytes") => `(tactic| (k_here; refine stop_intro ?_))
local macro_rules | `(tactic| walk_at "call type:bytes cons nil") => `(tactic| (k_here; refine stop_intro ?_))
local macro_rules | `(tactic| walk_at "exec Assign cons ListComp") => `(tactic| (k_here; (with_reducible show wpAny _ _ (exec (Stmt.Assign _ (PySem.Expr.ListComp (PySem.Expr.Name _ _) _ _ _) _) _) _ _ _); refine stop_intro ?_))
local macro_rules | `(tactic| walk_at "subscriptTail Name Slice ref ref") => `(tactic| (k_here; (with_reducible show wpAny _ _ (subscriptTail _ (PySem.Expr.Slice none (some (PySem.Expr.BinOp _ _ _ _)) none _) (Value.ref _) (Value.ref _)) _ _ _); refine stop_intro ?_))
local macro_rules | `(tactic| walk_at "subscriptTail Name Slice ref ref") => `(tactic| (k_here; (with_reducible show wpAny _ _ (subscriptTail _ (PySem.Expr.Slice (some _) none none _) (Value.ref _) (Value.ref _)) _ _ _); refine stop_intro ?_))
local macro_rules | `(tactic| walk_at "call builtin:len") => `(tactic| (k_here; refine len_list (News.isList (by k_asm) (by k_mem)) (by (simp only [List.size_toArray]; omega)) ?_; (try simp only [List.size_toArray])))
local macro_rules | `(tactic| walk_at "eval ListComp") => `(tactic| (k_here; (with_reducible show wpAny _ _ (eval (Expr.ListComp _ _ _ _) _) _ _ _); refine stop_intro ?_))
local macro_rules | `(tactic| walk_at "binaryOp Pow int int") => `(tactic| (k_here; with_reducible refine pow_nat (by decide) (by omega) ?_))
local macro_rules | `(tactic| walk_at "binaryOp Add ref ref") => `(tactic| (k_here; refine stop_intro ?_))
local macro_rules | `(tactic| walk_at "exec If") => `(tactic| (k_here; (with_reducible show wpAny _ _ (exec (Stmt.If (Expr.Compare (Expr.Name _ _) _ _ _) _ _ _) _) _ _ _); refine stop_intro ?_))
local macro_rules | `(tactic| walk_at "binaryOp Add str str") => `(tactic| (k_here; refine stop_intro ?_))
local macro_rules | `(tactic| walk_at "eval IfExp") => `(tactic| (k_here; (with_reducible show wpAny _ _ (eval (PySem.Expr.IfExp _ _ _ _) _) _ _ _); refine stop_intro ?_))
local macro_rules | `(tactic| walk_at "pyIter ref") => `(tactic| (k_here; refine stop_intro ?_))
local macro_rules | `(tactic| walk_at "compareOp NotEq int int") => `(tactic| (k_here; refine stop_intro ?_))
local macro_rules | `(tactic| walk_at "compareOp NotEq bytes bytes") => `(tactic| (k_here; refine stop_intro ?_))
local macro_rules | `(tactic| walk_at "compareOp Eq ref ref") => `(tactic| (k_here; (with_reducible show wpAny _ _ (compareOp _ (Value.ref _) (Value.ref _)) _ _ _); refine stop_intro ?_))
theorem drawn_of (ns : List Int) (a b : Nat) : ∃ os : List Nat, List.map (fun k' : Int => k'.fmod 256) (List.take a (List.drop b ns)) = cast os ∧ (∀ o ∈ os, o < 256) ∧ os.length ≤ a := by
  refine ⟨(List.take a (List.drop b ns)).map fun x => (x % 256).toNat, ?_, ?_, ?_⟩
  · unfold cast
    rw [List.map_map]
    congr 1
    funext x
    rw [Int.fmod_eq_emod_of_nonneg _ (by decide)]
    simp only [Function.comp]
    omega
  · intro o ho
    obtain ⟨x, _, rfl⟩ := List.mem_map.mp ho
    omega
  · simp; omega
theorem alt_of (n : Int) : ∃ a0 a1 : Nat, n.fmod 256 = (a0 : Int) ∧ (n.fdiv 256).fmod 256 = (a1 : Int) ∧ a0 < 256 ∧ a1 < 256 := by
  rw [Int.fmod_eq_emod_of_nonneg _ (by decide), Int.fmod_eq_emod_of_nonneg _ (by decide), Int.fdiv_eq_ediv_of_nonneg _ (by decide)]
  exact ⟨(n % 256).toNat, (n / 256 % 256).toNat, by omega, by omega, by omega, by omega⟩
/-- an expression's end: an int; the ledger as it was -/
def IEndH (h₀ : Heap) (L : Addr) (m : Str → Option Value) (s : Shared) (n : Int) (v : Value) (s₁ : Shared) : Prop :=
  ∃ tv h' tk', v = .int n tv ∧ s₁ = { s with heap := h', toks := tk' } ∧ Fr h₀ L h' m
theorem IEndH.intro {h₀ : Heap} {L : Addr} {m : Str → Option Value} {s : Shared} {n n' : Int} {tv : Tok} {h' : Heap} {tk' : Nat} (e : n' = n) (F : Fr h₀ L h' m) : IEndH h₀ L m s n (.int n' tv) { s with heap := h', toks := tk' } :=
  ⟨tv, h', tk', by rw [e], rfl, F⟩
theorem by_intH {M : Model} {A : Around} {t : Sem Value} {Q : Value → Shared → Prop} {E : Value → Shared → Prop} {s : Shared} {h₀ : Heap} {L : Addr} {m : Str → Option Value} (F : Fr h₀ L s.heap m) (n : Int)
    (h1 : wpAny M A t (IEndH h₀ L m s n) (fun _ _ => False) s) (h2 : ∀ tv h' tk', Fr h₀ L h' m → Q (.int n tv) { s with heap := h', toks := tk' }) : wpAny M A t Q E s :=
  wpAny_mono h1 (fun v s₁ ⟨tv, h', tk', e1, e2, F'⟩ => by subst e1; subst e2; exact h2 tv h' tk' F') fun _ _ e => e.elim
theorem news_nil {h₀ : Heap} {L : Addr} {h : Heap} {m : Str → Option Value} (F : Fr h₀ L h m) : News h₀ L h [] := fun p hp => nomatch hp
theorem head_getD {ns : List Int} (h : ns ≠ []) : ns.getD (Int.toNat 0) 0 = ns.headD 11615 := by
  cases ns with
  | nil => exact absurd rfl h
  | cons a r => rfl
theorem fr_loc {h₀ h : Heap} {m : Str → Option Value} {cn : Str} {cs : Scope} {L a : Addr} {ccd : Value} (F : Fr h₀ (envOf cn cs L a ccd).locals h m) : Fr h₀ L h m := F
theorem news_loc {h₀ h : Heap} {l : List (Addr × Obj)} {cn : Str} {cs : Scope} {L a : Addr} {ccd : Value} (N : News h₀ (envOf cn cs L a ccd).locals h l) : News h₀ L h l := N
theorem news_two {h₀ h : Heap} {L : Addr} {rest : List (Addr × Obj)} {a b : Addr × Obj} (N : News h₀ L h rest) (h1 : a ∈ rest) (h2 : b ∈ rest) : News h₀ L h (a :: b :: rest) := fun p hp => N p (by
  rcases List.mem_cons.mp hp with rfl | hp
  · exact h1
  · rcases List.mem_cons.mp hp with rfl | hp
    · exact h2
    · exact hp)
theorem cast_in {os : List Nat} (h : ∀ o ∈ os, o < 256) : ∀ n ∈ cast os, 0 ≤ n ∧ n < 256 := fun n hn => by
  obtain ⟨q, hq, rfl⟩ := List.mem_map.mp hn
  have := h q hq
  omega
theorem news_gen {h₀ : Heap} {L : Addr} {h : Heap} {l : List (Addr × Obj)} (N : News h₀ L h l) : ∃ l', l' = l ∧ News h₀ L h l' := ⟨l, rfl, N⟩
theorem rows_of {D D₂ : Addr} {i : Nat} {v : Value} {dr : List Nat} {ys vs₂ : List Value} {NW : List (Addr × Obj)} (hv : (#[Value.ref D, Value.ref D₂] : Array Value)[i]? = some v) (m2 : (D₂, listOf vs₂.toArray 0) ∈ NW) (m3 : (D, listOf ys.toArray ys.length) ∈ NW)
    (hI : IntsAre ys (cast dr)) (hI₂ : IntsAre vs₂ (cast ([1, 173, 62, 255] ++ dr))) (hdl : ∀ o ∈ dr, o < 256) (hdn : dr.length ≤ 8) :
    ∃ (lo : Addr) (os : List Nat) (its : List Value) (kl : Nat), v = .ref lo ∧ (lo, listOf its.toArray kl) ∈ NW ∧ IntsAre its (cast os) ∧ (∀ o ∈ os, o < 256) ∧ os.length ≤ 12 := by
  match i with
  | 0 => exact ⟨D, dr, ys, _, by simpa using hv.symm, m3, hI, hdl, by omega⟩
  | 1 =>
    refine ⟨D₂, _, vs₂, _, by simpa using hv.symm, m2, hI₂, fun o ho => ?_, by simp; omega⟩
    rcases List.mem_append.mp ho with ho | ho
    · have : ∀ o ∈ [1, 173, 62, 255], o < 256 := by decide
      exact this o ho
    · exact hdl o ho
  | i + 2 => simp at hv
theorem tt : PySem.Challenge.rw_oc0012_02.Holds := by
  w_on
  refine Mine.hd ?_
  w_strict (k_go0; (all_goals try k_fold))
  rename List Int => ns
  (first | ((focus first | (k_unfold; (try dsimp only)) | (k_end; wrow_close) | walk1 | (dsimp only; walk1) | (leave1; walk_say "STEP leave1"; try dsimp only)); (first | ((focus first | (k_unfold; (try dsimp only)) | (k_end; wrow_close) | walk1 | (dsimp only; walk1) | (leave1; walk_say "STEP leave1"; try dsimp only)); (first | ((focus first | (k_unfold; (try dsimp only)) | (k_end; wrow_close) | walk1 | (dsimp only; walk1) | (leave1; walk_say "STEP leave1"; try dsimp only)); (first | ((focus first | (k_unfold; (try dsimp only)) | (k_end; wrow_close) | walk1 | (dsimp only; walk1) | (leave1; walk_say "STEP leave1"; try dsimp only)); (first | ((focus first | (k_unfold; (try dsimp only)) | (k_end; wrow_close) | walk1 | (dsimp only; walk1) | (leave1; walk_say "STEP leave1"; try dsimp only)); (first | ((focus first | (k_unfold; (try dsimp only)) | (k_end; wrow_close) | walk1 | (dsimp only; walk1) | (leave1; walk_say "STEP leave1"; try dsimp only)); (first | ((focus first | (k_unfold; (try dsimp only)) | (k_end; wrow_close) | walk1 | (dsimp only; walk1) | (leave1; walk_say "STEP leave1"; try dsimp only)); (first | ((focus first | (k_unfold; (try dsimp only)) | (k_end; wrow_close) | walk1 | (dsimp only; walk1) | (leave1; walk_say "STEP leave1"; try dsimp only)); (first | ((focus first | (k_unfold; (try dsimp only)) | (k_end; wrow_close) | walk1 | (dsimp only; walk1) | (leave1; walk_say "STEP leave1"; try dsimp only)); (first | ((focus first | (k_unfold; (try dsimp only)) | (k_end; wrow_close) | walk1 | (dsimp only; walk1) | (leave1; walk_say "STEP leave1"; try dsimp only)); (first | ((focus first | (k_unfold; (try dsimp only)) | (k_end; wrow_close) | walk1 | (dsimp only; walk1) | (leave1; walk_say "STEP leave1"; try dsimp only)); (first | ((focus first | (k_unfold; (try dsimp only)) | (k_end; wrow_close) | walk1 | (dsimp only; walk1) | (leave1; walk_say "STEP leave1"; try dsimp only)); (first | ((focus first | (k_unfold; (try dsimp only)) | (k_end; wrow_close) | walk1 | (dsimp only; walk1) | (leave1; walk_say "STEP leave1"; try dsimp only)); (first | ((focus first | (k_unfold; (try dsimp only)) | (k_end; wrow_close) | walk1 | (dsimp only; walk1) | (leave1; walk_say "STEP leave1"; try dsimp only)); (first | ((focus first | (k_unfold; (try dsimp only)) | (k_end; wrow_close) | walk1 | (dsimp only; walk1) | (leave1; walk_say "STEP leave1"; try dsimp only)); (first | ((focus first | (k_unfold; (try dsimp only)) | (k_end; wrow_close) | walk1 | (dsimp only; walk1) | (leave1; walk_say "STEP leave1"; try dsimp only)); (first | ((focus first | (k_unfold; (try dsimp only)) | (k_end; wrow_close) | walk1 | (dsimp only; walk1) | (leave1; walk_say "STEP leave1"; try dsimp only)); (first | ((focus first | (k_unfold; (try dsimp only)) | (k_end; wrow_close) | walk1 | (dsimp only; walk1) | (leave1; walk_say "STEP leave1"; try dsimp only)); (first | ((focus first | (k_unfold; (try dsimp only)) | (k_end; wrow_close) | walk1 | (dsimp only; walk1) | (leave1; walk_say "STEP leave1"; try dsimp only)); (first | ((focus first | (k_unfold; (try dsimp only)) | (k_end; wrow_close) | walk1 | (dsimp only; walk1) | (leave1; walk_say "STEP leave1"; try dsimp only)); (first | ((focus first | (k_unfold; (try dsimp only)) | (k_end; wrow_close) | walk1 | (dsimp only; walk1) | (leave1; walk_say "STEP leave1"; try dsimp only)); (first | ((focus first | (k_unfold; (try dsimp only)) | (k_end; wrow_close) | walk1 | (dsimp only; walk1) | (leave1; walk_say "STEP leave1"; try dsimp only)); (first | ((focus first | (k_unfold; (try dsimp only)) | (k_end; wrow_close) | walk1 | (dsimp only; walk1) | (leave1; walk_say "STEP leave1"; try dsimp only)); (first | ((focus first | (k_unfold; (try dsimp only)) | (k_end; wrow_close) | walk1 | (dsimp only; walk1) | (leave1; walk_say "STEP leave1"; try dsimp only)); (first | ((focus first | (k_unfold; (try dsimp only)) | (k_end; wrow_close) | walk1 | (dsimp only; walk1) | (leave1; walk_say "STEP leave1"; try dsimp only)); (first | ((focus first | (k_unfold; (try dsimp only)) | (k_end; wrow_close) | walk1 | (dsimp only; walk1) | (leave1; walk_say "STEP leave1"; try dsimp only)); (first | ((focus first | (k_unfold; (try dsimp only)) | (k_end; wrow_close) | walk1 | (dsimp only; walk1) | (leave1; walk_say "STEP leave1"; try dsimp only)); (first | ((focus first | (k_unfold; (try dsimp only)) | (k_end; wrow_close) | walk1 | (dsimp only; walk1) | (leave1; walk_say "STEP leave1"; try dsimp only)); (first | ((focus first | (k_unfold; (try dsimp only)) | (k_end; wrow_close) | walk1 | (dsimp only; walk1) | (leave1; walk_say "STEP leave1"; try dsimp only)); (first | ((focus first | (k_unfold; (try dsimp only)) | (k_end; wrow_close) | walk1 | (dsimp only; walk1) | (leave1; walk_say "STEP leave1"; try dsimp only)); skip) | skip)) | skip)) | skip)) | skip)) | skip)) | skip)) | skip)) | skip)) | skip)) | skip)) | skip)) | skip)) | skip)) | skip)) | skip)) | skip)) | skip)) | skip)) | skip)) | skip)) | skip)) | skip)) | skip)) | skip)) | skip)) | skip)) | skip)) | skip)) | skip)) | skip)
  rename Fr _ _ _ _ => F₀
  show wpAny _ _ _ _ _ _
  refine by_intH F₀ (ns.headD 11615) ?_ ?_
  · refine wpAny_IfExp ?_
    (repeat (focus first | (k_unfold; (try dsimp only)) | (k_end; wrow_close) | walk1 | (dsimp only; walk1) | (leave1; walk_say "STEP leave1"; try dsimp only)))
    · rename (decide (ns = []) = true) => hz
      rename Fr _ _ _ _ => Fz
      exact IEndH.intro (by rw [of_decide_eq_true hz]; rfl) Fz
    · rename (decide (ns = []) = false) => hz
      have hz1 : ns ≠ [] := of_decide_eq_false hz
      have hz2 : 0 < ns.length := List.length_pos_iff.mpr hz1
      (repeat (focus first | (k_unfold; (try dsimp only)) | (k_end; wrow_close) | walk1 | (dsimp only; walk1) | (leave1; walk_say "STEP leave1"; try dsimp only)))
      rename Fr _ _ _ _ => Fz
      exact IEndH.intro (head_getD hz1) Fz
  intro tn h₁ tk₁ F₁
  have N₁ := news_nil F₁
  generalize ns.headD 11615 = nn at *
  obtain ⟨a0, a1, ha0, ha1, hb0, hb1⟩ := alt_of nn
  obtain ⟨dr, hdr, hdl, hdn⟩ := drawn_of ns (min 9 ns.length - 1) 1
  (repeat (focus first | (k_unfold; (try dsimp only)) | (k_end; wrow_close) | walk1 | (dsimp only; walk1) | (leave1; walk_say "STEP leave1"; try dsimp only)))
  show wpAny _ _ _ _ _ _
  rename IntsAre _ (List.map _ _) => hI
  rw [hdr] at hI
  rename Fr _ _ _ _ => F₂
  rename News _ _ _ _ => N₂
  rename_i la hqB l1a hqC Ds ws h1b hT1 hT2 hT3 hT4 hk1 hk2 g1 hL8 D h1c tk1 ho1 l2 h1d hl2
  have hyl : ys.length = dr.length := by rw [hI.length, cast_length]
  have hdn : dr.length ≤ 8 := by omega
  clear hT1 hT2 hT3 hk1 hk2 hL8 hdr
  refine kmk_add_ints (ns := [1, 173, 62, 255]) (ms := cast dr) F₂ N₂ (News.isList N₂ (.head _)) (News.isList N₂ (.tail _ (.head _))) (by l_ints) hI ?_ (by rw [cast_length, sizeLine_eq]; show 4 + dr.length ≤ _; omega)
  intro D₂ vs₂ h₂ F₃ N₃ lD₂ hI₂
  (repeat (focus first | (k_unfold; (try dsimp only)) | (k_end; wrow_close) | walk1 | (dsimp only; walk1) | (leave1; walk_say "STEP leave1"; try dsimp only)))
  show wpAny _ _ _ _ _ _
  rename Fr _ _ _ _ => F₄
  rename News _ _ _ _ => N₄
  rename_i lf _ _
  have hI₂ : IntsAre vs₂ (cast ([1, 173, 62, 255] ++ dr)) := by rw [cast_append]; exact hI₂
  rw [ha0, ha1] at N₄
  obtain ⟨NW, hNW, N₅⟩ := news_gen N₄
  have m1 : (lf, listOf #[Value.ref D, Value.ref D₂] 0) ∈ NW := by rw [hNW]; exact .head _
  have m2 : (D₂, listOf vs₂.toArray 0) ∈ NW := by rw [hNW]; exact .tail _ (.head _)
  have m3 : (D, listOf ys.toArray ys.length) ∈ NW := by rw [hNW]; exact .tail _ (.tail _ (.tail _ (.head _)))
  obtain ⟨ita, m4, hita⟩ : ∃ ita : List Value, (la, listOf ita.toArray 0) ∈ NW ∧ IntsAre ita (cast [a0, a1]) :=
    ⟨[_, _], by rw [hNW]; exact .tail _ (.tail _ (.tail _ (.tail _ (.tail _ (.head _))))), .cons _ _ (.cons _ _ .nil)⟩
  clear hNW N₄ lD₂
  refine listV_rule (its := #[.ref D, .ref D₂]) rfl F₄ N₅ m1 ⟨rfl, _, rfl⟩ (fun i m₁ news₁ => news₁ = NW ∧ ∃ u : Str → Option Value, m₁ = (fun y => if y = Str.ofString "altchars" then some (.ref la) else u y)) ⟨rfl, _, up1 rfl⟩ (fun i m₁ news₁ h => h.1 ▸ m1) ?_ ?_
  · rintro i v m₁ news₁ h tk I oI hv ⟨rfl, u, rfl⟩ hadr hI' F₆ N₆
    obtain ⟨lo, os, its, kl, rfl, hmo, hits, hos, hol⟩ := rows_of hv m2 m3 hI hI₂ hdl hdn
    have hal : ∀ o ∈ [a0, a1], o < 256 := fun o ho => by
      rcases List.mem_cons.mp ho with rfl | ho
      · exact hb0
      · rw [List.mem_singleton.mp ho]; exact hb1
    have hitl : its.length = os.length := by rw [hits.length, cast_length]
    have hwl := wr_length os a0 a1
    have hw4 := wr_four os a0 a1
    have hwt := wr_lt (os := os) hb0 hb1
    have hw16 : (wr os a0 a1).length ≤ 16 := by rw [hwl]; unfold shortOf; omega
    have htr := tr_eq os hb0 hb1
    have hb64 : b64B (byteArr (cast os)) = byteArr (cast (b64L os)) := by unfold b64B natsOf; rw [nats_byteArr hos]; rfl
    rw [← hb64] at htr
    generalize hW : wr os a0 a1 = W at hwl hw4 hwt hw16 htr
    have F₇ := fr_loc F₆
    have N₇ := news_loc N₆
    have hmo' : (lo, listOf its.toArray kl) ∈ news₁ ++ [(I, oI)] := List.mem_append_left _ hmo
    have hma' : (la, listOf ita.toArray 0) ∈ news₁ ++ [(I, oI)] := List.mem_append_left _ m4
    generalize hre : news₁ ++ [(I, oI)] = rest at N₇ hmo' hma'
    have N₈ := news_two N₇ hmo' hma'
    clear F₆ N₆ N₇ F₄ N₅ hv hadr hI hI₂ hdl hdn m1 m2 m3
    (repeat (focus first | (k_unfold; (try dsimp only)) | (k_end; wrow_close) | walk1 | (dsimp only; walk1) | (leave1; walk_say "STEP leave1"; try dsimp only)))
    show wpAny _ _ _ _ _ _
    refine KBa.make_K F₇ N₈ rfl (News.isList N₈ (.head _)) hits (cast_in hos) (by rw [cast_length]; omega) ?_
    intro h₉ t₉ k₉ F₉ N₉ _
    (repeat (focus first | (k_unfold; (try dsimp only)) | (k_end; wrow_close) | walk1 | (dsimp only; walk1) | (leave1; walk_say "STEP leave1"; try dsimp only)))
    show wpAny _ _ _ _ _ _
    refine KBa.make_K F₉ N₉ rfl (News.isList N₉ (.tail _ (.head _))) hita (cast_in hal) (by rw [cast_length]; simp) ?_
    intro h₁₀ t₁₀ k₁₀ F₁₀ N₁₀ _
    (repeat (focus first | (k_unfold; (try dsimp only)) | (k_end; wrow_close) | walk1 | (dsimp only; walk1) | (leave1; walk_say "STEP leave1"; try dsimp only)))
    show wpAny _ _ _ _ _ _
    refine b64_call _ _ _ _ _ _ _ (by rw [byteArr_cast_size]; omega) _ _ (by rw [byteArr_cast_size]; rfl) _ _ _ _ _ _ _ _ _ _ _ (by k_asm) F₁₀ (by k_asm) N₁₀ (by k_asm) rfl ?_
    rintro v tl h₁₁ k₁₁ ⟨rfl, t₁₁, rfl⟩ _ F₁₁ N₁₁
    rw [htr]
    rw [List.nil_append] at N₁₁
    (repeat (focus first | (k_unfold; (try dsimp only)) | (k_end; wrow_close) | walk1 | (dsimp only; walk1) | (leave1; walk_say "STEP leave1"; try dsimp only)))
    show wpAny _ _ _ _ _ _
    rename Fr _ _ _ _ => F₁₂
    rename News _ _ _ _ => N₁₂
    refine signs_call _ _ _ _ _ os hos hol a0 a1 hb0 hb1 lo la its ita kl 0 (.head _) (.tail _ (.head _)) hits hita _ _ _ _ _ _ _ _ _ _ _ (by k_asm) F₁₂ (by k_asm) N₁₂ (by k_asm) rfl ?_
    rintro v tl h₁₃ k₁₃ ⟨lS, vS, kS, rfl, rfl, hS⟩ hltS F₁₃ N₁₃
    rw [List.cons_append, List.nil_append] at N₁₃
    rw [hW] at hS
    have hSl : vS.length = W.length := by rw [hS.length, cast_length]
    (repeat (focus first | (k_unfold; (try dsimp only)) | (k_end; wrow_close) | walk1 | (dsimp only; walk1) | (leave1; walk_say "STEP leave1"; try dsimp only)))
    show wpAny _ _ _ _ _ _
    rename Fr _ _ _ _ => F₁₄
    rename News _ _ _ _ => N₁₄
    w_strict (k_dflt (refine ListComp_W F₁₄ (by with_unfolding_all rfl) (by decide) (by rfl) (by decide) (by rfl) ?_))
    (repeat (focus first | (k_unfold; (try dsimp only)) | (k_end; wrow_close) | walk1 | (dsimp only; walk1) | (leave1; walk_say "STEP leave1"; try dsimp only)))
    refine srcW_bytes rfl F₁₄ N₁₄ (by rw [byteArr_cast_size, sizeLine_eq]; omega) ?_
    intro g
    refine rest_gen (fun j y => ∃ t, y = .int ((cast W).getD j 0) t) ?_ ?_
    · rintro j v I₂ oI₂ C oC D₃ m₂ ys₂ h₂ tk₂ E' hj ⟨c, t₂, hc, rfl⟩ hC hxv F₂ N₂ off ne
      obtain ⟨y, hy, hcy⟩ := byteArr_get hwt hc
      have hv : ((c.toNat : Nat) : Int) = (cast W).getD j 0 := by
        unfold cast
        rw [hcy, List.getD_eq_getElem?_getD, List.getElem?_map, hy]; rfl
      (repeat (focus first | (k_unfold; (try dsimp only)) | (k_end; wrow_close) | walk1 | (dsimp only; walk1) | (leave1; walk_say "STEP leave1"; try dsimp only)))
      exact LCg.CompEnd.intro F₂ N₂ _ (fun p hp => hp) off trivial ⟨rfl, _, congrArg (fun z => Value.int z _) hv⟩
    intro ss hsl hsg D₁ h₁₅ tk₁₅ F₁₅ N₁₅ off₁₅
    have hss : IntsAre ss (cast W) := ints_of_all (by rw [hsl, byteArr_cast_size, cast_length]) hsg
    clear hsg off₁₅
    (repeat (focus first | (k_unfold; (try dsimp only)) | (k_end; wrow_close) | walk1 | (dsimp only; walk1) | (leave1; walk_say "STEP leave1"; try dsimp only)))
    show wpAny _ _ _ _ _ _
    rename Fr _ _ _ _ => F₁₆
    rename News _ _ _ _ => N₁₆
    w_strict (k_dflt (refine kmk_slice_ints F₁₆ N₁₆ (News.isList N₁₆ (.tail _ (.head _))) (IsPart.int _ _) .none hS (kmk_from_neg hS (by decide)) rfl ?_ (by with_unfolding_all rfl) (by kmk_pure) (by rw [List.size_toArray, sizeLine_eq]; omega)))
    intro DT vT h₁₇ F₁₇ N₁₇ lDT hT _ _
    have hT : IntsAre vT (cast (W.drop (W.length - 4))) := by
      rw [← cast_drop, ← cast_length W]; exact hT
    (repeat (focus first | (k_unfold; (try dsimp only)) | (k_end; wrow_close) | walk1 | (dsimp only; walk1) | (leave1; walk_say "STEP leave1"; try dsimp only)))
    show wpAny _ _ _ _ _ _
    refine words2_call _ _ _ _ _ (W.drop (W.length - 4)) (fun x hx => hwt x (List.mem_of_mem_drop hx)) (by rw [List.length_drop]; omega) DT vT 0 (.head _) hT _ _ _ _ _ _ _ _ _ _ _ (by k_asm) F₁₇ (by k_asm) N₁₇ (by k_asm) rfl ?_
    rintro v tl h₁₈ k₁₈ ⟨lW, ws, kw, rfl, rfl, hw⟩ hltW F₁₈ N₁₈
    rw [List.cons_append, List.nil_append] at N₁₈
    have N₁₈ : News _ _ _ ((lW, listOf (strValues ws).toArray kw) :: rest) := fun p hp => N₁₈ p (by
      rcases List.mem_cons.mp hp with rfl | hp
      · exact .head _
      · exact .tail _ (.tail _ (.tail _ (.tail _ (.tail _ (.tail _ hp))))))
    have hrW : ∀ p ∈ rest, p.1 ≠ lW := fun p hp => Nat.ne_of_lt (hltW _ (.head _) p (.tail _ (.tail _ (.tail _ (.tail _ (.tail _ hp))))))
    have hVt : ∀ x ∈ W.take (W.length - 4), x < 256 := fun x hx => hwt x (List.mem_of_mem_take hx)
    have hVl : (W.take (W.length - 4)).length ≤ 16 := by rw [List.length_take]; omega
    have hVn := nats_byteArr hVt
    (repeat (focus first | (k_unfold; (try dsimp only)) | (k_end; wrow_close) | walk1 | (dsimp only; walk1) | (leave1; walk_say "STEP leave1"; try dsimp only)))
    show wpAny _ _ _ _ _ _
    rename Fr _ _ _ _ => F₁₉
    rename News _ _ _ _ => N₁₉
    refine KBc.slice_K (s := ⟨_, _, _, _, _⟩) F₁₉ N₁₉ (bInts_cast hwt) .none (IsPart.int _ _) (by rw [cast_length]; omega) ?_
    intro h₂₀ t₂₀ k₂₀ F₂₀ N₂₀ kc
    rw [cut_four hwt kc]
    clear kc
    (repeat (focus first | (k_unfold; (try dsimp only)) | (k_end; wrow_close) | walk1 | (dsimp only; walk1) | (leave1; walk_say "STEP leave1"; try dsimp only)))
    show wpAny _ _ _ _ _ _
    refine b16_call _ _ _ _ _ _ _ (by rw [byteArr_cast_size]; omega) _ _ _ _ _ _ _ _ _ _ _ (by k_asm) F₂₀ (by k_asm) N₂₀ (by k_asm) rfl ?_
    rintro v tl h₂₁ k₂₁ ⟨rfl, t₂₁, rfl⟩ _ F₂₁ N₂₁
    rw [hVn, b16_nib]
    rw [List.nil_append] at N₂₁
    (repeat (focus first | (k_unfold; (try dsimp only)) | (k_end; wrow_close) | walk1 | (dsimp only; walk1) | (leave1; walk_say "STEP leave1"; try dsimp only)))
    have hnl : (byteArr (cast ((nib (W.take (W.length - 4))).map hexU))).size = 2 * (W.take (W.length - 4)).length := by rw [byteArr_cast_size, List.length_map, nib_length]
    refine len_bytes (by rw [hnl]; omega) ?_
    rw [hnl]
    (repeat (focus first | (k_unfold; (try dsimp only)) | (k_end; wrow_close) | walk1 | (dsimp only; walk1) | (leave1; walk_say "STEP leave1"; try dsimp only)))
    show wpAny _ _ _ _ _ _
    rename Fr _ _ _ _ => F₂₂
    rename News _ _ _ _ => N₂₂
    refine KBc.slice_K (s := ⟨_, _, _, _, _⟩) F₂₂ N₂₂ (bInts_cast hwt) .none (IsPart.int _ _) (by rw [cast_length]; omega) ?_
    intro h₂₃ t₂₃ k₂₃ F₂₃ N₂₃ kc
    rw [cut_four hwt kc]
    clear kc
    (repeat (focus first | (k_unfold; (try dsimp only)) | (k_end; wrow_close) | walk1 | (dsimp only; walk1) | (leave1; walk_say "STEP leave1"; try dsimp only)))
    have hvl : (byteArr (cast (W.take (W.length - 4)))).size = (W.take (W.length - 4)).length := byteArr_cast_size _
    have e2 : (((2 * (W.take (W.length - 4)).length : Nat)) : Int) = 2 * (((W.take (W.length - 4)).length : Nat) : Int) := by push_cast; rfl
    refine len_bytes (by rw [hvl]; omega) ?_
    rw [hvl]
    (repeat (focus first | (k_unfold; (try dsimp only)) | (k_end; wrow_close) | walk1 | (dsimp only; walk1) | (leave1; walk_say "STEP leave1"; try dsimp only)))
    show wpAny _ _ _ _ _ _
    refine ne_int_same e2 ?_
    (repeat (focus first | (k_unfold; (try dsimp only)) | (k_end; wrow_close) | walk1 | (dsimp only; walk1) | (leave1; walk_say "STEP leave1"; try dsimp only)))
    refine upper_method ?_
    (repeat (focus first | (k_unfold; (try dsimp only)) | (k_end; wrow_close) | walk1 | (dsimp only; walk1) | (leave1; walk_say "STEP leave1"; try dsimp only)))
    refine upper_call (by rw [hnl]; omega) ?_
    intro t₂₄
    rw [up_same (nib_lt hVt)]
    (repeat (focus first | (k_unfold; (try dsimp only)) | (k_end; wrow_close) | walk1 | (dsimp only; walk1) | (leave1; walk_say "STEP leave1"; try dsimp only)))
    show wpAny _ _ _ _ _ _
    refine ne_bytes_same ?_
    (repeat (focus first | (k_unfold; (try dsimp only)) | (k_end; wrow_close) | walk1 | (dsimp only; walk1) | (leave1; walk_say "STEP leave1"; try dsimp only)))
    show wpAny _ _ _ _ _ _
    rename Fr _ _ _ _ => F₂₅
    rename News _ _ _ _ => N₂₅
    w_strict (k_dflt (refine ListComp_W F₂₅ (by with_unfolding_all rfl) (by decide) (by rfl) (by decide) (by rfl) ?_))
    (repeat (focus first | (k_unfold; (try dsimp only)) | (k_end; wrow_close) | walk1 | (dsimp only; walk1) | (leave1; walk_say "STEP leave1"; try dsimp only)))
    refine srcW_bytes rfl F₂₅ N₂₅ (by rw [hnl, sizeLine_eq]; omega) ?_
    intro g₂
    have hU : ∀ x ∈ (nib (W.take (W.length - 4))).map hexU, x < 256 := fun x hx => by
      obtain ⟨y, hy, rfl⟩ := List.mem_map.mp hx
      have := hexU_lt (nib_lt hVt y hy)
      omega
    refine rest_gen (fun j y => ∃ t, y = .str ((((nib (W.take (W.length - 4))).map hexU).map fun c => (⟨#[c]⟩ : Str)).getD j Str.empty) t) ?_ ?_
    · rintro j v I₂ oI₂ C oC D₃ m₂ ys₂ h₂ tk₂ E' hj ⟨c, t₂, hc, rfl⟩ hC hxv F₂ N₂ off ne
      obtain ⟨y, hy, hcy⟩ := byteArr_get hU hc
      have hv : (⟨#[((c.toNat : Nat) : Int).toNat]⟩ : Str) = (((nib (W.take (W.length - 4))).map hexU).map fun c => (⟨#[c]⟩ : Str)).getD j Str.empty := by
        rw [Int.toNat_natCast, hcy, List.getD_eq_getElem?_getD, List.getElem?_map, hy]; rfl
      have hc0 : (0 : Int) ≤ ((c.toNat : Nat) : Int) := by omega
      have hc1 : ((c.toNat : Nat) : Int) ≤ 1114111 := by have := c.toNat_lt; omega
      (repeat (focus first | (k_unfold; (try dsimp only)) | (k_end; wrow_close) | walk1 | (dsimp only; walk1) | (leave1; walk_say "STEP leave1"; try dsimp only)))
      exact LCg.CompEnd.intro F₂ N₂ _ (fun p hp => hp) off trivial ⟨rfl, _, congrArg (fun z => Value.str z _) hv⟩
    intro cs hcl hcg D₂₆ h₂₆ tk₂₆ F₂₆ N₂₆ off₂₆
    obtain ⟨cl, rfl, hct⟩ := strs_of_all (by rw [hcl, hnl, List.length_map, List.length_map, nib_length]) hcg
    have hjo := joinOk_chars (l := (nib (W.take (W.length - 4))).map hexU) (by rw [List.length_map, nib_length]; omega)
    clear hcg
    (repeat (focus first | (k_unfold; (try dsimp only)) | (k_end; wrow_close) | walk1 | (dsimp only; walk1) | (leave1; walk_say "STEP leave1"; try dsimp only)))
    show wpAny _ _ _ _ _ _
    refine SC.join (News.isList N₂₆ (.head _)) hct hjo ?_
    intro t₂₇ k₂₇
    rw [join_chars]
    (repeat (focus first | (k_unfold; (try dsimp only)) | (k_end; wrow_close) | walk1 | (dsimp only; walk1) | (leave1; walk_say "STEP leave1"; try dsimp only)))
    have hlow := low_hex (nib_lt hVt)
    have hnl2 : (nib (W.take (W.length - 4))).length ≤ 32 := by rw [nib_length]; omega
    refine SCL.lower (by show (((nib (W.take (W.length - 4))).map hexU).toArray).size ≤ _; rw [List.size_toArray, List.length_map]; omega) ?_
    intro t₂₈
    rw [hlow]
    (repeat (focus first | (k_unfold; (try dsimp only)) | (k_end; wrow_close) | walk1 | (dsimp only; walk1) | (leave1; walk_say "STEP leave1"; try dsimp only)))
    show wpAny _ _ _ _ _ _
    rename Fr _ _ _ _ => F₂₉
    rename News _ _ _ _ => N₂₉
    have N₃₀ : News _ _ _ ((lW, listOf (strValues ws).toArray kw) :: rest) := fun p hp => N₂₉ p (.tail _ hp)
    have hup := pf_wr hwt hw4
    rw [← hw] at hup
    have hahl : (aheadT (W.take (W.length - 4))).length ≤ 32 := by
      refine Nat.le_trans (len_lstripChars _ _) ?_
      show ((nib (W.take (W.length - 4))).map Builtin.Bytes.hexDigit).toArray.size ≤ _
      rw [List.size_toArray, List.length_map]; exact hnl2
    have hah : Txt.lstripChars ⟨((nib (W.take (W.length - 4))).map Builtin.Bytes.hexDigit).toArray⟩ (Str.ofString "0") = aheadT (W.take (W.length - 4)) := rfl
    rw [hah] at F₂₉
    generalize aheadT (W.take (W.length - 4)) = AH at F₂₉ hup hahl
    clear hah hlow hnl2 hjo hct N₂₉
    have hlw : ws.length ≤ 32 := by
      have := congrArg List.length hw
      rw [List.length_map] at this
      rw [this]
      refine Nat.le_trans (wordsOf_len _ _ _) ?_
      rw [List.length_drop]; omega
    refine mid_if F₂₉ N₃₀ (pfGo 32 0 ((num W : Nat) : Int) []) ?_ ?_
    · refine wpAny_If ?_
      (repeat (focus first | (k_unfold; (try dsimp only)) | (k_end; wrow_close) | walk1 | (dsimp only; walk1) | (leave1; walk_say "STEP leave1"; try dsimp only)))
      · rename (_ != _) = true => hne
        have hne : ¬ AH = Str.ofString "" := by simpa using hne
        refine PyProof.Rows.add_str ?_ (by rw [sizeLine_eq, show (Str.ofString "0x").length = 2 by decide +kernel]; omega)
        intro t₂ tk₂
        (repeat (focus first | (k_unfold; (try dsimp only)) | (k_end; wrow_close) | walk1 | (dsimp only; walk1) | (leave1; walk_say "STEP leave1"; try dsimp only)))
        refine PyProof.Rows.add_str ?_ (by rw [sizeLine_eq, Str.length_append, show (Str.ofString "0x").length = 2 by decide +kernel, show (Str.ofString "00000000").length = 8 by decide +kernel]; omega)
        intro t₃ tk₃
        (repeat (focus first | (k_unfold; (try dsimp only)) | (k_end; wrow_close) | walk1 | (dsimp only; walk1) | (leave1; walk_say "STEP leave1"; try dsimp only)))
        refine append_str F₂₉ N₃₀ hrW (by omega) ?_
        intro h₅ F₅ N₅
        (repeat (focus first | (k_unfold; (try dsimp only)) | (k_end; wrow_close) | walk1 | (dsimp only; walk1) | (leave1; walk_say "STEP leave1"; try dsimp only)))
        dsimp only
        refine MidE.intro F₅ N₅ ?_
        rw [hup, if_neg hne, List.map_append]; rfl
      · rename (_ != _) = false => hne
        have hne : AH = Str.ofString "" := by simpa using hne
        (repeat (focus first | (k_unfold; (try dsimp only)) | (k_end; wrow_close) | walk1 | (dsimp only; walk1) | (leave1; walk_say "STEP leave1"; try dsimp only)))
        show wpAny _ _ _ _ _ _
        refine wpAny_If ?_
        (repeat (focus first | (k_unfold; (try dsimp only)) | (k_end; wrow_close) | walk1 | (dsimp only; walk1) | (leave1; walk_say "STEP leave1"; try dsimp only)))
        show wpAny _ _ _ _ _ _
        rename Fr _ _ _ _ => F₃₁
        rename News _ _ _ _ => N₃₁
        by_cases hz : ws = []
        · subst hz
          refine eq_nil_list true (News.isList N₃₁ (.tail _ (.head _))) (News.isList N₃₁ (.head _)) (Nat.le_of_ble_eq_true rfl) (by rfl) ?_
          (repeat (focus first | (k_unfold; (try dsimp only)) | (k_end; wrow_close) | walk1 | (dsimp only; walk1) | (leave1; walk_say "STEP leave1"; try dsimp only)))
          rename Fr _ _ _ _ => F₃₂
          have N₃₂ : News _ _ _ ((lW, listOf (strValues []).toArray kw) :: rest) := fun p hp => N₃₁ p (.tail _ hp)
          refine append_str F₃₂ N₃₂ hrW (by omega) ?_
          intro h₅ F₅ N₅
          (repeat (focus first | (k_unfold; (try dsimp only)) | (k_end; wrow_close) | walk1 | (dsimp only; walk1) | (leave1; walk_say "STEP leave1"; try dsimp only)))
          dsimp only
          refine MidE.intro F₅ N₅ ?_
          rw [hup, if_pos hne]; rfl
        · refine eq_nil_list false (News.isList N₃₁ (.tail _ (.head _))) (News.isList N₃₁ (.head _)) (Nat.le_of_ble_eq_true rfl) (by simpa [strValues] using hz) ?_
          (repeat (focus first | (k_unfold; (try dsimp only)) | (k_end; wrow_close) | walk1 | (dsimp only; walk1) | (leave1; walk_say "STEP leave1"; try dsimp only)))
          have N₃₂ : News _ _ _ ((lW, listOf (strValues ws).toArray kw) :: rest) := fun p hp => N₃₁ p (.tail _ hp)
          refine MidE.intro F₃₁ N₃₂ ?_
          rw [hup, if_pos hne, if_neg (by simpa using hz), List.append_nil]
    · intro vw kv h₃₃ tk₃₃ hvw F₃₃ N₃₃
      clear hup hahl hrW hw hlw
      (repeat (focus first | (k_unfold; (try dsimp only)) | (k_end; wrow_close) | walk1 | (dsimp only; walk1) | (leave1; walk_say "STEP leave1"; try dsimp only)))
      show wpAny _ _ _ _ _ _
      rename Fr _ _ _ _ => F₃₄
      rename News _ _ _ _ => N₃₄
      w_strict (k_dflt (refine ListComp_E F₃₄ (by with_unfolding_all rfl) (by decide) (by rfl) (by decide) (by rfl) (by rfl) (by decide) rfl ?_))
      (repeat (focus first | (k_unfold; (try dsimp only)) | (k_end; wrow_close) | walk1 | (dsimp only; walk1) | (leave1; walk_say "STEP leave1"; try dsimp only)))
      refine rev_bytes (s := ⟨_, _, _, _, _⟩) F₃₄ N₃₄ (IsPart.int _ _) (by rw [byteArr_cast_size]; omega) ?_
      intro h₃₅ t₃₅ k₃₅ F₃₅ N₃₅
      rw [rev_cast]
      have hwr : ∀ x ∈ W.reverse, x < 256 := fun x hx => hwt x (List.mem_reverse.mp hx)
      have hrs : (byteArr (cast W.reverse)).size = W.length := by rw [byteArr_cast_size, List.length_reverse]
      (repeat (focus first | (k_unfold; (try dsimp only)) | (k_end; wrow_close) | walk1 | (dsimp only; walk1) | (leave1; walk_say "STEP leave1"; try dsimp only)))
      show wpAny _ _ _ _ _ _
      refine srcE_bytes rfl F₃₅ N₃₅ (by rw [hrs]; omega) (fun j p => p * 256 ^ j) ?_ ?_
      · intro j c t₃ t₄ C m₂ s₂ E' hc hns h1 h2
        have hj : j < 16 := by
          have := (Array.getElem?_eq_some_iff.mp hc).1
          rw [hrs] at this; omega
        have hn1 : (((c.toNat : Nat) : Int)).natAbs < 2 ^ 64 := by
          have := c.toNat_lt
          omega
        exact elt_mul_pow (by rfl) (by rfl) (by rfl) (by decide) (by decide) (by decide) (by omega) hn1 hns h1 h2
      intro D₃₆ zs h₃₆ tk₃₆ F₃₆ N₃₆ hD₃₆ hzs
      have hzs : IntsAre zs ((cast W).reverse.mapIdx (fun j p => p * 256 ^ j)) := by
        have e := bInts_cast hwr
        unfold KBw.bInts at e
        rw [e] at hzs
        have e2 : cast W.reverse = (cast W).reverse := by unfold cast; rw [List.map_reverse]
        rw [e2] at hzs
        exact hzs
      have hnW : num W < 2 ^ 128 := Nat.lt_of_lt_of_le (num_lt W hwt) (by rw [show (2 : Nat) ^ 128 = 256 ^ 16 by decide]; exact Nat.pow_le_pow_right (by decide) hw16)
      have h200 : (2 : Nat) ^ 128 < 2 ^ 200 := by decide
      clear hD₃₆
      (repeat (focus first | (k_unfold; (try dsimp only)) | (k_end; wrow_close) | walk1 | (dsimp only; walk1) | (leave1; walk_say "STEP leave1"; try dsimp only)))
      show wpAny _ _ _ _ _ _
      rw [sum_num]
      rename Fr _ _ _ _ => F₃₇
      rename News _ _ _ _ => N₃₇
      refine pf_claim _ _ _ _ _ _ _ (by omega) _ _ _ _ _ _ _ _ _ _ _ (by k_asm) F₃₇ (by k_asm) N₃₇ (by k_asm) rfl ?_
      rintro v tl h₃₈ k₃₈ ⟨rfl, t₃₈, rfl⟩ _ F₃₈ N₃₈
      rw [List.nil_append] at N₃₈
      have hfit := pfGo_fit (x := ((num W : Nat) : Int)) (by omega)
      have e1 : pfText ((num W : Nat) : Int) = Txt.join (Str.ofString ", ") (pfGo 32 0 ((num W : Nat) : Int) []) := rfl
      have e1' : (pfText ((num W : Nat) : Int) != Txt.join (Str.ofString ", ") (pfGo 32 0 ((num W : Nat) : Int) [])) = false := by rw [← e1]; simp
      have hjo2 := joinOk_words hfit.1 hfit.2
      clear hfit e1 h200 hnW
      (repeat (focus first | (k_unfold; (try dsimp only)) | (k_end; wrow_close) | walk1 | (dsimp only; walk1) | (leave1; walk_say "STEP leave1"; try dsimp only)))
      show wpAny _ _ _ _ _ _
      refine SC.join (News.isList N₃₈ (.tail _ (.head _))) hvw hjo2 ?_
      intro t₃₉ k₃₉
      (repeat (focus first | (k_unfold; (try dsimp only)) | (k_end; wrow_close) | walk1 | (dsimp only; walk1) | (leave1; walk_say "STEP leave1"; try dsimp only)))
      dsimp only
      rename Fr _ _ _ _ => F₄₀
      rename News _ _ _ _ => N₄₀
      refine TEnd.intro (hd := []) F₄₀ (fun p hp => N₄₀ p (.tail _ (.tail _ hp))) hre rfl ⟨rfl, _, up1 rfl⟩
  · rintro m₁ news₁ h tk ⟨rfl, u, rfl⟩ hadr F₆ N₆
    dsimp only
    have F₇ := fr_loc F₆
    have N₇ := news_loc N₆
    clear F₆ N₆ hadr m1 m2 m3 m4 hI hI₂ hdl hdn hita F₄ N₅
    (repeat (focus first | (k_unfold; (try dsimp only)) | (k_end; wrow_close) | walk1 | (dsimp only; walk1) | (leave1; walk_say "STEP leave1"; try dsimp only)))
end Mine
theorem PySem.Challenge.cw_oc0012_02_holds : PySem.Challenge.rw_oc0012_02.Holds :=
  Mine.tt
end
