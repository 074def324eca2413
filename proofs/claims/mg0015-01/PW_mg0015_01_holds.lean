import PyProof.Rows.All
import Wide.All
import OpenK.AllK
import Wide.FinOn
import PySem.Challenge.RW_mg0015_01
set_option Elab.async false
section
open PySem PySem.W PyProof.Rows
set_option maxRecDepth 100000
set_option maxHeartbeats 8000000
namespace Mine
open_top hd for PySem.Challenge.rw_mg0015_01
end Mine
end
section
open PySem PySem.W PyProof.Rows PySem.Spec PySem.Calls PyProof.V
set_option maxRecDepth 100000
namespace Mine
/-- a goal at which the walk is to stop -/
def Stop (p : Prop) : Prop := p
theorem Stop.mk {p : Prop} (h : p) : Stop p := h
theorem Stop.out {p : Prop} (h : Stop p) : p := h

section
variable {prog : Program} {w : World} {A : Around} {E : Value → Shared → Prop} {s : Shared} {env : Env} {h₀ : Heap} {x : PySem.Str} {body : List Stmt} {Q : Flow → Shared → Prop}

/-- a loop over bytes that grows one list of ints and turns two int names -/
theorem bytesLoop2 {b : Array UInt8} {tb : Tok} {m₀ : PySem.Str → Option Value} {l : Addr} {nn : Nat} {news : List (Addr × Obj)} {vs₀ : List Value} {out₀ : List Int} {i₀ j₀ : Int} {ti₀ tj₀ : Tok}
    (xi xj : PySem.Str) (P : List Int → List Int → Int → Int → Prop) (hh : A.handled = none)
    (F : Fr h₀ env.locals s.heap m₀) (N : News h₀ env.locals s.heap ((l, W.listOf vs₀.toArray nn) :: news)) (hv : IntsAre vs₀ out₀) (hi : m₀ xi = some (.int i₀ ti₀)) (hj : m₀ xj = some (.int j₀ tj₀)) (hp : P [] out₀ i₀ j₀)
    (turn : ∀ (vs : List Value) (out : List Int) (nn : Nat) (i : Int) (ti : Tok) (j : Int) (tj : Tok) (pre post : List Int) (n : Int) (t : Tok) (h : Heap) (tk : Nat) (own : List (Addr × Obj)), KBw.bInts b = pre ++ n :: post → 0 ≤ n → n < 256 → OwnOff own (l :: news.map (·.1)) → IntsAre vs out → vs.length = out.length → P pre out i j →
      Fr h₀ env.locals h (fun y => if y = x then some (.int n t) else if y = xi then some (.int i ti) else if y = xj then some (.int j tj) else m₀ y) → News h₀ env.locals h ((l, W.listOf vs.toArray nn) :: (news ++ own)) →
      wpAny (model prog w) A (execs body env) (fun fl s' => Stop (fl = .next ∧ ∃ (vs' : List Value) (out' : List Int) (nn' : Nat) (i' : Int) (ti' : Tok) (j' : Int) (tj' : Tok) (h' : Heap) (tk' : Nat) (m' : PySem.Str → Option Value), s' = { s with heap := h', toks := tk' } ∧ IntsAre vs' out' ∧ P (pre ++ [n]) out' i' j' ∧
        Fr h₀ env.locals h' m' ∧ m' xi = some (.int i' ti') ∧ m' xj = some (.int j' tj') ∧ (∀ z, z ≠ x → z ≠ xi → z ≠ xj → m' z = m₀ z) ∧ News h₀ env.locals h' ((l, W.listOf vs'.toArray nn') :: (news ++ own)))) E { s with heap := h, toks := tk })
    (done : ∀ (vs : List Value) (out : List Int) (nn : Nat) (i : Int) (ti : Tok) (j : Int) (tj : Tok) (v : Option Value) (h : Heap) (tk : Nat), IntsAre vs out → vs.length = out.length → P (KBw.bInts b) out i j →
      Fr h₀ env.locals h (fun y => if y = x then v else if y = xi then some (.int i ti) else if y = xj then some (.int j tj) else m₀ y) → News h₀ env.locals h ((l, W.listOf vs.toArray nn) :: news) → Q .next { s with heap := h, toks := tk }) :
    wpAny (model prog w) A (pyIter (.bytes b tb)) (fun it s₂ => LoopAtV prog w A h₀ env x body Q E it s₂) E s := by
  refine KStb.kst_bytes (σ := List Value × List Int × Nat × Int × Tok × Int × Tok) (ks := KBw.bInts b) (len := (KBw.bInts b).length)
     (fun c => (l, W.listOf c.1.toArray c.2.2.1) :: news)
     (fun c => [(xi, .int c.2.2.2.1 c.2.2.2.2.1), (xj, .int c.2.2.2.2.2.1 c.2.2.2.2.2.2)])
     (fun c => IntsAre c.1 c.2.1) []
     (fun pre c => P pre c.2.1 c.2.2.2.1 c.2.2.2.2.2.1)
     (vs₀, out₀, nn, i₀, ti₀, j₀, tj₀) rfl rfl hh F N hv ?_ hp ?_ ?_
  · intro p hp
    simp only [List.mem_cons, List.not_mem_nil, or_false] at hp
    rcases hp with rfl | rfl
    · exact hi
    · exact hj
  · rintro ⟨vs, out, nn, i, ti, j, tj⟩ pre post n t u h tk own e hlt h0 h1 off hf hP Fh Nh
    refine wpAny_mono (turn vs out nn i ti j tj pre post n t h tk own e h0 h1 off hf hf.length hP ?_ Nh) (fun fl s' hq => ?_) fun _ _ x => x
    · exact Fh
    · obtain ⟨rfl, vs', out', nn', i', ti', j', tj', h', tk', m', rfl, hf', hP', F', e1, e2, e3, N'⟩ := hq.out
      show InvEndN _ _ _ _ _ _ _
      refine kst_end (⟨vs', out', nn', i', ti', j', tj'⟩ : List Value × List Int × Nat × Int × Tok × Int × Tok) F' N' ?_ ?_ rfl hf' ?_ ?_ hP'
      · intro p hp
        rcases List.mem_cons.mp hp with rfl | hp
        · exact .head _
        · exact .tail _ (List.mem_append.mpr (.inl hp))
      · intro p hp
        exact .tail _ (List.mem_append.mpr (.inr hp))
      · intro p hp
        simp only [List.mem_cons, List.not_mem_nil, or_false] at hp
        rcases hp with rfl | rfl
        · exact e1
        · exact e2
      · intro z h1 h2 _
        exact e3 z h1 (h2 (xi, _) (.head _)) (h2 (xj, _) (.tail _ (.head _)))
  · rintro ⟨vs, out, nn, i, ti, j, tj⟩ u h tk _ hf hP Fh Nh
    refine done vs out nn i ti j tj (u x) h tk hf hf.length hP ?_ Nh
    have em : (fun y => if y = x then u x else if y = xi then some (Value.int i ti) else if y = xj then some (Value.int j tj) else m₀ y) = (fun y => if y = x then u y else kstB (fun z => if ([] : List PySem.Str).contains z then u z else m₀ z) [(xi, .int i ti), (xj, .int j tj)] y) := by
      funext y
      by_cases hy : y = x
      · simp [hy]
      · simp only [if_neg hy]; rfl
    rw [em]
    exact Fh
end
end Mine
end
section
open PySem PySem.W PyProof.Rows PySem.Spec PySem.Calls PyProof.V
set_option maxRecDepth 100000
namespace Mine
/-- the sign of a sextet -/
def tb (i : Int) : Int := if i < 26 then i + 65 else if i < 52 then i + 71 else if i < 62 then i - 4 else if i = 62 then 43 else 47

theorem tab_get {x : List UInt8} (hx : (x.map fun c => ((c.toNat : Nat) : Int)) = (List.range 64).map fun (k : Nat) => tb k) {i : Int} (h0 : 0 ≤ i) (h1 : i < 64) : (((x.getD i.toNat 0).toNat : Nat) : Int) = tb i := by
  have hl : x.length = 64 := by simpa using congrArg List.length hx
  have hi : i.toNat < 64 := by omega
  have := congrArg (fun l => l[i.toNat]?) hx
  simp only [List.getElem?_map] at this
  rw [List.getElem?_eq_getElem (by omega), List.getElem?_range hi] at this
  simp only [Option.map_some, Option.some.injEq] at this
  rw [List.getD_eq_getElem?_getD, List.getElem?_eq_getElem (by omega)]
  simp only [Option.getD_some]
  rw [this]
  congr 1
  omega

section
variable {prog : Program} {w : World} {A : Around} {E : Value → Shared → Prop} {s : Shared}
theorem tab_item {x : List UInt8} {i : Int} {t ui : Tok} {value slice : Expr} {Q : Value → Shared → Prop} (hx : (x.map fun c => ((c.toNat : Nat) : Int)) = (List.range 64).map fun (k : Nat) => tb k) (h0 : 0 ≤ i) (h1 : i < 64)
    (h : Q (.int (tb i) s.toks) { s with toks := s.toks + 1 })
    (hs : subscripted slice false (.bytes x.toArray t) (.int i ui) = operate [.bytes x.toArray t, .int i ui] (getItem (.bytes x.toArray t) (.int i ui)) := by with_unfolding_all rfl)
    (ht : ∀ r, letTemporaryGo value (.bytes x.toArray t) r = pure () := by intro _; with_unfolding_all rfl) :
    wpAny (model prog w) A (subscriptTail value slice (.bytes x.toArray t) (.int i ui)) Q E s := by
  have hl : x.length = 64 := by simpa using congrArg List.length hx
  exact KBy.item_N (by omega) h0 (by omega) (by rw [tab_get hx h0 h1]; exact h) hs ht
end

theorem land_high (x y : Nat) (h : y < 256) : (x * 256) &&& y = 0 := by
  apply Nat.eq_of_testBit_eq
  intro k
  rw [Nat.testBit_and, Nat.zero_testBit]
  by_cases hk : k < 8
  · have e : x * 256 = 2 ^ 8 * x := by omega
    rw [e, Nat.testBit_two_pow_mul]
    have : decide (k ≥ 8) = false := by simp; omega
    rw [this]; rfl
  · have : y.testBit k = false := Nat.testBit_lt_two_pow (Nat.lt_of_lt_of_le h (by
      have : 2 ^ 8 ≤ 2 ^ k := Nat.pow_le_pow_right (by omega) (by omega)
      simpa using this))
    rw [this, Bool.and_false]
theorem bitOr_low {a n : Int} (ha : 0 ≤ a) (h0 : 0 ≤ n) (h1 : n < 256) : Builtin.bitOr (a * 256) n = a * 256 + n := by
  obtain ⟨x, rfl⟩ := Int.eq_ofNat_of_zero_le ha
  obtain ⟨y, rfl⟩ := Int.eq_ofNat_of_zero_le h0
  rw [bitOr_and]
  have e : Builtin.bitAnd ((x : Int) * 256) (y : Int) = 0 := by
    unfold Builtin.bitAnd
    have h1 : decide (0 ≤ (x : Int) * 256) = true := by simp; omega
    have h2 : decide (0 ≤ (y : Int)) = true := by simp
    rw [h1, h2]
    have e1 : ((x : Int) * 256).toNat = x * 256 := by omega
    have e2 : (y : Int).toNat = y := by omega
    simp only [e1, e2]
    rw [land_high x y (by omega)]
    rfl
  rw [e]
  omega
theorem bitOr_128 (c : Int) : Builtin.bitOr c 128 = if c / 128 % 2 = 1 then c else c + 128 := by
  have e : Builtin.bitAnd c 128 = (c / 128 % 2) * 128 := kbt_bit c 7
  rw [bitOr_and, e]
  split <;> omega
theorem bitOr_128_mod (c : Int) : Builtin.bitOr c 128 % 128 = c % 128 := by
  rw [bitOr_128]
  split <;> omega

def encT (st : List Int × Int × Int) (n : Int) : List Int × Int × Int :=
  if st.2.1 = 0 then (st.1 ++ [tb (n / 4)], 2, n % 4)
  else if st.2.1 = 2 then (st.1 ++ [tb (st.2.2 * 16 + n / 16)], 4, n % 16)
  else (st.1 ++ [tb (st.2.2 * 4 + n / 64), tb (n % 64)], 0, 0)
def encS (l : List Int) : List Int × Int × Int := l.foldl encT ([], 0, 0)
def EncInv (pre out : List Int) (lb lc : Int) : Prop := (lb = 0 ∨ lb = 2 ∨ lb = 4) ∧ 0 ≤ lc ∧ lc < 65536 ∧ encS pre = (out, lb, lc % 2 ^ lb.toNat) ∧ out.length ≤ 2 * pre.length
theorem encInv_nil : EncInv [] [] 0 0 := ⟨.inl rfl, by decide, by decide, rfl, by decide⟩
theorem encS_app (pre : List Int) (n : Int) : encS (pre ++ [n]) = encT (encS pre) n := by simp [encS]

theorem lcNew {lc n : Int} (h0 : 0 ≤ lc) (n0 : 0 ≤ n) (n1 : n < 256) : Builtin.bitAnd (Builtin.bitOr (lc * 2 ^ Int.toNat 8) n) 65535 = (lc * 256 + n) % 65536 := by
  rw [bitAnd_m16]
  have e : lc * 2 ^ Int.toNat 8 = lc * 256 := rfl
  rw [e, bitOr_low h0 n0 n1]

theorem enc0 {pre out : List Int} {lc n : Int} (h : encS pre = (out, 0, lc % 2 ^ (0 : Int).toNat)) (h0 : 0 ≤ lc) (n0 : 0 ≤ n) (n1 : n < 256) (hl : out.length ≤ 2 * pre.length) {x lb' : Int}
    (hx : x = Builtin.bitAnd (Int.fdiv (Builtin.bitAnd (Builtin.bitOr (lc * 2 ^ Int.toNat 8) n) 65535) (2 ^ (2 : Nat))) 63) (hb : lb' = 2) :
    EncInv (pre ++ [n]) (out ++ [tb x]) lb' (Builtin.bitAnd (Builtin.bitOr (lc * 2 ^ Int.toNat 8) n) 65535) := by
  subst hx hb
  rw [lcNew h0 n0 n1, bitAnd_m6]
  refine ⟨.inr (.inl rfl), by omega, by omega, ?_, by simp; omega⟩
  rw [encS_app, h]
  have e1 : Int.fdiv ((lc * 256 + n) % 65536) (2 ^ (2 : Nat)) % 64 = n / 4 := by
    rw [Int.fdiv_eq_ediv_of_nonneg _ (by decide)]
    show ((lc * 256 + n) % 65536) / 4 % 64 = n / 4
    omega
  rw [e1]
  show (out ++ [tb (n / 4)], (2 : Int), n % 4) = _
  have e2 : ((lc * 256 + n) % 65536) % 2 ^ (2 : Int).toNat = n % 4 := by
    show ((lc * 256 + n) % 65536) % 4 = n % 4
    omega
  rw [e2]
theorem enc2 {pre out : List Int} {lc n : Int} (h : encS pre = (out, 2, lc % 2 ^ (2 : Int).toNat)) (h0 : 0 ≤ lc) (n0 : 0 ≤ n) (n1 : n < 256) (hl : out.length ≤ 2 * pre.length) {x lb' : Int}
    (hx : x = Builtin.bitAnd (Int.fdiv (Builtin.bitAnd (Builtin.bitOr (lc * 2 ^ Int.toNat 8) n) 65535) (2 ^ (4 : Nat))) 63) (hb : lb' = 4) :
    EncInv (pre ++ [n]) (out ++ [tb x]) lb' (Builtin.bitAnd (Builtin.bitOr (lc * 2 ^ Int.toNat 8) n) 65535) := by
  subst hx hb
  rw [lcNew h0 n0 n1, bitAnd_m6]
  refine ⟨.inr (.inr rfl), by omega, by omega, ?_, by simp; omega⟩
  rw [encS_app, h]
  have e1 : Int.fdiv ((lc * 256 + n) % 65536) (2 ^ (4 : Nat)) % 64 = (lc % 2 ^ (2 : Int).toNat) * 16 + n / 16 := by
    rw [Int.fdiv_eq_ediv_of_nonneg _ (by decide)]
    show ((lc * 256 + n) % 65536) / 16 % 64 = (lc % 4) * 16 + n / 16
    omega
  rw [e1]
  show (out ++ [tb (lc % 2 ^ (2 : Int).toNat * 16 + n / 16)], (4 : Int), n % 16) = _
  have e2 : ((lc * 256 + n) % 65536) % 2 ^ (4 : Int).toNat = n % 16 := by
    show ((lc * 256 + n) % 65536) % 16 = n % 16
    omega
  rw [e2]
theorem enc4 {pre out : List Int} {lc n : Int} (h : encS pre = (out, 4, lc % 2 ^ (4 : Int).toNat)) (h0 : 0 ≤ lc) (n0 : 0 ≤ n) (n1 : n < 256) (hl : out.length ≤ 2 * pre.length) {x y lb' : Int}
    (hx : x = Builtin.bitAnd (Int.fdiv (Builtin.bitAnd (Builtin.bitOr (lc * 2 ^ Int.toNat 8) n) 65535) (2 ^ (6 : Nat))) 63)
    (hy : y = Builtin.bitAnd (Int.fdiv (Builtin.bitAnd (Builtin.bitOr (lc * 2 ^ Int.toNat 8) n) 65535) (2 ^ (0 : Nat))) 63) (hb : lb' = 0) :
    EncInv (pre ++ [n]) (out ++ [tb x] ++ [tb y]) lb' (Builtin.bitAnd (Builtin.bitOr (lc * 2 ^ Int.toNat 8) n) 65535) := by
  subst hx hy hb
  rw [lcNew h0 n0 n1, bitAnd_m6, bitAnd_m6]
  refine ⟨.inl rfl, by omega, by omega, ?_, by simp; omega⟩
  rw [encS_app, h]
  have e1 : Int.fdiv ((lc * 256 + n) % 65536) (2 ^ (6 : Nat)) % 64 = (lc % 2 ^ (4 : Int).toNat) * 4 + n / 64 := by
    rw [Int.fdiv_eq_ediv_of_nonneg _ (by decide)]
    show ((lc * 256 + n) % 65536) / 64 % 64 = (lc % 16) * 4 + n / 64
    omega
  have e3 : Int.fdiv ((lc * 256 + n) % 65536) (2 ^ (0 : Nat)) % 64 = n % 64 := by
    rw [Int.fdiv_eq_ediv_of_nonneg _ (by decide)]
    show ((lc * 256 + n) % 65536) / 1 % 64 = n % 64
    omega
  rw [e1, e3]
  show (out ++ [tb (lc % 2 ^ (4 : Int).toNat * 4 + n / 64), tb (n % 64)], (0 : Int), 0) = _
  have e2 : ((lc * 256 + n) % 65536) % 2 ^ (0 : Int).toNat = 0 := by
    show ((lc * 256 + n) % 65536) % 1 = 0
    omega
  rw [e2, List.append_assoc]
  rfl
/-- what b2a_base64 makes of its octets -/
def enc (l : List Int) : List Int :=
  let st := encS l
  if st.2.1 = 0 then st.1 else if st.2.1 = 2 then st.1 ++ [tb (st.2.2 * 16), 61, 61] else st.1 ++ [tb (st.2.2 * 4), 61]

/-- a sign that stands for a sextet -/
def Sgn (c : Int) : Prop := ∃ i, 0 ≤ i ∧ i < 64 ∧ c = tb i
theorem tb_range {i : Int} (h0 : 0 ≤ i) (h1 : i < 64) : 43 ≤ tb i ∧ tb i ≤ 122 := by
  unfold tb
  repeat' split
  all_goals omega
theorem Sgn.range {c : Int} (h : Sgn c) : 43 ≤ c ∧ c ≤ 122 := by
  obtain ⟨i, h0, h1, rfl⟩ := h
  exact tb_range h0 h1
def Oct (l : List Int) : Prop := ∀ n ∈ l, 0 ≤ n ∧ n < 256
def EncOk (st : List Int × Int × Int) : Prop := (∀ c ∈ st.1, Sgn c) ∧ (st.2.1 = 0 ∧ st.2.2 = 0 ∨ st.2.1 = 2 ∧ 0 ≤ st.2.2 ∧ st.2.2 < 4 ∨ st.2.1 = 4 ∧ 0 ≤ st.2.2 ∧ st.2.2 < 16)
theorem encT_ok {st : List Int × Int × Int} (h : EncOk st) {n : Int} (h0 : 0 ≤ n) (h1 : n < 256) : EncOk (encT st n) := by
  obtain ⟨out, lb, r⟩ := st
  obtain ⟨ho, hr⟩ := h
  dsimp only at ho hr
  rcases hr with ⟨rfl, rfl⟩ | ⟨rfl, hr0, hr1⟩ | ⟨rfl, hr0, hr1⟩
  · refine ⟨?_, .inr (.inl ⟨rfl, ?_⟩)⟩
    · intro c hc
      rcases List.mem_append.mp hc with hc | hc
      · exact ho c hc
      · rw [List.mem_singleton.mp hc]; exact ⟨n / 4, by omega, by omega, rfl⟩
    · show 0 ≤ n % 4 ∧ n % 4 < 4
      omega
  · refine ⟨?_, .inr (.inr ⟨rfl, ?_⟩)⟩
    · intro c hc
      rcases List.mem_append.mp hc with hc | hc
      · exact ho c hc
      · rw [List.mem_singleton.mp hc]; exact ⟨r * 16 + n / 16, by omega, by omega, rfl⟩
    · show 0 ≤ n % 16 ∧ n % 16 < 16
      omega
  · refine ⟨?_, .inl ⟨rfl, rfl⟩⟩
    intro c hc
    rcases List.mem_append.mp hc with hc | hc
    · exact ho c hc
    · simp only [List.mem_cons, List.not_mem_nil, or_false] at hc
      rcases hc with rfl | rfl
      · exact ⟨r * 4 + n / 64, by omega, by omega, rfl⟩
      · exact ⟨n % 64, by omega, by omega, rfl⟩
theorem foldT_ok : ∀ (l : List Int) (st : List Int × Int × Int), Oct l → EncOk st → EncOk (l.foldl encT st)
  | [], _, _, h => h
  | n :: r, _, ho, h => foldT_ok r _ (fun k hk => ho k (.tail _ hk)) (encT_ok h (ho n (.head _)).1 (ho n (.head _)).2)
theorem encS_ok {l : List Int} (h : Oct l) : EncOk (encS l) := foldT_ok l _ h ⟨(fun _ h => nomatch h), .inl ⟨rfl, rfl⟩⟩
theorem bInts_oct (b : Array UInt8) : Oct (KBw.bInts b) := fun _ hn => KBw.ints_in hn
/-- the end of b2a_base64, way by way -/
theorem enc_end0 {ks out : List Int} {lc : Int} (h : encS ks = (out, 0, lc % 2 ^ (0 : Int).toNat)) : enc ks = out := by
  simp [enc, h]
theorem enc_end2 {ks out : List Int} {lc x : Int} (h : encS ks = (out, 2, lc % 2 ^ (2 : Int).toNat)) (hx : x = Builtin.bitAnd lc 3 * 2 ^ Int.toNat 4) : out ++ [tb x] ++ [61] ++ [61] = enc ks := by
  subst hx
  rw [bitAnd_m2]
  have e : lc % 4 * 2 ^ Int.toNat 4 = lc % 2 ^ (2 : Int).toNat * 16 := rfl
  rw [e]
  simp [enc, h]
theorem enc_end4 {ks out : List Int} {lc x : Int} (h : encS ks = (out, 4, lc % 2 ^ (4 : Int).toNat)) (hx : x = Builtin.bitAnd lc 15 * 2 ^ Int.toNat 2) : out ++ [tb x] ++ [61] = enc ks := by
  subst hx
  rw [bitAnd_m4]
  have e : lc % 16 * 2 ^ Int.toNat 2 = lc % 2 ^ (4 : Int).toNat * 4 := rfl
  rw [e]
  simp [enc, h]
theorem enc_in {ks : List Int} (h : Oct ks) : ∀ c ∈ enc ks, c = 61 ∨ Sgn c := by
  have ho := encS_ok h
  unfold EncOk at ho
  unfold enc
  generalize encS ks = st at ho
  obtain ⟨out, lb, r⟩ := st
  dsimp only at ho ⊢
  obtain ⟨ho, hr⟩ := ho
  intro c hc
  rcases hr with ⟨rfl, rfl⟩ | ⟨rfl, hr0, hr1⟩ | ⟨rfl, hr0, hr1⟩
  · exact .inr (ho c (by simpa using hc))
  · simp only [show ((2 : Int) = 0) = False by decide, if_false, if_true] at hc
    rcases List.mem_append.mp hc with hc | hc
    · exact .inr (ho c hc)
    · simp only [List.mem_cons, List.not_mem_nil, or_false] at hc
      rcases hc with rfl | rfl | rfl
      · exact .inr ⟨_, by omega, by omega, rfl⟩
      · exact .inl rfl
      · exact .inl rfl
  · simp only [show ((4 : Int) = 0) = False by decide, show ((4 : Int) = 2) = False by decide, if_false] at hc
    rcases List.mem_append.mp hc with hc | hc
    · exact .inr (ho c hc)
    · simp only [List.mem_cons, List.not_mem_nil, or_false] at hc
      rcases hc with rfl | rfl
      · exact .inr ⟨_, by omega, by omega, rfl⟩
      · exact .inl rfl
theorem enc_oct {ks : List Int} (h : Oct ks) : Oct (enc ks) := fun c hc => by
  rcases enc_in h c hc with rfl | h
  · decide
  · have := h.range; omega
end Mine
end
section
open PySem PySem.W PyProof.Rows PySem.Spec PySem.Calls
set_option maxRecDepth 100000
set_option maxHeartbeats 4000000
namespace Mine
section
local macro_rules | `(tactic| k_room) => `(tactic| ktr_room)
local macro_rules | `(tactic| k_steps) => `(tactic| repeat' ((fail_if_success (with_reducible show wpAny _ _ (call (Value.type "bytes") [Value.ref _]) _ _ _)); (fail_if_success (with_reducible show wpAny _ _ (pyIter (Value.bytes _ _)) _ _ _)); (first | (k_unfold; (try dsimp only)) | walk1 | (dsimp only [List.cons_append, List.nil_append]; walk1))))
local macro_rules | `(tactic| walk_at "call type:type") => `(tactic| ((with_reducible show wpAny _ _ (call _ [Value.bytes _ _]) _ _ _); refine call_type_of (Tx := "bytes") rfl (by decide +kernel) ?_))
local macro_rules | `(tactic| walk_at "subscriptTail Name BinOp bytes int") => `(tactic| (refine tab_item (by decide +kernel) ?a ?b ?_; (case a => exact (bitAnd_range _ (by decide)).1); (case b => exact Int.lt_of_le_of_lt (bitAnd_range _ (by decide)).2 (by decide))))
local macro_rules | `(tactic| walk_at "subscriptTail Name BinOp bytes int") => `(tactic| (refine tab_item (by decide +kernel) ?a ?b ?_; (case a => (refine Int.mul_nonneg (bitAnd_range _ (by decide)).1 (by decide))); (case b => first | (rw [bitAnd_m2]; show _ * 16 < _; omega) | (rw [bitAnd_m4]; show _ * 4 < _; omega))))
local macro_rules | `(tactic| walk_at "call builtin:list.append") => `(tactic| (k_here; refine' append_K ?k1 ?k2 ?k3 ?_ ?z; (case k1 => k_asm); (case k2 => k_asm); (case k3 => k_upd); (case z => (simp only [Array.size_push, List.size_toArray, PySem.sizeLine_eq]; omega)); intro h' F' N'; (try k_sweep)))
theorem b2a : ∀ (w : World) (mean : ExcName → Option Value) (mg mb : Str → Option Value)
  (bs : Array UInt8) (ks : List Int) (tb : Tok) (news : List (Addr × Obj))
  (dp un : Nat) (gd : Option (List Code)) (cn : Str) (cs : Scope) (a : Addr) (ccd : Value) (cl : List (Str × Addr)) (outer : List Env) (A₀ : Around) (base h₀ : Heap) (L : Addr) (m : Str → Option Value) (s : Shared) (Q E : Value → Shared → Prop)
  (_ : Below A₀ base outer h₀) (_ : Fr h₀ L s.heap m) (_ : (hd.heap_39 w.params).In h₀) (_ : News h₀ L s.heap news) (_ : Top hd.view_39 (looseW hd.view_39 [Str.ofString "b2a_base64", Str.ofString "b64encode"]) mean mg mb h₀) (_ : cs.kind = .function) (_ : KBw.bInts bs = ks) (_ : ks.length ≤ 100) (_ : dp + 5 < recursionLimit) (_ : un + 64 < cLine)
  (_ : ∀ (t : Tok) (h' : Heap) (tk' : Nat), Fr h₀ L h' m → News h₀ L h' news → Q (.bytes (byteArr (enc ks)) t) { s with heap := h', toks := tk' }),
  wpAny (model Challenge.rw_mg0015_01.row.prog w) (ktrTop dp un gd cn cs L a ccd cl outer) (call (.ref 43) [.bytes bs tb] [(Str.ofString "newline", .bool false)]) Q E s := by
  w_on
  k_fill
  intro w mean mg mb bs ks tb news dp un gd cn cs a ccd cl outer A₀ base h₀ L m s Q E B F X N T hk hks hb hdd hu hret
  w_top on
  refine wpAny_call ?_
  k_dflt (refine' code_def ?k1 ?k2 ?k3 ?k4 ?k5 ?kA ?kF ?kK ?k6 ?k7 ?k8 ?k9 ?kB ?_ ?c2 ?c3 ?c4 ?c5; (case kA => exact rfl); (case kF => exact rfl); (case kK => assumption); (case k1 => k_asm); (case k2 => k_asm); (case k3 => k_asm); (case k4 => k_asm); (case k5 => k_asm); (case k6 => k_is); (case k7 => k_is); (case k8 => ktr_room); (case k9 => first | exact BindsTo.of_eq rfl | exact binds_K (by k_in) rfl (by k_is) rfl rfl rfl); (case c5 => decide); (case kB => exact locs rfl); (case c2 => exact rfl); (case c3 => exact rfl); (case c4 => exact rfl); k_whole; intro g' L' h' FG' F' N' B' X' T'; (try dsimp only); (try k_lift B'); (try k_fold))
  k_steps
  rename Fr _ _ _ _ => lF'
  rename News _ _ _ _ => lN'
  refine bytesLoop2 (vs₀ := []) (out₀ := []) (Str.ofString "leftbits") (Str.ofString "leftchar") EncInv
     rfl lF' lN' .nil rfl rfl encInv_nil ?turn ?done
  case turn => 
    clear lF' lN'
    intro vs out nn lb tlb lc tlc pre post n t h tk own e h0 h1 off hf hlen hP F' N'
    obtain ⟨hlb, hlc0, hlc1, henc, hol⟩ := hP
    have kMark := kstMark
    have hpl : pre.length < 100 := by
      have e9 := congrArg List.length e
      simp only [List.length_append, List.length_cons] at e9
      have := congrArg List.length hks
      omega
    rcases hlb with rfl | rfl | rfl
    · k_steps
      rename News _ _ _ _ => N9
      rename Fr _ _ _ _ => F9
      simp only [List.push_toArray] at N9
      refine Stop.mk ⟨rfl, _, _, _, _, _, _, _, _, _, _, rfl, IntsAre.append hf (.cons _ _ .nil), enc0 henc hlc0 h0 h1 hol rfl rfl, F9, rfl, rfl, ?_, N9⟩
      intro z z1 z2 z3
      simp only [if_neg z1, if_neg z2, if_neg z3]
    · k_steps
      rename News _ _ _ _ => N9
      rename Fr _ _ _ _ => F9
      simp only [List.push_toArray] at N9
      refine Stop.mk ⟨rfl, _, _, _, _, _, _, _, _, _, _, rfl, IntsAre.append hf (.cons _ _ .nil), enc2 henc hlc0 h0 h1 hol rfl rfl, F9, rfl, rfl, ?_, N9⟩
      intro z z1 z2 z3
      simp only [if_neg z1, if_neg z2, if_neg z3]
    · k_steps
      rename News _ _ _ _ => N9
      rename Fr _ _ _ _ => F9
      simp only [List.push_toArray] at N9
      refine Stop.mk ⟨rfl, _, _, _, _, _, _, _, _, _, _, rfl, IntsAre.append (IntsAre.append hf (.cons _ _ .nil)) (.cons _ _ .nil), enc4 henc hlc0 h0 h1 hol rfl rfl rfl, F9, rfl, rfl, ?_, N9⟩
      intro z z1 z2 z3
      simp only [if_neg z1, if_neg z2, if_neg z3]
  case done => 
    clear lF' lN'
    intro vs out nn lb tlb lc tlc v h tk hf hlen hP F' N'
    have hks9 : Oct ks := by rw [← hks]; exact bInts_oct bs
    rw [hks] at hP
    obtain ⟨hlb, hlc0, hlc1, henc, hol⟩ := hP
    have kMark := kstMark
    have hm3 := bitAnd_range lc (y := 3) (by decide)
    have hm15 := bitAnd_range lc (y := 15) (by decide)
    rcases hlb with rfl | rfl | rfl
    · k_steps
      rename News _ _ _ _ => N9
      rename Fr _ _ _ _ => F9
      have e9 := enc_end0 henc
      refine KBa.make_K F9 N9 rfl (News.isList N9 (.head _)) hf (e9 ▸ enc_oct hks9) (by omega) ?_
      intro h9 t9 k9 F8 N8 _
      rw [← e9]
      clear F9 N9
      k_steps
      exact hret _ _ _ (by k_asm) (cb_drop (by assumption) (fun p hp => .tail _ hp))
    · k_steps
      rename News _ _ _ _ => N9
      rename Fr _ _ _ _ => F9
      simp only [List.push_toArray] at N9
      have e9 := enc_end2 henc rfl
      refine KBa.make_K F9 N9 rfl (News.isList N9 (.head _)) (IntsAre.append (IntsAre.append (IntsAre.append hf (.cons _ _ .nil)) (.cons _ _ .nil)) (.cons _ _ .nil)) (e9.symm ▸ enc_oct hks9) (by simp only [List.length_append, List.length_cons, List.length_nil]; omega) ?_
      intro h9 t9 k9 F8 N8 _
      rw [e9]
      clear F9 N9
      k_steps
      exact hret _ _ _ (by k_asm) (cb_drop (by assumption) (fun p hp => .tail _ hp))
    · k_steps
      rename News _ _ _ _ => N9
      rename Fr _ _ _ _ => F9
      simp only [List.push_toArray] at N9
      have e9 := enc_end4 henc rfl
      refine KBa.make_K F9 N9 rfl (News.isList N9 (.head _)) (IntsAre.append (IntsAre.append hf (.cons _ _ .nil)) (.cons _ _ .nil)) (e9.symm ▸ enc_oct hks9) (by simp only [List.length_append, List.length_cons, List.length_nil]; omega) ?_
      intro h9 t9 k9 F8 N8 _
      rw [e9]
      clear F9 N9
      k_steps
      exact hret _ _ _ (by k_asm) (cb_drop (by assumption) (fun p hp => .tail _ hp))
end
end Mine
end
section
open PySem PySem.W PyProof.Rows PySem.Spec PySem.Calls PyProof.V
set_option maxRecDepth 100000
namespace Mine
theorem mt_plain : plainId "bytes.maketrans" = true := by decide +kernel
theorem mt_entry : entryFor table "bytes.maketrans" = some Builtin.«bytes.maketrans» := entryFor_of_tree (by kernel_rfl)
theorem mt_check (a b : Value) : checkBuiltinCall "bytes.maketrans" ⟨[a, b], []⟩ = pure () := by kernel_rfl
theorem tr_slot : Slot "bytes" "translate" "bytes.translate" :=
  .of (owner := "bytes") (n := "translate") (by rw [typeLookup_type, builtinLookup_eq_fast]; kernel_rfl) (by decide +kernel) (by decide +kernel) (by decide +kernel)
    (by first | exact .inl (by decide +kernel) | exact .inr (by decide +kernel)) (by rw [isSubtype_type]; kernel_rfl)
theorem tr_type : typeOf (.builtin "bytes.translate") = pure (.type "method_descriptor") := by show builtinType _ = _; rw [builtinType_eq_fast]; kernel_rfl
theorem tr_entry : entryFor table "bytes.translate" = some Builtin.«bytes.translate» := entryFor_of_tree (by kernel_rfl)
theorem tr_args (a b : Value) : argsOk "bytes.translate" ⟨[a, b], []⟩ := by unfold argsOk; kernel_rfl

/-- the table that maketrans makes of '+/' and two bytes -/
def mtTab (x y : UInt8) : Array UInt8 := (((Array.range 256).map (·.toUInt8)).setIfInBounds 43 x).setIfInBounds 47 y
theorem mtTab_size (x y : UInt8) : (mtTab x y).size = 256 := by simp [mtTab]
theorem mtTab_get (x y : UInt8) (c : UInt8) : (mtTab x y).getD c.toNat c = if c = 43 then x else if c = 47 then y else c := by
  have hc := c.toNat_lt
  have hs : c.toNat < (mtTab x y).size := by rw [mtTab_size]; omega
  have e : (mtTab x y).getD c.toNat c = ((mtTab x y)[c.toNat]?).getD c := by simp [Array.getD, hs]
  rw [e]
  unfold mtTab
  rw [Array.getElem?_setIfInBounds, Array.getElem?_setIfInBounds, Array.getElem?_map]
  have er : (Array.range 256)[c.toNat]? = some c.toNat := by rw [Array.getElem?_eq_getElem (by simpa using hc), Array.getElem_range]
  rw [er]
  by_cases h43 : c = 43
  · subst h43; simp
  by_cases h47 : c = 47
  · subst h47; simp
  have n43 : ¬ 43 = c.toNat := fun h => h43 (UInt8.toNat_inj.mp h.symm)
  have n47 : ¬ 47 = c.toNat := fun h => h47 (UInt8.toNat_inj.mp h.symm)
  simp only [n43, n47, h43, h47, if_false]
  apply UInt8.toNat_inj.mp
  show (UInt8.ofNat c.toNat).toNat = c.toNat
  rw [UInt8.toNat_ofNat']
  omega
section
variable {prog : Program} {w : World} {M : Model} {A : Around} {E : Value → Shared → Prop} {s : Shared}
theorem mt_call {x y : UInt8} {t u : Tok} {Q : Value → Shared → Prop} (h : Q (.bytes (mtTab x y) s.toks) { s with toks := s.toks + 1 }) :
    wpAny (model prog w) A (call (.builtin "bytes.maketrans") [.bytes #[43, 47] t, .bytes #[x, y] u]) Q E s := by
  refine wpAny_call (codeAny_call_builtin mt_plain mt_entry ?_)
  refine wpAny_of_eq (a := ()) (mt_check _ _) ?_
  show wpAny _ _ (Builtin.Bytes.maketransM .bytes ⟨[.bytes #[43, 47] t, .bytes #[x, y] u], []⟩) _ _ s
  unfold Builtin.Bytes.maketransM
  refine wpAny_bind (wpAny_of_eq (a := ()) rfl ?_)
  refine wpAny_bind (wpAny_of_eq (a := ()) (by rfl) ?_)
  refine wpAny_bind (wpAny_of_eq (a := #[43, 47]) KBd.like_eq ?_)
  refine wpAny_bind (wpAny_of_eq (a := #[x, y]) KBd.like_eq ?_)
  refine KFB.if_not (by rfl) ?_
  refine wpAny_bind (wpAny_mkBytes (b := mtTab x y) (wpAny_pure h) (by rw [mtTab_size, sizeLine_eq]; decide))
theorem tr_method {b : Array UInt8} {t : Tok} {pl : Sem Bool} {Q : Value × List Value → Shared → Prop} (h : Q (.builtin "bytes.translate", [.bytes b t]) s) : wpAny M A (getMethod (.bytes b t) "translate" pl) Q E s := by
  with_reducible exact KBd.method_of (.bytes b t) (typeIs_bytes _ _ _) tr_slot tr_type KBd.noRef h
def swp (x y c : UInt8) : UInt8 := if c = 43 then x else if c = 47 then y else c
theorem tr_call {b : Array UInt8} {x y : UInt8} {t u : Tok} {Q : Value → Shared → Prop} (hb : b.size ≤ 10000) (h : ∀ t' k, Q (.bytes (b.map (swp x y)) t') { s with toks := k }) :
    wpAny (model prog w) A (call (.builtin "bytes.translate") [.bytes b t, .bytes (mtTab x y) u]) Q E s := by
  refine wpAny_call_entry tr_slot (typeIs_bytes _ _ _) tr_entry ?_ (tr_args _ _)
  show wpAny _ _ (Builtin.Bytes.translateM .bytes ⟨[.bytes b t, .bytes (mtTab x y) u], []⟩) _ _ s
  unfold Builtin.Bytes.translateM
  dsimp only
  rw [if_neg (by show ¬ (1 + 0 > 2); decide)]
  refine KFB.if_not (by rfl) ?_
  refine KFB.if_not (by rfl) ?_
  refine wpAny_bind (wpAny_of_eq (a := mtTab x y) KBd.like_eq ?_)
  refine KFB.if_not (by rw [mtTab_size]; rfl) ?_
  refine wpAny_bind (wpAny_pure ?_)
  refine wpAny_bind (m := (pure #[] : Sem (Array UInt8))) (wpAny_pure ?_)
  refine wpAny_bind (wpAny_of_eq (a := b) rfl ?_)
  have e : ((b.filter (fun c => !(#[] : Array UInt8).contains c)).map fun c => (mtTab x y).getD c.toNat c) = b.map (swp x y) := by
    have e1 : b.filter (fun c => !(#[] : Array UInt8).contains c) = b := by
      rw [Array.filter_eq_self]; intro a _; simp
    rw [e1]
    congr 1
    funext c
    exact mtTab_get x y c
  dsimp only
  rw [e]
  split
  · rename_i hq
    have e2 := eq_of_beq hq
    refine wpAny_bind (wpAny_rule ?_)
    refine wpAny_bind (wpAny_of_eq (a := .bytes b t) rfl ?_)
    refine wpAny_pure ⟨_, rfl, ?_⟩
    have h9 := h t s.toks
    rw [e2] at h9
    exact h9
  · refine wpAny_bind (wpAny_mkBytes (wpAny_pure ⟨_, rfl, h _ _⟩) (by rw [Array.size_map, sizeLine_eq]; omega))
end
end Mine
end
section
open PySem PySem.W PyProof.Rows PySem.Spec PySem.Calls
set_option maxRecDepth 100000
set_option maxHeartbeats 4000000
namespace Mine
theorem b2a_use {w : World} {mean : ExcName → Option Value} {mg mb : Str → Option Value}
  {bs : Array UInt8} {ks : List Int} {tb : Tok} {news : List (Addr × Obj)}
  {dp un : Nat} {gd : Option (List Code)} {cn : Str} {cs : Scope} {a : Addr} {ccd : Value} {cl : List (Str × Addr)} {outer : List Env} {A₀ : Around} {base h₀ : Heap} {L : Addr} {m : Str → Option Value} {s : Shared} {Q E : Value → Shared → Prop} {kw : List (Str × Value)}
  (h1 : Below A₀ base outer h₀) (h2 : Fr h₀ L s.heap m) (h3 : (hd.heap_39 w.params).In h₀) (h4 : News h₀ L s.heap news) (h5 : Top hd.view_39 (looseW hd.view_39 [Str.ofString "b2a_base64", Str.ofString "b64encode"]) mean mg mb h₀) (h6 : cs.kind = .function) (h7 : KBw.bInts bs = ks) (h8 : ks.length ≤ 100) (h9 : dp + 5 < recursionLimit) (h10 : un + 64 < cLine) (hkw : kw = [(Str.ofString "newline", .bool false)])
  (h11 : ∀ (t : Tok) (h' : Heap) (tk' : Nat), Fr h₀ L h' m → News h₀ L h' news → Q (.bytes (byteArr (enc ks)) t) { s with heap := h', toks := tk' }) :
  wpAny (model Challenge.rw_mg0015_01.row.prog w) (ktrTop dp un gd cn cs L a ccd cl outer) (call (.ref 43) [.bytes bs tb] kw) Q E s := by
  subst hkw
  exact b2a _ _ _ _ _ _ _ _ _ _ _ _ _ _ _ _ _ _ _ _ _ _ _ _ _ h1 h2 h3 h4 h5 h6 h7 h8 h9 h10 h11
/-- the alphabet's last two signs put in the place of + and / -/
def alt2 (p0 p1 c : Int) : Int := if c = 43 then p0 else if c = 47 then p1 else c
theorem two_of {as : Array UInt8} {p0 p1 : Int} (h : KBw.bInts as = [p0, p1]) : ∃ x y : UInt8, as = #[x, y] ∧ p0 = (x.toNat : Int) ∧ p1 = (y.toNat : Int) := by
  obtain ⟨l⟩ := as
  match l, h with
  | [x, y], h =>
    have h' : [((x.toNat : Nat) : Int), ((y.toNat : Nat) : Int)] = [p0, p1] := h
    simp only [List.cons.injEq, and_true] at h'
    exact ⟨x, y, rfl, h'.1.symm, h'.2.symm⟩
  | [], h => exact absurd (congrArg List.length h) (by simp [KBw.bInts])
  | [_], h => exact absurd (congrArg List.length h) (by simp [KBw.bInts])
  | _ :: _ :: _ :: _, h => exact absurd (congrArg List.length h) (by simp [KBw.bInts])
theorem swp_arr {ks : List Int} {x y : UInt8} (ho : Oct ks) : (byteArr ks).map (swp x y) = byteArr (ks.map (alt2 (x.toNat : Int) (y.toNat : Int))) := by
  unfold byteArr
  rw [List.map_toArray, List.map_map, List.map_map]
  congr 1
  refine List.map_congr_left fun c hc => ?_
  obtain ⟨h0, h1⟩ := ho c hc
  obtain ⟨n, rfl⟩ := Int.eq_ofNat_of_zero_le h0
  show swp x y (UInt8.ofNat n) = UInt8.ofNat (alt2 _ _ (n : Int)).toNat
  have hn : n < 256 := by omega
  have e : ∀ k : Nat, k < 256 → (UInt8.ofNat n = UInt8.ofNat k ↔ (n : Int) = (k : Int)) := by
    intro k hk
    rw [← UInt8.toNat_inj, UInt8.toNat_ofNat', UInt8.toNat_ofNat']
    omega
  unfold swp alt2
  have e43 : UInt8.ofNat n = 43 ↔ (n : Int) = 43 := e 43 (by decide)
  have e47 : UInt8.ofNat n = 47 ↔ (n : Int) = 47 := e 47 (by decide)
  by_cases h43 : (n : Int) = 43
  · rw [if_pos h43, if_pos (e43.mpr h43)]
    simp
  · rw [if_neg h43, if_neg (fun h => h43 (e43.mp h))]
    by_cases h47 : (n : Int) = 47
    · rw [if_pos h47, if_pos (e47.mpr h47)]
      simp
    · rw [if_neg h47, if_neg (fun h => h47 (e47.mp h))]
      simp
section
local macro_rules | `(tactic| k_room) => `(tactic| ktr_room)
local macro_rules | `(tactic| k_steps) => `(tactic| repeat' ((fail_if_success (with_reducible show wpAny _ _ (call (Value.ref 43) _ _) _ _ _)); (first | (k_unfold; (try dsimp only)) | walk1 | (dsimp only [List.cons_append, List.nil_append]; walk1))))
local macro_rules | `(tactic| walk_at "getMethod type:bytes") => `(tactic| (k_here; refine' method_type (v := .builtin "bytes.maketrans") ?F ?X ?m (by decide +kernel) ?e ?h ?_; (case F => k_asm); (case X => k_asm); (case m => first | rfl | kernel_rfl); (case e => k_dflt k_is); (case h => k_handed)))
local macro_rules | `(tactic| walk_at "call builtin:bytes.maketrans") => `(tactic| (k_here; refine mt_call ?_))
local macro_rules | `(tactic| walk_at "getMethod bytes") => `(tactic| (k_here; (with_reducible refine tr_method ?_)))
local macro_rules | `(tactic| walk_at "call builtin:bytes.translate") => `(tactic| (k_here; refine tr_call ?sz ?_; (case sz => assumption); intro _ _))
theorem b64 : ∀ (w : World) (mean : ExcName → Option Value) (mg mb : Str → Option Value)
  (bs : Array UInt8) (ks : List Int) (tb : Tok) (p0 p1 : Int) (as : Array UInt8) (ta : Tok) (news : List (Addr × Obj))
  (dp un : Nat) (gd : Option (List Code)) (cn : Str) (cs : Scope) (a : Addr) (ccd : Value) (cl : List (Str × Addr)) (outer : List Env) (A₀ : Around) (base h₀ : Heap) (L : Addr) (m : Str → Option Value) (s : Shared) (Q E : Value → Shared → Prop)
  (_ : Below A₀ base outer h₀) (_ : Fr h₀ L s.heap m) (_ : (hd.heap_39 w.params).In h₀) (_ : News h₀ L s.heap news) (_ : Top hd.view_39 (looseW hd.view_39 [Str.ofString "b2a_base64", Str.ofString "b64encode"]) mean mg mb h₀) (_ : cs.kind = .function) (_ : KBw.bInts bs = ks) (_ : ks.length ≤ 100) (_ : (enc ks).length ≤ 1000) (_ : KBw.bInts as = [p0, p1]) (_ : dp + 7 < recursionLimit) (_ : un + 100 < cLine)
  (_ : ∀ (t : Tok) (h' : Heap) (tk' : Nat), Fr h₀ L h' m → News h₀ L h' news → Q (.bytes (byteArr ((enc ks).map (alt2 p0 p1))) t) { s with heap := h', toks := tk' }),
  wpAny (model Challenge.rw_mg0015_01.row.prog w) (ktrTop dp un gd cn cs L a ccd cl outer) (call (.ref 51) [.bytes bs tb, .bytes as ta]) Q E s := by
  w_on
  k_fill
  intro w mean mg mb bs ks tb p0 p1 as ta news dp un gd cn cs a ccd cl outer A₀ base h₀ L m s Q E B F X N T hk hks hb hel has hdd hu hret
  w_top on
  obtain ⟨x, y, rfl, rfl, rfl⟩ := two_of has
  have hsz : (byteArr (enc ks)).size ≤ 10000 := by rw [byteArr_size]; omega
  refine wpAny_call ?_
  k_dflt (refine' code_def ?k1 ?k2 ?k3 ?k4 ?k5 ?kA ?kF ?kK ?k6 ?k7 ?k8 ?k9 ?kB ?_ ?c2 ?c3 ?c4 ?c5; (case kA => exact rfl); (case kF => exact rfl); (case kK => assumption); (case k1 => k_asm); (case k2 => k_asm); (case k3 => k_asm); (case k4 => k_asm); (case k5 => k_asm); (case k6 => k_is); (case k7 => k_is); (case k8 => ktr_room); (case k9 => first | exact BindsTo.of_eq rfl | exact binds_K (by k_in) rfl (by k_is) rfl rfl rfl); (case c5 => decide); (case kB => exact locs rfl); (case c2 => exact rfl); (case c3 => exact rfl); (case c4 => exact rfl); k_whole; intro g' L' h' FG' F' N' B' X' T'; (try dsimp only); (try k_lift B'); (try k_fold))
  k_steps
  refine' b2a_use ?k1 ?k2 ?k3 ?k4 ?k5 ?kK hks hb ?kd ?ku ?kw ?_
  (case k1 => k_asm)
  (case k2 => k_asm)
  (case k3 => k_asm)
  (case k4 => k_asm)
  (case k5 => k_asm)
  (case kK => first | exact rfl | assumption)
  (case kd => ktr_room)
  (case ku => ktr_units)
  (case kw => rfl)
  intro t9 h9 tk9 F9 N9
  k_steps
  · rw [swp_arr (enc_oct (hks ▸ bInts_oct bs))]
    exact hret _ _ _ (by k_asm) (by k_asm)
  · exact absurd rfl ‹¬ (([((x.toNat : Nat) : Int), ((y.toNat : Nat) : Int)].length : Nat) : Int) = 2›
theorem b64u : ∀ (w : World) (mean : ExcName → Option Value) (mg mb : Str → Option Value)
  (bs : Array UInt8) (ks : List Int) (tb : Tok) (news : List (Addr × Obj))
  (dp un : Nat) (gd : Option (List Code)) (cn : Str) (cs : Scope) (a : Addr) (ccd : Value) (cl : List (Str × Addr)) (outer : List Env) (A₀ : Around) (base h₀ : Heap) (L : Addr) (m : Str → Option Value) (s : Shared) (Q E : Value → Shared → Prop)
  (_ : Below A₀ base outer h₀) (_ : Fr h₀ L s.heap m) (_ : (hd.heap_39 w.params).In h₀) (_ : News h₀ L s.heap news) (_ : Top hd.view_39 (looseW hd.view_39 [Str.ofString "b2a_base64", Str.ofString "b64encode"]) mean mg mb h₀) (_ : cs.kind = .function) (_ : KBw.bInts bs = ks) (_ : ks.length ≤ 100) (_ : dp + 7 < recursionLimit) (_ : un + 100 < cLine)
  (_ : ∀ (t : Tok) (h' : Heap) (tk' : Nat), Fr h₀ L h' m → News h₀ L h' news → Q (.bytes (byteArr (enc ks)) t) { s with heap := h', toks := tk' }),
  wpAny (model Challenge.rw_mg0015_01.row.prog w) (ktrTop dp un gd cn cs L a ccd cl outer) (call (.ref 51) [.bytes bs tb]) Q E s := by
  w_on
  k_fill
  intro w mean mg mb bs ks tb news dp un gd cn cs a ccd cl outer A₀ base h₀ L m s Q E B F X N T hk hks hb hdd hu hret
  w_top on
  refine wpAny_call ?_
  k_dflt (refine' code_def ?k1 ?k2 ?k3 ?k4 ?k5 ?kA ?kF ?kK ?k6 ?k7 ?k8 ?k9 ?kB ?_ ?c2 ?c3 ?c4 ?c5; (case kA => exact rfl); (case kF => exact rfl); (case kK => assumption); (case k1 => k_asm); (case k2 => k_asm); (case k3 => k_asm); (case k4 => k_asm); (case k5 => k_asm); (case k6 => k_is); (case k7 => k_is); (case k8 => ktr_room); (case k9 => first | exact BindsTo.of_eq rfl | exact binds_K (by k_in) rfl (by k_is) rfl rfl rfl); (case c5 => decide); (case kB => exact locs rfl); (case c2 => exact rfl); (case c3 => exact rfl); (case c4 => exact rfl); k_whole; intro g' L' h' FG' F' N' B' X' T'; (try dsimp only); (try k_lift B'); (try k_fold))
  k_steps
  refine' b2a_use ?k1 ?k2 ?k3 ?k4 ?k5 ?kK hks hb ?kd ?ku ?kw ?_
  (case k1 => k_asm)
  (case k2 => k_asm)
  (case k3 => k_asm)
  (case k4 => k_asm)
  (case k5 => k_asm)
  (case kK => first | exact rfl | assumption)
  (case kd => ktr_room)
  (case ku => ktr_units)
  (case kw => rfl)
  intro t9 h9 tk9 F9 N9
  k_steps
  exact hret _ _ _ (by k_asm) (by k_asm)
end
end Mine
end
section
open PySem PySem.W PyProof.Rows PySem.Spec PySem.Calls PyProof.V
set_option maxRecDepth 100000
namespace Mine
section
variable {prog : Program} {w : World} {A : Around} {E : Value → Shared → Prop} {s : Shared} {env : Env} {h₀ : Heap} {x : PySem.Str} {body : List Stmt} {Q : Flow → Shared → Prop}

/-- a loop over a list of ints of the ledger that grows another one and turns two int names -/
theorem listLoop2 {lx : Addr} {vx : List Value} {ns : List Int} {nx : Nat} {m₀ : PySem.Str → Option Value} {l : Addr} {nn : Nat} {news : List (Addr × Obj)} {vs₀ : List Value} {out₀ : List Int} {i₀ j₀ : Int} {ti₀ tj₀ : Tok}
    (xi xj : PySem.Str) (stored : List PySem.Str) (P : List Int → List Int → Int → Int → Prop) (hh : A.handled = none)
    (F : Fr h₀ env.locals s.heap m₀) (N : News h₀ env.locals s.heap ((l, W.listOf vs₀.toArray nn) :: news)) (hx : (lx, W.listOf vx.toArray nx) ∈ news) (hvx : IntsAre vx ns) (hv : IntsAre vs₀ out₀) (hi : m₀ xi = some (.int i₀ ti₀)) (hj : m₀ xj = some (.int j₀ tj₀)) (hp : P [] out₀ i₀ j₀)
    (turn : ∀ (vs : List Value) (out : List Int) (nn : Nat) (i : Int) (ti : Tok) (j : Int) (tj : Tok) (pre post : List Int) (n : Int) (t : Tok) (u : PySem.Str → Option Value) (h : Heap) (tk : Nat) (own : List (Addr × Obj)), ns = pre ++ n :: post → OwnOff own (l :: news.map (·.1)) → IntsAre vs out → vs.length = out.length → P pre out i j →
      Fr h₀ env.locals h (fun y => if y = x then some (.int n t) else if y = xi then some (.int i ti) else if y = xj then some (.int j tj) else if stored.contains y then u y else m₀ y) → News h₀ env.locals h ((l, W.listOf vs.toArray nn) :: (news ++ own)) →
      wpAny (model prog w) A (execs body env) (fun fl s' => Stop (fl = .next ∧ ∃ (vs' : List Value) (out' : List Int) (nn' : Nat) (i' : Int) (ti' : Tok) (j' : Int) (tj' : Tok) (h' : Heap) (tk' : Nat) (m' : PySem.Str → Option Value), s' = { s with heap := h', toks := tk' } ∧ IntsAre vs' out' ∧ P (pre ++ [n]) out' i' j' ∧
        Fr h₀ env.locals h' m' ∧ m' xi = some (.int i' ti') ∧ m' xj = some (.int j' tj') ∧ (∀ z, z ≠ x → z ≠ xi → z ≠ xj → stored.contains z = false → m' z = m₀ z) ∧ News h₀ env.locals h' ((l, W.listOf vs'.toArray nn') :: (news ++ own)))) E { s with heap := h, toks := tk })
    (done : ∀ (vs : List Value) (out : List Int) (nn : Nat) (i : Int) (ti : Tok) (j : Int) (tj : Tok) (u : PySem.Str → Option Value) (h : Heap) (tk : Nat), IntsAre vs out → vs.length = out.length → P ns out i j →
      Fr h₀ env.locals h (fun y => if y = x then u y else if y = xi then some (.int i ti) else if y = xj then some (.int j tj) else if stored.contains y then u y else m₀ y) → News h₀ env.locals h ((l, W.listOf vs.toArray nn) :: news) → Q .next { s with heap := h, toks := tk }) :
    wpAny (model prog w) A (pyIter (.ref lx)) (fun it s₂ => LoopAtV prog w A h₀ env x body Q E it s₂) E s := by
  refine kst_listL (σ := List Value × List Int × Nat × Int × Tok × Int × Tok) (vs := vx) (ns := ns) (nn := nx)
     (fun c => (l, W.listOf c.1.toArray c.2.2.1) :: news)
     (fun c => [(xi, .int c.2.2.2.1 c.2.2.2.2.1), (xj, .int c.2.2.2.2.2.1 c.2.2.2.2.2.2)])
     (fun c => IntsAre c.1 c.2.1) stored
     (fun pre c => P pre c.2.1 c.2.2.2.1 c.2.2.2.2.2.1)
     (vs₀, out₀, nn, i₀, ti₀, j₀, tj₀) hh (fun _ => .tail _ hx) hvx F N hv ?_ hp ?_ ?_
  · intro p hp
    simp only [List.mem_cons, List.not_mem_nil, or_false] at hp
    rcases hp with rfl | rfl
    · exact hi
    · exact hj
  · rintro ⟨vs, out, nn, i, ti, j, tj⟩ pre post n t u h tk own e hlt off hf hP Fh Nh
    refine wpAny_mono (turn vs out nn i ti j tj pre post n t u h tk own e off hf hf.length hP ?_ Nh) (fun fl s' hq => ?_) fun _ _ x => x
    · exact Fh
    · obtain ⟨rfl, vs', out', nn', i', ti', j', tj', h', tk', m', rfl, hf', hP', F', e1, e2, e3, N'⟩ := hq.out
      show InvEndN _ _ _ _ _ _ _
      refine kst_end (⟨vs', out', nn', i', ti', j', tj'⟩ : List Value × List Int × Nat × Int × Tok × Int × Tok) F' N' ?_ ?_ rfl hf' ?_ ?_ hP'
      · intro p hp
        rcases List.mem_cons.mp hp with rfl | hp
        · exact .head _
        · exact .tail _ (List.mem_append.mpr (.inl hp))
      · intro p hp
        exact .tail _ (List.mem_append.mpr (.inr hp))
      · intro p hp
        simp only [List.mem_cons, List.not_mem_nil, or_false] at hp
        rcases hp with rfl | rfl
        · exact e1
        · exact e2
      · intro z h1 h2 h3
        exact e3 z h1 (h2 (xi, _) (.head _)) (h2 (xj, _) (.tail _ (.head _))) h3
  · rintro ⟨vs, out, nn, i, ti, j, tj⟩ u h tk hf hP Fh Nh
    exact done vs out nn i ti j tj u h tk hf hf.length hP Fh Nh
/-- a loop over a range that grows one list of ints -/
theorem rangeLoop1 {r : Addr} {b₀ : Int} {t₀ u₀ v₀ : Tok} {n : Nat} {m₀ : PySem.Str → Option Value} {l : Addr} {nn : Nat} {news : List (Addr × Obj)} {vs₀ : List Value} {out₀ : List Int}
    (stored : List PySem.Str) (P : List Int → List Int → Prop) (hh : A.handled = none)
    (hr : IsRange s.heap r 0 b₀ 1 t₀ u₀ v₀) (hsmall : Builtin.Range.small 0 b₀ 1 = true) (hn : Builtin.Range.rangeSize 0 b₀ 1 = (n : Int))
    (F : Fr h₀ env.locals s.heap m₀) (N : News h₀ env.locals s.heap ((l, W.listOf vs₀.toArray nn) :: news)) (hv : IntsAre vs₀ out₀) (hp : P [] out₀)
    (turn : ∀ (vs : List Value) (out : List Int) (nn : Nat) (pre : List Int) (k : Int) (t : Tok) (u : PySem.Str → Option Value) (h : Heap) (tk : Nat) (own : List (Addr × Obj)), k = (pre.length : Int) → pre.length < n → OwnOff own (l :: news.map (·.1)) → IntsAre vs out → vs.length = out.length → P pre out →
      Fr h₀ env.locals h (fun y => if y = x then some (.int k t) else if stored.contains y then u y else m₀ y) → News h₀ env.locals h ((l, W.listOf vs.toArray nn) :: (news ++ own)) →
      wpAny (model prog w) A (execs body env) (fun fl s' => Stop (fl = .next ∧ ∃ (vs' : List Value) (out' : List Int) (nn' : Nat) (h' : Heap) (tk' : Nat) (m' : PySem.Str → Option Value) (own' : List (Addr × Obj)), s' = { s with heap := h', toks := tk' } ∧ IntsAre vs' out' ∧ P (pre ++ [k]) out' ∧
        Fr h₀ env.locals h' m' ∧ (∀ z, z ≠ x → stored.contains z = false → m' z = m₀ z) ∧ News h₀ env.locals h' (own' ++ (l, W.listOf vs'.toArray nn') :: (news ++ own)))) E { s with heap := h, toks := tk })
    (done : ∀ (vs : List Value) (out : List Int) (nn : Nat) (u : PySem.Str → Option Value) (h : Heap) (tk : Nat), IntsAre vs out → vs.length = out.length → P (rangeKs 0 n) out →
      Fr h₀ env.locals h (fun y => if y = x then u y else if stored.contains y then u y else m₀ y) → News h₀ env.locals h ((l, W.listOf vs.toArray nn) :: news) → Q .next { s with heap := h, toks := tk }) :
    wpAny (model prog w) A (pyIter (.ref r)) (fun it s₂ => LoopAtV prog w A h₀ env x body Q E it s₂) E s := by
  refine kst_range (σ := List Value × List Int × Nat) (a₀ := 0) (n := n)
     (fun c => (l, W.listOf c.1.toArray c.2.2) :: news)
     (fun _ => [])
     (fun c => IntsAre c.1 c.2.1) stored
     (fun pre c => P pre c.2.1)
     (vs₀, out₀, nn) hh hr hsmall hn F N hv (fun _ h => nomatch h) hp ?_ ?_
  · rintro ⟨vs, out, nn⟩ pre k t u h tk own e hlt off hf hP Fh Nh
    refine wpAny_mono (turn vs out nn pre k t u h tk own (by omega) hlt off hf hf.length hP Fh Nh) (fun fl s' hq => ?_) fun _ _ x => x
    obtain ⟨rfl, vs', out', nn', h', tk', m', own', rfl, hf', hP', F', e3, N'⟩ := hq.out
    show InvEndN _ _ _ _ _ _ _
    refine kst_end (⟨vs', out', nn'⟩ : List Value × List Int × Nat) F' N' ?_ ?_ rfl hf' ?_ ?_ hP'
    · intro p hp
      refine List.mem_append.mpr (.inr ?_)
      rcases List.mem_cons.mp hp with rfl | hp
      · exact .head _
      · exact .tail _ (List.mem_append.mpr (.inl hp))
    · intro p hp
      exact List.mem_append.mpr (.inr (.tail _ (List.mem_append.mpr (.inr hp))))
    · intro p hp
      exact nomatch hp
    · intro z h1 _ h3
      exact e3 z h1 h3
  · rintro ⟨vs, out, nn⟩ u h tk hf hP Fh Nh
    exact done vs out nn u h tk hf hf.length hP Fh Nh
end
end Mine
end
section
open PySem PySem.W PyProof.Rows PySem.Spec PySem.Calls
set_option maxRecDepth 100000
set_option maxHeartbeats 4000000
namespace Mine
/-- what _law_figure makes of a code -/
def fig (p0 p1 c : Int) : Int := if 65 ≤ c % 128 ∧ c % 128 ≤ 90 then c % 32 - 1 else if 97 ≤ c % 128 ∧ c % 128 ≤ 122 then c % 32 + 25 else if 48 ≤ c % 128 ∧ c % 128 ≤ 57 then c % 32 + 36 else if c % 128 = p0 then 62 else if c % 128 = p1 then 63 else -1
theorem fig_ret {h₀ h' : Heap} {L : Addr} {m : Str → Option Value} {news : List (Addr × Obj)} {s : Shared} {Q : Value → Shared → Prop} {x y : Int} {t : Tok} {tk' : Nat}
    (hret : ∀ (t : Tok) (h' : Heap) (tk' : Nat), Fr h₀ L h' m → News h₀ L h' news → Q (.int x t) { s with heap := h', toks := tk' }) (e : y = x) (F : Fr h₀ L h' m) (N : News h₀ L h' news) : Q (.int y t) { s with heap := h', toks := tk' } := by
  subst e
  exact hret t h' tk' F N
theorem any_t {k p0 p1 : Int} {t0 t1 : Tok} (h : k = p0 ∨ k = p1) : (#[Value.int p0 t0, Value.int p1 t1] : Array Value).toList.any (isInt k) = true := by
  show (isInt k (Value.int p0 t0) || (isInt k (Value.int p1 t1) || false)) = true
  rcases h with rfl | rfl <;> simp [isInt]
theorem any_f {k p0 p1 : Int} {t0 t1 : Tok} (h0 : ¬ k = p0) (h1 : ¬ k = p1) : (#[Value.int p0 t0, Value.int p1 t1] : Array Value).toList.any (isInt k) = false := by
  show (isInt k (Value.int p0 t0) || (isInt k (Value.int p1 t1) || false)) = false
  simp [isInt]; omega
theorem kfat_0 {k p0 p1 : Int} {t0 t1 : Tok} (h : k = p0) : kf_at k (#[Value.int p0 t0, Value.int p1 t1] : Array Value).toList = some 0 := by
  subst h
  simp [kf_at, isInt]
theorem kfat_1 {k p0 p1 : Int} {t0 t1 : Tok} (h : ¬ k = p0) (h' : k = p1) : kf_at k (#[Value.int p0 t0, Value.int p1 t1] : Array Value).toList = some 1 := by
  subst h'
  have e : isInt k (Value.int p0 t0) = false := by simp [isInt]; omega
  simp only [kf_at, e]
  simp [isInt]
section
local macro_rules | `(tactic| k_room) => `(tactic| ktr_room)
local macro_rules | `(tactic| k_steps) => `(tactic| repeat' ((first | (k_unfold; (try dsimp only)) | walk1 | (dsimp only [List.cons_append, List.nil_append]; walk1))))
local macro_rules | `(tactic| walk_at "call builtin:isinstance") => `(tactic| (with_reducible refine IsiPair.int_str ?_))
theorem altC : ∀ (w : World) (mean : ExcName → Option Value) (mg mb : Str → Option Value)
  (c : Int) (tc : Tok) (news : List (Addr × Obj))
  (dp un : Nat) (gd : Option (List Code)) (cn : Str) (cs : Scope) (a : Addr) (ccd : Value) (cl : List (Str × Addr)) (outer : List Env) (A₀ : Around) (base h₀ : Heap) (L : Addr) (m : Str → Option Value) (s : Shared) (Q E : Value → Shared → Prop)
  (_ : Below A₀ base outer h₀) (_ : Fr h₀ L s.heap m) (_ : (hd.heap_39 w.params).In h₀) (_ : News h₀ L s.heap news) (_ : Top hd.view_39 (looseW hd.view_39 [Str.ofString "b2a_base64", Str.ofString "b64encode"]) mean mg mb h₀) (_ : cs.kind = .function) (_ : dp + 4 < recursionLimit) (_ : un + 40 < cLine) 
  (_ : ∀ (t : Tok) (h' : Heap) (tk' : Nat), Fr h₀ L h' m → News h₀ L h' news → Q (.int (Builtin.bitOr c 128) t) { s with heap := h', toks := tk' }),
  wpAny (model Challenge.rw_mg0015_01.row.prog w) (ktrTop dp un gd cn cs L a ccd cl outer) (call (.ref 100) [.int c tc]) Q E s := by
  w_on
  k_fill
  intro w mean mg mb c tc news dp un gd cn cs a ccd cl outer A₀ base h₀ L m s Q E B F X N T hk hdd hu  hret
  w_top on
  refine wpAny_call ?_
  k_dflt (refine' code_def ?k1 ?k2 ?k3 ?k4 ?k5 ?kA ?kF ?kK ?k6 ?k7 ?k8 ?k9 ?kB ?_ ?c2 ?c3 ?c4 ?c5; (case kA => exact rfl); (case kF => exact rfl); (case kK => assumption); (case k1 => k_asm); (case k2 => k_asm); (case k3 => k_asm); (case k4 => k_asm); (case k5 => k_asm); (case k6 => k_is); (case k7 => k_is); (case k8 => ktr_room); (case k9 => first | exact BindsTo.of_eq rfl | exact binds_K (by k_in) rfl (by k_is) rfl rfl rfl); (case c5 => decide); (case kB => exact locs rfl); (case c2 => exact rfl); (case c3 => exact rfl); (case c4 => exact rfl); k_whole; intro g' L' h' FG' F' N' B' X' T'; (try dsimp only); (try k_lift B'); (try k_fold))
  k_steps
  exact hret _ _ _ (by k_asm) (by k_asm)
theorem graphC : ∀ (w : World) (mean : ExcName → Option Value) (mg mb : Str → Option Value)
  (c : Int) (tc : Tok) (news : List (Addr × Obj))
  (dp un : Nat) (gd : Option (List Code)) (cn : Str) (cs : Scope) (a : Addr) (ccd : Value) (cl : List (Str × Addr)) (outer : List Env) (A₀ : Around) (base h₀ : Heap) (L : Addr) (m : Str → Option Value) (s : Shared) (Q E : Value → Shared → Prop)
  (_ : Below A₀ base outer h₀) (_ : Fr h₀ L s.heap m) (_ : (hd.heap_39 w.params).In h₀) (_ : News h₀ L s.heap news) (_ : Top hd.view_39 (looseW hd.view_39 [Str.ofString "b2a_base64", Str.ofString "b64encode"]) mean mg mb h₀) (_ : cs.kind = .function) (_ : dp + 4 < recursionLimit) (_ : un + 40 < cLine) (_ : 33 ≤ c) (_ : c ≤ 126)
  (_ : ∀ (t : Tok) (h' : Heap) (tk' : Nat), Fr h₀ L h' m → News h₀ L h' news → Q (.bool true) { s with heap := h', toks := tk' }),
  wpAny (model Challenge.rw_mg0015_01.row.prog w) (ktrTop dp un gd cn cs L a ccd cl outer) (call (.ref 72) [.int c tc]) Q E s := by
  w_on
  k_fill
  intro w mean mg mb c tc news dp un gd cn cs a ccd cl outer A₀ base h₀ L m s Q E B F X N T hk hdd hu h0 h1 hret
  w_top on
  refine wpAny_call ?_
  k_dflt (refine' code_def ?k1 ?k2 ?k3 ?k4 ?k5 ?kA ?kF ?kK ?k6 ?k7 ?k8 ?k9 ?kB ?_ ?c2 ?c3 ?c4 ?c5; (case kA => exact rfl); (case kF => exact rfl); (case kK => assumption); (case k1 => k_asm); (case k2 => k_asm); (case k3 => k_asm); (case k4 => k_asm); (case k5 => k_asm); (case k6 => k_is); (case k7 => k_is); (case k8 => ktr_room); (case k9 => first | exact BindsTo.of_eq rfl | exact binds_K (by k_in) rfl (by k_is) rfl rfl rfl); (case c5 => decide); (case kB => exact locs rfl); (case c2 => exact rfl); (case c3 => exact rfl); (case c4 => exact rfl); k_whole; intro g' L' h' FG' F' N' B' X' T'; (try dsimp only); (try k_lift B'); (try k_fold))
  k_steps
  rw [decide_eq_true h1]
  exact hret 0 _ _ (by k_asm) (by k_asm)
local macro_rules | `(tactic| walk_at "compareOp In int ref") => `(tactic| (k_here; first
  | (refine' kf_in (b := true) ?N ?m ?i ?e ?_; (case N => k_asm); (case m => assumption); (case i => rfl); (case e => first | exact any_t (.inl (by assumption)) | exact any_t (.inr (by assumption))))
  | (refine' kf_in (b := false) ?N ?m ?i ?e ?_; (case N => k_asm); (case m => assumption); (case i => rfl); (case e => exact any_f (by assumption) (by assumption)))))
local macro_rules | `(tactic| walk_at "call builtin:list.index") => `(tactic| (k_here; first
  | (refine' kf_index (i := 0) (j := 0) ?N ?m ?i ?e rfl ?z ?_; (case N => k_asm); (case m => assumption); (case i => rfl); (case e => exact kfat_0 (by assumption)); (case z => (show 2 ≤ sizeLine; rw [sizeLine_eq]; decide)))
  | (refine' kf_index (i := 1) (j := 1) ?N ?m ?i ?e rfl ?z ?_; (case N => k_asm); (case m => assumption); (case i => rfl); (case e => exact kfat_1 (by assumption) (by assumption)); (case z => (show 2 ≤ sizeLine; rw [sizeLine_eq]; decide)))))
local macro_rules | `(tactic| walk_at "getMethod ref") => `(tactic| (k_here; (with_reducible show wpAny _ _ (getMethod (Value.ref _) (PySem.Str.ofString "index") _) _ _ _); (refine' kf_method ?N ?m PySem.F.slot_list_index PySem.F.type_list_index ?_; (case N => k_asm); (case m => assumption))))
theorem figC : ∀ (w : World) (mean : ExcName → Option Value) (mg mb : Str → Option Value)
  (c : Int) (tc : Tok) (l : Addr) (p0 p1 : Int) (t0 t1 : Tok) (nn : Nat) (news : List (Addr × Obj))
  (dp un : Nat) (gd : Option (List Code)) (cn : Str) (cs : Scope) (a : Addr) (ccd : Value) (cl : List (Str × Addr)) (outer : List Env) (A₀ : Around) (base h₀ : Heap) (L : Addr) (m : Str → Option Value) (s : Shared) (Q E : Value → Shared → Prop)
  (_ : Below A₀ base outer h₀) (_ : Fr h₀ L s.heap m) (_ : (hd.heap_39 w.params).In h₀) (_ : News h₀ L s.heap news) (_ : Top hd.view_39 (looseW hd.view_39 [Str.ofString "b2a_base64", Str.ofString "b64encode"]) mean mg mb h₀) (_ : cs.kind = .function) (_ : dp + 4 < recursionLimit) (_ : un + 40 < cLine) (_ : (l, W.listOf [.int p0 t0, .int p1 t1].toArray nn) ∈ news)
  (_ : ∀ (t : Tok) (h' : Heap) (tk' : Nat), Fr h₀ L h' m → News h₀ L h' news → Q (.int (fig p0 p1 c) t) { s with heap := h', toks := tk' }),
  wpAny (model Challenge.rw_mg0015_01.row.prog w) (ktrTop dp un gd cn cs L a ccd cl outer) (call (.ref 107) [.int c tc, .ref l]) Q E s := by
  w_on
  k_fill
  intro w mean mg mb c tc l p0 p1 t0 t1 nn news dp un gd cn cs a ccd cl outer A₀ base h₀ L m s Q E B F X N T hk hdd hu hm hret
  w_top on
  have hfm : c.fmod 128 = c % 128 := Int.fmod_eq_emod_of_nonneg _ (by decide)
  have hb5 : Builtin.bitAnd c 31 = c % 32 := bitAnd_m5 c
  have h3 : c.fmod 128 = p0 ∨ ¬ c.fmod 128 = p0 ∧ c.fmod 128 = p1 ∨ ¬ c.fmod 128 = p0 ∧ ¬ c.fmod 128 = p1 := by omega
  refine wpAny_call ?_
  k_dflt (refine' code_def ?k1 ?k2 ?k3 ?k4 ?k5 ?kA ?kF ?kK ?k6 ?k7 ?k8 ?k9 ?kB ?_ ?c2 ?c3 ?c4 ?c5; (case kA => exact rfl); (case kF => exact rfl); (case kK => assumption); (case k1 => k_asm); (case k2 => k_asm); (case k3 => k_asm); (case k4 => k_asm); (case k5 => k_asm); (case k6 => k_is); (case k7 => k_is); (case k8 => ktr_room); (case k9 => first | exact BindsTo.of_eq rfl | exact binds_K (by k_in) rfl (by k_is) rfl rfl rfl); (case c5 => decide); (case kB => exact locs rfl); (case c2 => exact rfl); (case c3 => exact rfl); (case c4 => exact rfl); k_whole; intro g' L' h' FG' F' N' B' X' T'; (try dsimp only); (try k_lift B'); (try k_fold))
  repeat' ((fail_if_success (with_reducible show wpAny _ _ (compareOp CmpOp.In _ _) _ _ _)); (first | (k_unfold; (try dsimp only)) | walk1 | (dsimp only [List.cons_append, List.nil_append]; walk1)))
  all_goals first
    | (refine fig_ret (Q := Q) (s := s) hret ?_ (by k_asm) (by k_asm); unfold fig; (repeat' split) <;> omega)
    | (rcases h3 with e0 | ⟨e0, e1⟩ | ⟨e0, e1⟩ <;> k_steps <;> (refine fig_ret (Q := Q) (s := s) hret ?_ (by k_asm) (by k_asm); unfold fig; (repeat' split) <;> omega))
end
theorem altC_use {c : Int} {tc : Tok} {w : World} {mean : ExcName → Option Value} {mg mb : Str → Option Value} {news : List (Addr × Obj)}
  {dp un : Nat} {gd : Option (List Code)} {cn : Str} {cs : Scope} {a : Addr} {ccd : Value} {cl : List (Str × Addr)} {outer : List Env} {A₀ : Around} {base h₀ : Heap} {L : Addr} {m : Str → Option Value} {s : Shared} {Q E : Value → Shared → Prop}
  (h1 : Below A₀ base outer h₀) (h2 : Fr h₀ L s.heap m) (h3 : (hd.heap_39 w.params).In h₀) (h4 : News h₀ L s.heap news) (h5 : Top hd.view_39 (looseW hd.view_39 [Str.ofString "b2a_base64", Str.ofString "b64encode"]) mean mg mb h₀) (h6 : cs.kind = .function) (h7 : dp + 4 < recursionLimit) (h8 : un + 40 < cLine) 
  (h11 : ∀ (t : Tok) (h' : Heap) (tk' : Nat), Fr h₀ L h' m → News h₀ L h' news → Q (.int (Builtin.bitOr c 128) t) { s with heap := h', toks := tk' }) :
  wpAny (model Challenge.rw_mg0015_01.row.prog w) (ktrTop dp un gd cn cs L a ccd cl outer) (call (.ref 100) [.int c tc]) Q E s :=
  altC _ _ _ _ _ _ _ _ _ _ _ _ _ _ _ _ _ _ _ _ _ _ _ _ h1 h2 h3 h4 h5 h6 h7 h8  h11
theorem graphC_use {c : Int} {tc : Tok} {w : World} {mean : ExcName → Option Value} {mg mb : Str → Option Value} {news : List (Addr × Obj)}
  {dp un : Nat} {gd : Option (List Code)} {cn : Str} {cs : Scope} {a : Addr} {ccd : Value} {cl : List (Str × Addr)} {outer : List Env} {A₀ : Around} {base h₀ : Heap} {L : Addr} {m : Str → Option Value} {s : Shared} {Q E : Value → Shared → Prop}
  (h1 : Below A₀ base outer h₀) (h2 : Fr h₀ L s.heap m) (h3 : (hd.heap_39 w.params).In h₀) (h4 : News h₀ L s.heap news) (h5 : Top hd.view_39 (looseW hd.view_39 [Str.ofString "b2a_base64", Str.ofString "b64encode"]) mean mg mb h₀) (h6 : cs.kind = .function) (h7 : dp + 4 < recursionLimit) (h8 : un + 40 < cLine) (h9 : 33 ≤ c) (h10 : c ≤ 126)
  (h11 : ∀ (t : Tok) (h' : Heap) (tk' : Nat), Fr h₀ L h' m → News h₀ L h' news → Q (.bool true) { s with heap := h', toks := tk' }) :
  wpAny (model Challenge.rw_mg0015_01.row.prog w) (ktrTop dp un gd cn cs L a ccd cl outer) (call (.ref 72) [.int c tc]) Q E s :=
  graphC _ _ _ _ _ _ _ _ _ _ _ _ _ _ _ _ _ _ _ _ _ _ _ _ h1 h2 h3 h4 h5 h6 h7 h8 h9 h10 h11
theorem figC_use {c : Int} {tc : Tok} {l : Addr} {p0 p1 : Int} {t0 t1 : Tok} {nn : Nat} {w : World} {mean : ExcName → Option Value} {mg mb : Str → Option Value} {news : List (Addr × Obj)}
  {dp un : Nat} {gd : Option (List Code)} {cn : Str} {cs : Scope} {a : Addr} {ccd : Value} {cl : List (Str × Addr)} {outer : List Env} {A₀ : Around} {base h₀ : Heap} {L : Addr} {m : Str → Option Value} {s : Shared} {Q E : Value → Shared → Prop}
  (h1 : Below A₀ base outer h₀) (h2 : Fr h₀ L s.heap m) (h3 : (hd.heap_39 w.params).In h₀) (h4 : News h₀ L s.heap news) (h5 : Top hd.view_39 (looseW hd.view_39 [Str.ofString "b2a_base64", Str.ofString "b64encode"]) mean mg mb h₀) (h6 : cs.kind = .function) (h7 : dp + 4 < recursionLimit) (h8 : un + 40 < cLine) (h9 : (l, W.listOf [.int p0 t0, .int p1 t1].toArray nn) ∈ news)
  (h11 : ∀ (t : Tok) (h' : Heap) (tk' : Nat), Fr h₀ L h' m → News h₀ L h' news → Q (.int (fig p0 p1 c) t) { s with heap := h', toks := tk' }) :
  wpAny (model Challenge.rw_mg0015_01.row.prog w) (ktrTop dp un gd cn cs L a ccd cl outer) (call (.ref 107) [.int c tc, .ref l]) Q E s :=
  figC _ _ _ _ _ _ _ _ _ _ _ _ _ _ _ _ _ _ _ _ _ _ _ _ _ _ _ _ _ _ h1 h2 h3 h4 h5 h6 h7 h8 h9 h11
end Mine
end
section
open PySem PySem.W PyProof.Rows PySem.Spec PySem.Calls PyProof.V
set_option maxRecDepth 100000
namespace Mine
abbrev RdSt := List Int × Int × Int
/-- one turn of the reader, where it stays in its bounds -/
def rdT (p0 p1 : Int) (st : Option RdSt) (c : Int) : Option RdSt :=
  match st with
  | none => none
  | some (o, h, m) =>
    if 0 ≤ fig p0 p1 c then
      if m = 0 then some (o, h * 64 + fig p0 p1 c, 6)
      else some (o ++ [(h * 64 + fig p0 p1 c) / 2 ^ (m - 2).toNat], (h * 64 + fig p0 p1 c) % 2 ^ (m - 2).toNat, m - 2)
    else if c % 128 = 61 then (if h = 0 ∧ 2 ≤ m then some (o, h, m - 2) else none)
    else some (o, h, m)
def rd (p0 p1 : Int) (l : List Int) (st : Option RdSt) : Option RdSt := l.foldl (rdT p0 p1) st
theorem rd_none (p0 p1 : Int) : ∀ l : List Int, rd p0 p1 l none = none
  | [] => rfl
  | _ :: r => rd_none p0 p1 r
theorem rd_app (p0 p1 : Int) (a b : List Int) (st : Option RdSt) : rd p0 p1 (a ++ b) st = rd p0 p1 b (rd p0 p1 a st) := by simp [rd]
theorem fig_lt (p0 p1 c : Int) : fig p0 p1 c < 64 := by
  unfold fig
  repeat' split
  all_goals omega
theorem fig_ge (p0 p1 c : Int) : -1 ≤ fig p0 p1 c := by
  unfold fig
  repeat' split
  all_goals omega
def RdOk (st : RdSt) : Prop := (st.2.2 = 0 ∧ st.2.1 = 0) ∨ (st.2.2 = 2 ∧ 0 ≤ st.2.1 ∧ st.2.1 < 4) ∨ (st.2.2 = 4 ∧ 0 ≤ st.2.1 ∧ st.2.1 < 16) ∨ (st.2.2 = 6 ∧ 0 ≤ st.2.1 ∧ st.2.1 < 64)
def RdInv (p0 p1 : Int) (pre o : List Int) (h m : Int) : Prop := RdOk (o, h, m) ∧ rd p0 p1 pre (some ([], 0, 0)) = some (o, h, m) ∧ o.length ≤ pre.length
theorem rdInv_nil (p0 p1 : Int) : RdInv p0 p1 [] [] 0 0 := ⟨.inl ⟨rfl, rfl⟩, rfl, by decide⟩
theorem rd_step {p0 p1 : Int} {pre : List Int} {c : Int} {o : List Int} {h m : Int} (e : rd p0 p1 pre (some ([], 0, 0)) = some (o, h, m)) : rd p0 p1 (pre ++ [c]) (some ([], 0, 0)) = rdT p0 p1 (some (o, h, m)) c := by
  rw [rd_app, e]; rfl
/-- the ways through a turn -/
theorem rd_0 {p0 p1 : Int} {pre o : List Int} {h c f : Int} (i : RdInv p0 p1 pre o h 0) (hf : fig p0 p1 c = f) (f0 : 0 ≤ f) : RdInv p0 p1 (pre ++ [c]) o (h * 64 + f) 6 := by
  obtain ⟨ok, e, hl⟩ := i
  have f1 := fig_lt p0 p1 c
  have h0 : h = 0 := by
    rcases ok with ok | ok | ok | ok <;> simp only at ok
    · exact ok.2
    all_goals omega
  refine ⟨.inr (.inr (.inr ⟨rfl, ?_, ?_⟩)), ?_, by simp; omega⟩
  · show 0 ≤ h * 64 + f
    omega
  · show h * 64 + f < 64
    omega
  · rw [rd_step e]
    simp only [rdT, hf, if_pos f0, if_true]
theorem rd_s {p0 p1 : Int} {pre o : List Int} {h m c f q : Int} (i : RdInv p0 p1 pre o h m) (hm : m = 2 ∨ m = 4 ∨ m = 6) (hf : fig p0 p1 c = f) (f0 : 0 ≤ f) (hq : q = 2 ^ (m - 2).toNat) : RdInv p0 p1 (pre ++ [c]) (o ++ [Int.fdiv (h * 64 + f) q]) (Int.fmod (h * 64 + f) q) (m - 2) := by
  obtain ⟨ok, e, hl⟩ := i
  have f1 := fig_lt p0 p1 c
  have q0 : 0 ≤ q := by subst hq; exact Int.pow_nonneg (by decide)
  rw [Int.fdiv_eq_ediv_of_nonneg _ q0, Int.fmod_eq_emod_of_nonneg _ q0]
  refine ⟨?_, ?_, by simp; omega⟩
  · rcases hm with rfl | rfl | rfl
    · have e9 : q = 1 := hq
      subst e9
      refine .inl ⟨rfl, ?_⟩
      show (h * 64 + f) % 1 = 0
      omega
    · have e9 : q = 4 := hq
      subst e9
      refine .inr (.inl ⟨rfl, ?_⟩)
      show 0 ≤ (h * 64 + f) % 4 ∧ (h * 64 + f) % 4 < 4
      omega
    · have e9 : q = 16 := hq
      subst e9
      refine .inr (.inr (.inl ⟨rfl, ?_⟩))
      show 0 ≤ (h * 64 + f) % 16 ∧ (h * 64 + f) % 16 < 16
      omega
  · rw [rd_step e]
    have n0 : ¬ m = 0 := by omega
    simp only [rdT, hf, if_pos f0, if_neg n0, hq]
theorem rd_p {p0 p1 : Int} {pre o : List Int} {h m c f : Int} (i : RdInv p0 p1 pre o h m) (hm : m = 2 ∨ m = 4 ∨ m = 6) (hf : fig p0 p1 c = f) (f0 : ¬ 0 ≤ f) (hc : c % 128 = 61) (hh : h = 0) : RdInv p0 p1 (pre ++ [c]) o h (m - 2) := by
  obtain ⟨ok, e, hl⟩ := i
  subst hh
  refine ⟨?_, ?_, by simp; omega⟩
  · rcases hm with rfl | rfl | rfl
    · exact .inl ⟨rfl, rfl⟩
    · exact .inr (.inl ⟨rfl, Int.le_refl 0, (by decide : (0 : Int) < 4)⟩)
    · exact .inr (.inr (.inl ⟨rfl, Int.le_refl 0, (by decide : (0 : Int) < 16)⟩))
  · rw [rd_step e]
    have m2 : 2 ≤ m := by omega
    simp only [rdT, hf, if_neg f0, if_pos hc, m2, and_self, if_true]
theorem rd_n {p0 p1 : Int} {pre o : List Int} {h m c f : Int} (i : RdInv p0 p1 pre o h m) (hf : fig p0 p1 c = f) (f0 : ¬ 0 ≤ f) (hc : ¬ c % 128 = 61) : RdInv p0 p1 (pre ++ [c]) o h m := by
  obtain ⟨ok, e, hl⟩ := i
  refine ⟨ok, ?_, by simp; omega⟩
  rw [rd_step e]
  simp only [rdT, hf, if_neg f0, if_neg hc]
/-- what cannot be, if the whole is read -/
theorem rd_x {p0 p1 : Int} {ns pre post o res : List Int} {h m c f : Int} (hns : ns = pre ++ c :: post) (hr : rd p0 p1 ns (some ([], 0, 0)) = some (res, 0, 0)) (i : RdInv p0 p1 pre o h m) (hf : fig p0 p1 c = f) (f0 : ¬ 0 ≤ f) (hc : c % 128 = 61) (hh : ¬ (h = 0 ∧ 2 ≤ m)) : False := by
  obtain ⟨ok, e, hl⟩ := i
  have e2 : ns = (pre ++ [c]) ++ post := by rw [hns]; simp
  rw [e2, rd_app, rd_step e] at hr
  simp only [rdT, hf, if_neg f0, if_pos hc, if_neg hh] at hr
  rw [rd_none] at hr
  cases hr
end Mine
end
section
open PySem PySem.W PyProof.Rows PySem.Spec PySem.Calls
set_option maxRecDepth 100000
set_option maxHeartbeats 4000000
namespace Mine
theorem not1 {a z : Str} (h : [a].contains z = false) : z ≠ a := by
  rintro rfl
  simp at h
theorem rd_s2 {p0 p1 : Int} {pre o : List Int} {h m c f q m' : Int} (i : RdInv p0 p1 pre o h m) (hm : m = 2 ∨ m = 4 ∨ m = 6) (hf : fig p0 p1 c = f) (f0 : 0 ≤ f) (hq : q = 2 ^ (m - 2).toNat) (hm' : m' = m - 2) : RdInv p0 p1 (pre ++ [c]) (o ++ [Int.fdiv (h * 64 + f) q]) (Int.fmod (h * 64 + f) q) m' := by
  subst hm'
  exact rd_s i hm hf f0 hq
section
local macro_rules | `(tactic| k_room) => `(tactic| ktr_room)
local macro_rules | `(tactic| k_steps) => `(tactic| repeat' ((fail_if_success (with_reducible show wpAny _ _ (call (Value.ref 107) _) _ _ _)); (fail_if_success (with_reducible show wpAny _ _ (pyIter (Value.ref _)) _ _ _)); (first | (k_unfold; (try dsimp only)) | walk1 | (dsimp only [List.cons_append, List.nil_append]; walk1))))
local macro_rules | `(tactic| walk_at "call builtin:list.append") => `(tactic| (k_here; refine' append_K ?k1 ?k2 ?k3 ?_ ?z; (case k1 => k_asm); (case k2 => k_asm); (case k3 => k_upd); (case z => (simp only [Array.size_push, List.size_toArray, PySem.sizeLine_eq]; omega)); intro h' F' N'; (try k_sweep)))
theorem readC : ∀ (w : World) (mean : ExcName → Option Value) (mg mb : Str → Option Value)
  (lx : Addr) (vx : List Value) (ns : List Int) (nx : Nat) (l : Addr) (p0 p1 : Int) (t0 t1 : Tok) (nn : Nat) (res : List Int) (news : List (Addr × Obj))
  (dp un : Nat) (gd : Option (List Code)) (cn : Str) (cs : Scope) (a : Addr) (ccd : Value) (cl : List (Str × Addr)) (outer : List Env) (A₀ : Around) (base h₀ : Heap) (L : Addr) (m : Str → Option Value) (s : Shared) (Q E : Value → Shared → Prop)
  (_ : Below A₀ base outer h₀) (_ : Fr h₀ L s.heap m) (_ : (hd.heap_39 w.params).In h₀) (_ : News h₀ L s.heap news) (_ : Top hd.view_39 (looseW hd.view_39 [Str.ofString "b2a_base64", Str.ofString "b64encode"]) mean mg mb h₀) (_ : cs.kind = .function) (_ : dp + 7 < recursionLimit) (_ : un + 80 < cLine)
  (_ : (lx, W.listOf vx.toArray nx) ∈ news) (_ : IntsAre vx ns) (_ : ns.length ≤ 1000) (_ : (l, W.listOf [.int p0 t0, .int p1 t1].toArray nn) ∈ news) (_ : rd p0 p1 ns (some ([], 0, 0)) = some (res, 0, 0))
  (_ : ∀ (lo : Addr) (vo : List Value) (no : Nat) (h' : Heap) (tk' : Nat), IntsAre vo res → Fr h₀ L h' m → News h₀ L h' ((lo, W.listOf vo.toArray no) :: news) → Q (.ref lo) { s with heap := h', toks := tk' }),
  wpAny (model Challenge.rw_mg0015_01.row.prog w) (ktrTop dp un gd cn cs L a ccd cl outer) (call (.ref 114) [.ref lx, .ref l]) Q E s := by
  w_on
  k_fill
  intro w mean mg mb lx vx ns nx l p0 p1 t0 t1 nn res news dp un gd cn cs a ccd cl outer A₀ base h₀ L m s Q E B F X N T hk hdd hu hmx hix hlx hm hrd hret
  w_top on
  refine wpAny_call ?_
  k_dflt (refine' code_def ?k1 ?k2 ?k3 ?k4 ?k5 ?kA ?kF ?kK ?k6 ?k7 ?k8 ?k9 ?kB ?_ ?c2 ?c3 ?c4 ?c5; (case kA => exact rfl); (case kF => exact rfl); (case kK => assumption); (case k1 => k_asm); (case k2 => k_asm); (case k3 => k_asm); (case k4 => k_asm); (case k5 => k_asm); (case k6 => k_is); (case k7 => k_is); (case k8 => ktr_room); (case k9 => first | exact BindsTo.of_eq rfl | exact binds_K (by k_in) rfl (by k_is) rfl rfl rfl); (case c5 => decide); (case kB => exact locs rfl); (case c2 => exact rfl); (case c3 => exact rfl); (case c4 => exact rfl); k_whole; intro g' L' h' FG' F' N' B' X' T'; (try dsimp only); (try k_lift B'); (try k_fold))
  k_steps
  rename Fr _ _ _ _ => lF'
  rename News _ _ _ _ => lN'
  refine listLoop2 (vs₀ := []) (out₀ := []) (Str.ofString "held") (Str.ofString "many") [Str.ofString "figure"] (RdInv p0 p1)
     rfl lF' lN' (by assumption) (by assumption) .nil rfl rfl (rdInv_nil p0 p1) ?turn ?done
  case turn =>
    clear lF' lN'
    intro vs out no hv thv mv tmv pre post c tc u h tk own e off hf hlen hP F' N'
    have kMark := kstMark
    have hpl : pre.length < 1000 := by
      have e9 := congrArg List.length e
      simp only [List.length_append, List.length_cons] at e9
      omega
    have hol := hP.2.2
    have hfm : c.fmod 128 = c % 128 := Int.fmod_eq_emod_of_nonneg _ (by decide)
    have hh0 : 0 ≤ hv ∧ hv < 64 := by
      rcases hP.1 with ok | ok | ok | ok <;> simp only at ok <;> omega
    obtain ⟨hh1, hh2⟩ := hh0
    have hmv : mv = 0 ∨ mv = 2 ∨ mv = 4 ∨ mv = 6 := by
      rcases hP.1 with ok | ok | ok | ok <;> simp only at ok <;> omega
    k_steps
    refine' figC_use ?k1 ?k2 ?k3 ?k4 ?k5 ?kK ?kd ?ku ?km ?_
    (case k1 => k_asm)
    (case k2 => k_asm)
    (case k3 => k_asm)
    (case k4 => k_asm)
    (case k5 => k_asm)
    (case kK => first | exact rfl | assumption)
    (case kd => ktr_room)
    (case ku => ktr_units)
    (case km => exact .tail _ (List.mem_append.mpr (.inl hm)))
    intro t9 h9 tk9 F9 N9
    clear F' N'
    have hf1 := fig_lt p0 p1 c
    have hf2 := fig_ge p0 p1 c
    generalize hff : fig p0 p1 c = f at hf1 hf2
    rcases hmv with rfl | rfl | rfl | rfl
    all_goals k_steps
    all_goals first
      | (exfalso; exact rd_x (by assumption) (by assumption) (by assumption) (by assumption) (by omega) (by omega) (by omega))
      | (rename News _ _ _ _ => N8
         rename Fr _ _ _ _ => F8
         refine Stop.mk ⟨rfl, _, _, _, _, _, _, _, _, _, _, rfl, (by assumption : IntsAre vs out), (by first | exact rd_0 (by assumption) (by assumption) (by omega) | exact rd_p (by assumption) (by omega) (by assumption) (by omega) (by omega) (by omega) | exact rd_n (by assumption) (by assumption) (by omega) (by omega)), F8, rfl, rfl, ?_, N8⟩
         intro z z1 z2 z3 z4
         (have z5 := not1 z4); simp only [if_neg z1, if_neg z2, if_neg z3, if_neg z5, z4, if_false, Bool.false_eq_true])
      | (rename News _ _ _ _ => N8
         rename Fr _ _ _ _ => F8
         simp only [List.push_toArray] at N8
         refine Stop.mk ⟨rfl, _, _, _, _, _, _, _, _, _, _, rfl, IntsAre.append (by assumption : IntsAre vs out) (.cons _ _ .nil), ?inv, F8, rfl, rfl, ?_, N8⟩
         (case inv => exact rd_s2 (by assumption) (by omega) (by assumption) (by omega) (by first | rfl | decide) (by first | rfl | decide))
         intro z z1 z2 z3 z4
         (have z5 := not1 z4); simp only [if_neg z1, if_neg z2, if_neg z3, if_neg z5, z4, if_false, Bool.false_eq_true])
  case done =>
    clear lF' lN'
    intro vs out no hv thv mv tmv u h tk hf hlen hP F' N'
    have kMark := kstMark
    have e9 := hP.2.1
    rw [hrd] at e9
    simp only [Option.some.injEq, Prod.mk.injEq] at e9
    obtain ⟨rfl, rfl, rfl⟩ := e9
    k_steps
    exact hret _ _ _ _ _ (by assumption) (by k_asm) (by k_asm)
end
end Mine
end
section
open PySem PySem.W PyProof.Rows PySem.Spec PySem.Calls PyProof.V
set_option maxRecDepth 100000
namespace Mine
/-- a printing sign that is no letter, no figure and not = -/
def Sig (p : Int) : Prop := 33 ≤ p ∧ p ≤ 126 ∧ ¬ (65 ≤ p ∧ p ≤ 90) ∧ ¬ (97 ≤ p ∧ p ≤ 122) ∧ ¬ (48 ≤ p ∧ p ≤ 57) ∧ ¬ p = 61
theorem fig_tb {p0 p1 i : Int} (s0 : Sig p0) (s1 : Sig p1) (hne : ¬ p0 = p1) (h0 : 0 ≤ i) (h1 : i < 64) : fig p0 p1 (alt2 p0 p1 (tb i)) = i := by
  unfold Sig at s0 s1
  have h4 : i < 26 ∨ 26 ≤ i ∧ i < 52 ∨ 52 ≤ i ∧ i < 62 ∨ i = 62 ∨ i = 63 := by omega
  rcases h4 with h | h | h | h | h
  · have e : tb i = i + 65 := by unfold tb; rw [if_pos h]
    have e2 : alt2 p0 p1 (i + 65) = i + 65 := by unfold alt2; rw [if_neg (by omega), if_neg (by omega)]
    rw [e, e2]; unfold fig; rw [if_pos (by omega)]; omega
  · have e : tb i = i + 71 := by unfold tb; rw [if_neg (by omega), if_pos (by omega)]
    have e2 : alt2 p0 p1 (i + 71) = i + 71 := by unfold alt2; rw [if_neg (by omega), if_neg (by omega)]
    rw [e, e2]; unfold fig; rw [if_neg (by omega), if_pos (by omega)]; omega
  · have e : tb i = i - 4 := by unfold tb; rw [if_neg (by omega), if_neg (by omega), if_pos (by omega)]
    have e2 : alt2 p0 p1 (i - 4) = i - 4 := by unfold alt2; rw [if_neg (by omega), if_neg (by omega)]
    rw [e, e2]; unfold fig; rw [if_neg (by omega), if_neg (by omega), if_pos (by omega)]; omega
  · subst h
    have e2 : alt2 p0 p1 (tb 62) = p0 := rfl
    rw [e2]; unfold fig; rw [if_neg (by omega), if_neg (by omega), if_neg (by omega), if_pos (by omega)]
  · subst h
    have e2 : alt2 p0 p1 (tb 63) = p1 := rfl
    rw [e2]; unfold fig; rw [if_neg (by omega), if_neg (by omega), if_neg (by omega), if_neg (by omega), if_pos (by omega)]
theorem fig_mod {p0 p1 c d : Int} (h : c % 128 = d % 128) : fig p0 p1 c = fig p0 p1 d := by
  have e : c % 32 = d % 32 := by omega
  unfold fig
  rw [h, e]
theorem rdT_mod {p0 p1 c d : Int} {st : Option RdSt} (h : c % 128 = d % 128) : rdT p0 p1 st c = rdT p0 p1 st d := by
  unfold rdT
  rw [fig_mod h, h]
/-- a stray sign -/
def Stray (p0 p1 c : Int) : Prop := fig p0 p1 c = -1 ∧ ¬ c % 128 = 61
theorem rdT_stray {p0 p1 c : Int} {st : Option RdSt} (h : Stray p0 p1 c) : rdT p0 p1 st c = st := by
  unfold rdT
  match st with
  | none => rfl
  | some (o, hd, m) =>
    simp only [h.1, if_neg h.2]
    rfl
theorem rdT_sgn {p0 p1 i : Int} {o : List Int} {h m : Int} (s0 : Sig p0) (s1 : Sig p1) (hne : ¬ p0 = p1) (h0 : 0 ≤ i) (h1 : i < 64) :
    rdT p0 p1 (some (o, h, m)) (alt2 p0 p1 (tb i)) = if m = 0 then some (o, h * 64 + i, 6) else some (o ++ [(h * 64 + i) / 2 ^ (m - 2).toNat], (h * 64 + i) % 2 ^ (m - 2).toNat, m - 2) := by
  unfold rdT
  simp only [fig_tb s0 s1 hne h0 h1, if_pos h0]
theorem rdT_pad {p0 p1 : Int} {o : List Int} {m : Int} (s0 : Sig p0) (s1 : Sig p1) (hm : 2 ≤ m) : rdT p0 p1 (some (o, 0, m)) (alt2 p0 p1 61) = some (o, 0, m - 2) := by
  unfold Sig at s0 s1
  have e : alt2 p0 p1 61 = 61 := rfl
  have e2 : fig p0 p1 61 = -1 := by
    unfold fig
    rw [if_neg (by omega), if_neg (by omega), if_neg (by omega), if_neg (by omega), if_neg (by omega)]
  rw [e]
  unfold rdT
  simp only [e2, hm, and_self, if_true]
  rfl
section
variable {p0 p1 : Int}
def Rel (p0 p1 : Int) (o pre : List Int) (st : List Int × Int × Int) : Prop :=
  ∃ octs held many, rd p0 p1 (st.1.map (alt2 p0 p1)) (some (o, 0, 0)) = some (octs, held, many) ∧
    ((st.2.1 = 0 ∧ st.2.2 = 0 ∧ many = 0 ∧ held = 0 ∧ octs = o ++ pre) ∨ (st.2.1 = 2 ∧ many = 6 ∧ 0 ≤ st.2.2 ∧ st.2.2 < 4 ∧ 0 ≤ held ∧ held < 64 ∧ o ++ pre = octs ++ [held * 4 + st.2.2]) ∨ (st.2.1 = 4 ∧ many = 4 ∧ 0 ≤ st.2.2 ∧ st.2.2 < 16 ∧ 0 ≤ held ∧ held < 16 ∧ o ++ pre = octs ++ [held * 16 + st.2.2]))
theorem rd_snoc (l : List Int) (c : Int) (st : Option RdSt) : rd p0 p1 (l ++ [c]) st = rdT p0 p1 (rd p0 p1 l st) c := by simp [rd]
theorem rel_step (s0 : Sig p0) (s1 : Sig p1) (hne : ¬ p0 = p1) {o pre : List Int} {st : List Int × Int × Int} {n : Int} (h0 : 0 ≤ n) (h1 : n < 256) (h : Rel p0 p1 o pre st) : Rel p0 p1 o (pre ++ [n]) (encT st n) := by
  obtain ⟨out, lb, r⟩ := st
  obtain ⟨octs, held, many, e, hc⟩ := h
  dsimp only at e hc
  rcases hc with ⟨rfl, rfl, rfl, rfl, rfl⟩ | ⟨rfl, rfl, r0, r1, hh0, hh1, e2⟩ | ⟨rfl, rfl, r0, r1, hh0, hh1, e2⟩
  · refine ⟨o ++ pre, n / 4, 6, ?_, .inr (.inl ⟨rfl, rfl, ?_⟩)⟩
    · show rd p0 p1 ((out ++ [tb (n / 4)]).map (alt2 p0 p1)) _ = _
      rw [List.map_append, List.map_singleton, rd_snoc, e, rdT_sgn s0 s1 hne (by omega) (by omega), if_pos rfl]
      congr 3
      omega
    · show 0 ≤ n % 4 ∧ n % 4 < 4 ∧ 0 ≤ n / 4 ∧ n / 4 < 64 ∧ _ = (o ++ pre) ++ [n / 4 * 4 + n % 4]
      refine ⟨by omega, by omega, by omega, by omega, ?_⟩
      have : n / 4 * 4 + n % 4 = n := by omega
      rw [this, List.append_assoc]
  · refine ⟨octs ++ [held * 4 + r], n / 16, 4, ?_, .inr (.inr ⟨rfl, rfl, ?_⟩)⟩
    · show rd p0 p1 ((out ++ [tb (r * 16 + n / 16)]).map (alt2 p0 p1)) _ = _
      rw [List.map_append, List.map_singleton, rd_snoc, e, rdT_sgn s0 s1 hne (by omega) (by omega), if_neg (by decide)]
      have e3 : (2 : Int) ^ (6 - 2 : Int).toNat = 16 := rfl
      rw [e3]
      have e4 : (held * 64 + (r * 16 + n / 16)) / 16 = held * 4 + r := by omega
      have e5 : (held * 64 + (r * 16 + n / 16)) % 16 = n / 16 := by omega
      rw [e4, e5]
      rfl
    · show 0 ≤ n % 16 ∧ n % 16 < 16 ∧ 0 ≤ n / 16 ∧ n / 16 < 16 ∧ _ = (octs ++ [held * 4 + r]) ++ [n / 16 * 16 + n % 16]
      refine ⟨by omega, by omega, by omega, by omega, ?_⟩
      have : n / 16 * 16 + n % 16 = n := by omega
      rw [this, ← e2, List.append_assoc]
  · refine ⟨octs ++ [held * 16 + r] ++ [n], 0, 0, ?_, .inl ⟨rfl, rfl, rfl, rfl, ?_⟩⟩
    · show rd p0 p1 ((out ++ [tb (r * 4 + n / 64), tb (n % 64)]).map (alt2 p0 p1)) _ = _
      have e9 : out ++ [tb (r * 4 + n / 64), tb (n % 64)] = (out ++ [tb (r * 4 + n / 64)]) ++ [tb (n % 64)] := by simp
      rw [e9, List.map_append, List.map_singleton, rd_snoc, List.map_append, List.map_singleton, rd_snoc, e, rdT_sgn s0 s1 hne (by omega) (by omega), if_neg (by decide)]
      have e3 : (2 : Int) ^ (4 - 2 : Int).toNat = 4 := rfl
      rw [e3]
      have e4 : (held * 64 + (r * 4 + n / 64)) / 4 = held * 16 + r := by omega
      have e5 : (held * 64 + (r * 4 + n / 64)) % 4 = n / 64 := by omega
      rw [e4, e5, rdT_sgn s0 s1 hne (by omega) (by omega), if_neg (by decide)]
      have e6 : (2 : Int) ^ ((4 - 2 : Int) - 2 : Int).toNat = 1 := rfl
      rw [e6]
      have e7 : (n / 64 * 64 + n % 64) / 1 = n := by omega
      have e8 : (n / 64 * 64 + n % 64) % 1 = 0 := by omega
      rw [e7, e8]
      rfl
    · rw [← e2, List.append_assoc]
theorem rel_fold (s0 : Sig p0) (s1 : Sig p1) (hne : ¬ p0 = p1) {o : List Int} : ∀ (l pre : List Int) (st : List Int × Int × Int), Oct l → Rel p0 p1 o pre st → Rel p0 p1 o (pre ++ l) (l.foldl encT st)
  | [], pre, st, _, h => by simpa using h
  | n :: r, pre, st, ho, h => by
    have := rel_fold s0 s1 hne r (pre ++ [n]) (encT st n) (fun k hk => ho k (.tail _ hk)) (rel_step s0 s1 hne (ho n (.head _)).1 (ho n (.head _)).2 h)
    simpa using this
/-- reading what was written -/
theorem rd_enc (s0 : Sig p0) (s1 : Sig p1) (hne : ¬ p0 = p1) {o ks : List Int} (ho : Oct ks) : rd p0 p1 ((enc ks).map (alt2 p0 p1)) (some (o, 0, 0)) = some (o ++ ks, 0, 0) := by
  have h : Rel p0 p1 o ([] ++ ks) (encS ks) := rel_fold s0 s1 hne ks [] ([], 0, 0) ho ⟨o, 0, 0, rfl, .inl ⟨rfl, rfl, rfl, rfl, by simp⟩⟩
  unfold enc
  generalize encS ks = st at h
  obtain ⟨out, lb, r⟩ := st
  obtain ⟨octs, held, many, e, hc⟩ := h
  dsimp only at e hc ⊢
  simp only [List.nil_append] at hc
  rcases hc with ⟨rfl, rfl, rfl, rfl, rfl⟩ | ⟨rfl, rfl, r0, r1, hh0, hh1, e2⟩ | ⟨rfl, rfl, r0, r1, hh0, hh1, e2⟩
  · rw [if_pos rfl]; exact e
  · rw [if_neg (by decide), if_pos rfl]
    have e9 : out ++ [tb (r * 16), 61, 61] = ((out ++ [tb (r * 16)]) ++ [61]) ++ [61] := by simp
    rw [e9]
    simp only [List.map_append, List.map_singleton]
    rw [rd_snoc, rd_snoc, rd_snoc, e, rdT_sgn s0 s1 hne (by omega) (by omega), if_neg (by decide)]
    have e3 : (2 : Int) ^ (6 - 2 : Int).toNat = 16 := rfl
    rw [e3]
    have e4 : (held * 64 + r * 16) / 16 = held * 4 + r := by omega
    have e5 : (held * 64 + r * 16) % 16 = 0 := by omega
    rw [e4, e5, rdT_pad s0 s1 (by decide), rdT_pad s0 s1 (by decide), e2]
    rfl
  · rw [if_neg (by decide), if_neg (by decide)]
    have e9 : out ++ [tb (r * 4), 61] = (out ++ [tb (r * 4)]) ++ [61] := by simp
    rw [e9]
    simp only [List.map_append, List.map_singleton]
    rw [rd_snoc, rd_snoc, e, rdT_sgn s0 s1 hne (by omega) (by omega), if_neg (by decide)]
    have e3 : (2 : Int) ^ (4 - 2 : Int).toNat = 4 := rfl
    rw [e3]
    have e4 : (held * 64 + r * 4) / 4 = held * 16 + r := by omega
    have e5 : (held * 64 + r * 4) % 4 = 0 := by omega
    rw [e4, e5, rdT_pad s0 s1 (by decide), e2]
    rfl
end
end Mine
end
section
open PySem PySem.W PyProof.Rows PySem.Spec PySem.Calls PyProof.V
set_option maxRecDepth 100000
namespace Mine
/-- the 65 codes that are no letters, no figures and not = -/
def OTH : List Int := [0, 1, 2, 3, 4, 5, 6, 7, 8, 9, 10, 11, 12, 13, 14, 15, 16, 17, 18, 19, 20, 21, 22, 23, 24, 25, 26, 27, 28, 29, 30, 31, 32, 33, 34, 35, 36, 37, 38, 39, 40, 41, 42, 43, 44, 45, 46, 47, 58, 59, 60, 62, 63, 64, 91, 92, 93, 94, 95, 96, 123, 124, 125, 126, 127]
theorem oth_sigN : ∀ n : Fin 31, Sig (OTH.getD (33 + n.val) 0) := by unfold Sig; decide +kernel
theorem oth_sig {k : Int} (h0 : 33 ≤ k) (h1 : k < 64) : Sig (OTH.getD k.toNat 0) := by
  have := oth_sigN ⟨k.toNat - 33, by omega⟩
  have e : 33 + (k.toNat - 33) = k.toNat := by omega
  simpa only [e] using this
theorem oth_neN : ∀ n : Fin 31, ∀ j : Fin 31, n ≠ j → ¬ OTH.getD (33 + n.val) 0 = OTH.getD (33 + j.val) 0 := by decide +kernel
theorem oth_ne {k j : Int} (h0 : 33 ≤ k) (h1 : k < 64) (i0 : 33 ≤ j) (i1 : j < 64) (hn : ¬ k = j) : ¬ OTH.getD k.toNat 0 = OTH.getD j.toNat 0 := by
  have := oth_neN ⟨k.toNat - 33, by omega⟩ ⟨j.toNat - 33, by omega⟩ (by intro h; have := congrArg Fin.val h; simp only at this; omega)
  have e : 33 + (k.toNat - 33) = k.toNat := by omega
  have e2 : 33 + (j.toNat - 33) = j.toNat := by omega
  simpa only [e, e2] using this
theorem sig_othN : ∀ n : Fin 127, Sig (n.val : Int) → ((n.val : Int)) ∈ OTH := by unfold Sig; decide +kernel
theorem sig_oth {p : Int} (h : Sig p) : p ∈ OTH := by
  have h' := h
  unfold Sig at h'
  have e : ((p.toNat : Nat) : Int) = p := by omega
  have := sig_othN ⟨p.toNat, by omega⟩ (by simpa only [e] using h)
  simpa only [e] using this
def othOk (c : Int) : Bool := decide (0 ≤ c) && decide (c < 128) && !(decide (65 ≤ c) && decide (c ≤ 90)) && !(decide (97 ≤ c) && decide (c ≤ 122)) && !(decide (48 ≤ c) && decide (c ≤ 57)) && !(decide (c = 61))
theorem oth_all : OTH.all othOk = true := by decide +kernel
theorem oth_nodup : OTH.Nodup := by decide +kernel
theorem oth_len : OTH.length = 65 := rfl
/-- the stray signs -/
def strayL (p0 p1 : Int) : List Int := OTH.filter fun c => !(decide (c = p0) || decide (c = p1))
theorem strayL_len {p0 p1 : Int} (s0 : Sig p0) (s1 : Sig p1) (hne : ¬ p0 = p1) : (strayL p0 p1).length = 63 := by
  have m0 := sig_oth s0
  have m1 := sig_oth s1
  have e : strayL p0 p1 = (OTH.erase p0).erase p1 := by
    rw [List.Nodup.erase_eq_filter (oth_nodup.erase p0), List.Nodup.erase_eq_filter oth_nodup, List.filter_filter]
    unfold strayL
    refine List.filter_congr fun c _ => ?_
    by_cases h0 : c = p0 <;> by_cases h1 : c = p1 <;> simp [h0, h1]
  rw [e, List.length_erase_of_mem, List.length_erase_of_mem m0]
  · rfl
  · exact (List.mem_erase_of_ne (fun h => hne h.symm)).mpr m1
theorem strayL_stray {p0 p1 c : Int} (h : c ∈ strayL p0 p1) : Stray p0 p1 c := by
  obtain ⟨hm, hf⟩ := List.mem_filter.mp h
  have ho := List.all_eq_true.mp oth_all c hm
  simp only [othOk, Bool.and_eq_true, Bool.not_eq_true', decide_eq_true_eq, Bool.and_eq_false_iff, decide_eq_false_iff_not, Bool.or_eq_false_iff] at ho hf
  have e : c % 128 = c := by omega
  unfold Stray fig
  rw [e, if_neg (by omega), if_neg (by omega), if_neg (by omega), if_neg hf.1, if_neg hf.2]
  exact ⟨rfl, by omega⟩
end Mine
end
section
open PySem PySem.W PyProof.Rows PySem.Spec PySem.Calls PyProof.V
set_option maxRecDepth 100000
namespace Mine
def EncLen (n : Nat) (st : List Int × Int × Int) : Prop := (n % 3 = 0 ∧ st.2.1 = 0 ∧ 3 * st.1.length = 4 * n) ∨ (n % 3 = 1 ∧ st.2.1 = 2 ∧ 3 * st.1.length + 1 = 4 * n) ∨ (n % 3 = 2 ∧ st.2.1 = 4 ∧ 3 * st.1.length + 2 = 4 * n)
theorem encT_len {n : Nat} {st : List Int × Int × Int} (k : Int) (h : EncLen n st) : EncLen (n + 1) (encT st k) := by
  obtain ⟨out, lb, r⟩ := st
  unfold EncLen at h ⊢
  dsimp only at h
  rcases h with ⟨h1, rfl, h3⟩ | ⟨h1, rfl, h3⟩ | ⟨h1, rfl, h3⟩
  · refine .inr (.inl ⟨by omega, rfl, ?_⟩)
    show 3 * (out ++ [_]).length + 1 = _
    simp only [List.length_append, List.length_cons, List.length_nil]; omega
  · refine .inr (.inr ⟨by omega, rfl, ?_⟩)
    show 3 * (out ++ [_]).length + 2 = _
    simp only [List.length_append, List.length_cons, List.length_nil]; omega
  · refine .inl ⟨by omega, rfl, ?_⟩
    show 3 * (out ++ [_, _]).length = _
    simp only [List.length_append, List.length_cons, List.length_nil]; omega
theorem foldT_len : ∀ (l : List Int) (n : Nat) (st : List Int × Int × Int), EncLen n st → EncLen (n + l.length) (l.foldl encT st)
  | [], _, _, h => h
  | k :: r, n, st, h => by
    have := foldT_len r (n + 1) (encT st k) (encT_len k h)
    have e : n + 1 + r.length = n + (k :: r).length := by simp only [List.length_cons]; omega
    rw [e] at this
    exact this
theorem encS_len (l : List Int) : EncLen l.length (encS l) := by
  have := foldT_len l 0 ([], 0, 0) (.inl ⟨rfl, rfl, rfl⟩)
  rwa [Nat.zero_add] at this
/-- the writing: signs for the bits, then = up to whole fours -/
theorem enc_shape (ks : List Int) : ∃ fs, enc ks = fs ++ List.replicate ((3 - ks.length % 3) % 3) 61 ∧ fs.length = (4 * ks.length + 2) / 3 := by
  have h := encS_len ks
  unfold enc
  generalize encS ks = st at h
  obtain ⟨out, lb, r⟩ := st
  unfold EncLen at h
  dsimp only at h ⊢
  rcases h with ⟨h1, rfl, h3⟩ | ⟨h1, rfl, h3⟩ | ⟨h1, rfl, h3⟩
  · refine ⟨out, ?_, by omega⟩
    have e : (3 - ks.length % 3) % 3 = 0 := by omega
    rw [e, if_pos rfl]
    simp
  · refine ⟨out ++ [tb (r * 16)], ?_, by simp only [List.length_append, List.length_cons, List.length_nil]; omega⟩
    have e : (3 - ks.length % 3) % 3 = 2 := by omega
    rw [e, if_neg (by decide), if_pos rfl, List.append_assoc]
    rfl
  · refine ⟨out ++ [tb (r * 4)], ?_, by simp only [List.length_append, List.length_cons, List.length_nil]; omega⟩
    have e : (3 - ks.length % 3) % 3 = 1 := by omega
    rw [e, if_neg (by decide), if_neg (by decide), List.append_assoc]
    rfl
/-- what b64encode writes of a part -/
def wr (p0 p1 : Int) (ks : List Int) : List Int := (enc ks).map (alt2 p0 p1)
theorem wr_usual (ks : List Int) : wr 43 47 ks = enc ks := by
  unfold wr
  have : alt2 43 47 = id := by
    funext c
    unfold alt2
    simp only [id]
    split
    · omega
    · split <;> omega
  rw [this, List.map_id]
theorem wr_shape (p0 p1 : Int) (ks : List Int) : (wr p0 p1 ks).drop ((4 * ks.length + 2) / 3) = List.replicate ((3 - ks.length % 3) % 3) 61 ∧ (wr p0 p1 ks).length = (4 * ks.length + 2) / 3 + (3 - ks.length % 3) % 3 := by
  obtain ⟨fs, e, hl⟩ := enc_shape ks
  unfold wr
  rw [e, List.map_append, List.map_replicate]
  constructor
  · rw [← hl, List.drop_append_of_le_length (by simp), List.drop_of_length_le (by simp)]
    rfl
  · simp [hl]
theorem sgn_sig {p0 p1 c : Int} (s0 : Sig p0) (s1 : Sig p1) (h : c = 61 ∨ Sgn c) : 33 ≤ alt2 p0 p1 c ∧ alt2 p0 p1 c ≤ 126 := by
  unfold Sig at s0 s1
  have h' : 43 ≤ c ∧ c ≤ 122 := by
    rcases h with rfl | h
    · decide
    · exact h.range
  unfold alt2
  split
  · omega
  · split <;> omega
theorem wr_in {p0 p1 : Int} {ks : List Int} (s0 : Sig p0) (s1 : Sig p1) (ho : Oct ks) : ∀ c ∈ wr p0 p1 ks, 33 ≤ c ∧ c ≤ 126 := by
  intro c hc
  obtain ⟨k, hk, rfl⟩ := List.mem_map.mp hc
  exact sgn_sig s0 s1 (enc_in ho k hk)
theorem wr_oct {p0 p1 : Int} {ks : List Int} (s0 : Sig p0) (s1 : Sig p1) (ho : Oct ks) : Oct (wr p0 p1 ks) := fun c hc => by
  have := wr_in s0 s1 ho c hc
  omega
theorem sig_oct {p0 p1 : Int} (s0 : Sig p0) (s1 : Sig p1) : Oct [p0, p1] := by
  unfold Sig at s0 s1
  intro c hc
  simp only [List.mem_cons, List.not_mem_nil, or_false] at hc
  rcases hc with rfl | rfl <;> omega
theorem enc_len_le (ks : List Int) : (enc ks).length ≤ 2 * ks.length + 3 := by
  have := (wr_shape 43 47 ks).2
  rw [wr_usual] at this
  omega
theorem bInts_inj {a b : Array UInt8} (h : KBw.bInts a = KBw.bInts b) : a = b := by
  obtain ⟨a⟩ := a
  obtain ⟨b⟩ := b
  congr 1
  have h' : a.map (fun c => ((c.toNat : Nat) : Int)) = b.map (fun c => ((c.toNat : Nat) : Int)) := h
  exact List.map_inj_right (fun x y hxy => UInt8.toNat_inj.mp (by omega)) |>.mp h'
section
variable {prog : Program} {w : World} {A : Around} {E : Value → Shared → Prop} {s : Shared}
theorem ne_same {a b : Array UInt8} {t u : Tok} {x : List Int} {Q : Value → Shared → Prop} (ha : KBw.bInts a = x) (hb : KBw.bInts b = x) (h : Q (.bool false) s) : wpAny (model prog w) A (compareOp .NotEq (.bytes a t) (.bytes b u)) Q E s := by
  have e : a = b := bInts_inj (ha.trans hb.symm)
  subst e
  refine ne_bytes ?_
  simpa using h
end
theorem rep_ints (n : Nat) : KBw.bInts ((List.replicate n [(61 : UInt8)]).flatten).toArray = List.replicate n 61 := by
  show List.map _ (List.replicate n [(61 : UInt8)]).flatten = _
  rw [List.flatten_replicate_singleton, List.map_replicate]
  rfl
theorem wr_len (p0 p1 : Int) (ks : List Int) : ((wr p0 p1 ks).length : Int) = (4 * (ks.length : Int) + 2).fdiv 3 + (-(ks.length : Int)).fmod 3 := by
  obtain ⟨_, h⟩ := wr_shape p0 p1 ks
  rw [Int.fdiv_eq_ediv_of_nonneg _ (by decide), Int.fmod_eq_emod_of_nonneg _ (by decide)]
  have h3 : ks.length % 3 = 0 ∨ ks.length % 3 = 1 ∨ ks.length % 3 = 2 := by omega
  rcases h3 with e | e | e <;> rw [e] at h <;> omega
theorem pads_in (n : Nat) : 0 ≤ (-(n : Int)).fmod 3 ∧ (-(n : Int)).fmod 3 ≤ 2 := by
  rw [Int.fmod_eq_emod_of_nonneg _ (by decide)]
  omega
theorem wr_cut (p0 p1 : Int) (ks : List Int) : List.take ((wr p0 p1 ks).length - clipAt (wr p0 p1 ks).length ((4 * (ks.length : Int) + 2).fdiv 3)) (List.drop (clipAt (wr p0 p1 ks).length ((4 * (ks.length : Int) + 2).fdiv 3)) (wr p0 p1 ks)) = List.replicate ((-(ks.length : Int)).fmod 3).toNat 61 := by
  obtain ⟨hd, hl⟩ := wr_shape p0 p1 ks
  have e1 : (4 * (ks.length : Int) + 2).fdiv 3 = (((4 * ks.length + 2) / 3 : Nat) : Int) := by
    rw [Int.fdiv_eq_ediv_of_nonneg _ (by decide)]
    omega
  have e2 : ((-(ks.length : Int)).fmod 3).toNat = (3 - ks.length % 3) % 3 := by
    rw [Int.fmod_eq_emod_of_nonneg _ (by decide)]
    have h3 : ks.length % 3 = 0 ∨ ks.length % 3 = 1 ∨ ks.length % 3 = 2 := by omega
    rcases h3 with e | e | e <;> rw [e] <;> omega
  rw [e1, clipAt_nat, Nat.min_eq_left (by omega), hd, e2, List.take_of_length_le (by rw [List.length_replicate]; omega)]
end Mine
end
section
open PySem PySem.W PyProof.Rows PySem.Spec PySem.Calls PyProof.V
set_option maxRecDepth 100000
namespace Mine
section
variable {prog : Program} {w : World} {A : Around} {E : Value → Shared → Prop} {s : Shared} {h₀ : Heap} {L : Addr} {m : PySem.Str → Option Value} {news : List (Addr × Obj)}
/-- a value that is a new list of ints, whatever the way to it -/
theorem cutL {t : Sem Value} {Q : Value → Shared → Prop} (P : List Int → Prop) (F : Fr h₀ L s.heap m) (N : News h₀ L s.heap news)
    (walk : wpAny (model prog w) A t (fun v s' => Stop (∃ (l : Addr) (vs : List Value) (ns : List Int) (nn : Nat) (h' : Heap) (tk' : Nat), v = .ref l ∧ s' = { s with heap := h', toks := tk' } ∧ IntsAre vs ns ∧ P ns ∧ Fr h₀ L h' m ∧ News h₀ L h' ((l, W.listOf vs.toArray nn) :: news) ∧ AllLt l news)) E s)
    (cont : ∀ (l : Addr) (vs : List Value) (ns : List Int) (nn : Nat) (h' : Heap) (tk' : Nat), IntsAre vs ns → vs.length = ns.length → P ns → Fr h₀ L h' m → News h₀ L h' ((l, W.listOf vs.toArray nn) :: news) → AllLt l news → Q (.ref l) { s with heap := h', toks := tk' }) :
    wpAny (model prog w) A t Q E s := by
  refine wpAny_mono walk (fun v s' hq => ?_) fun _ _ x => x
  obtain ⟨l, vs, ns, nn, h', tk', rfl, rfl, hi, hp, F', N', hl⟩ := hq.out
  exact cont l vs ns nn h' tk' hi hi.length hp F' N' hl
/-- the same, the frame's names forgotten -/
theorem cutL0 {t : Sem Value} {Q : Value → Shared → Prop} (P : List Int → Prop) (F : Fr h₀ L s.heap m) (N : News h₀ L s.heap news)
    (walk : wpAny (model prog w) A t (fun v s' => Stop (∃ (l : Addr) (vs : List Value) (ns : List Int) (nn : Nat) (h' : Heap) (tk' : Nat), v = .ref l ∧ s' = { s with heap := h', toks := tk' } ∧ IntsAre vs ns ∧ P ns ∧ Fr h₀ L h' m ∧ News h₀ L h' ((l, W.listOf vs.toArray nn) :: news) ∧ AllLt l news)) E s)
    (cont : ∀ (m' : PySem.Str → Option Value) (l : Addr) (vs : List Value) (ns : List Int) (nn : Nat) (h' : Heap) (tk' : Nat), IntsAre vs ns → vs.length = ns.length → P ns → Fr h₀ L h' m' → News h₀ L h' ((l, W.listOf vs.toArray nn) :: news) → AllLt l news → Q (.ref l) { s with heap := h', toks := tk' }) :
    wpAny (model prog w) A t Q E s := cutL P F N walk (cont m)
/-- an item of a list of ints at a place that is reckoned -/
theorem lst_item {x : Int} {value slice : Expr} {l : Addr} {vs : List Value} {ns : List Int} {k : Int} {u : Tok} {Q : Value → Shared → Prop}
    (hl : s.heap.IsList l vs.toArray) (hI : IntsAre vs ns) (h0 : 0 ≤ k) (h1 : k < (ns.length : Int)) (hhi : k < 2 ^ 63) (hx : ns.getD k.toNat 0 = x) (h : ∀ t, Q (.int x t) s)
    (hs : subscripted slice false (.ref l) (.int k u) = operate [.ref l, .int k u] (getItem (.ref l) (.int k u)) := by with_unfolding_all rfl) :
    wpAny (model prog w) A (subscriptTail value slice (.ref l) (.int k u)) Q E s := by
  subst hx
  obtain ⟨t, e⟩ := IntsAre.get hI k.toNat _ (PyProof.Rows.ints_getD h0 h1)
  exact tail_any hl.typeIs slot_list_getitem.lookup (wpAny_getItem_list hl h0 hhi (by simpa using e) (h t)) hs
theorem rot5 {h : Heap} {a b c d e : Addr × Obj} (N : News h₀ L h [a, b, c, d, e]) : News h₀ L h [a, e, b, c, d] := fun p hp => N p (by
  simp only [List.mem_cons, List.not_mem_nil, or_false] at hp ⊢
  rcases hp with h | h | h | h | h
  · exact .inl h
  · exact .inr (.inr (.inr (.inr h)))
  · exact .inr (.inl h)
  · exact .inr (.inr (.inl h))
  · exact .inr (.inr (.inr (.inl h))))
/-- the end of an if that may store another list of two ints in the frame's cell -/
theorem cutIf {t : Sem Flow} {Q : Flow → Shared → Prop} (P : Int → Int → Prop) {o₁ : Addr × Obj} {lc : Addr} {oc : Obj} (F : Fr h₀ L s.heap m) (N : News h₀ L s.heap (o₁ :: (lc, oc) :: news))
    (walk : wpAny (model prog w) A t (fun fl s' => Stop (fl = .next ∧ ∃ (lp : Addr) (p0 p1 : Int) (t0 t1 : Tok) (nn : Nat) (oc' : Obj) (h' : Heap) (tk' : Nat), s' = { s with heap := h', toks := tk' } ∧ P p0 p1 ∧ oc'.data = Data.cell (some (.ref lp)) ∧ Fr h₀ L h' m ∧ News h₀ L h' ((lp, W.listOf [Value.int p0 t0, Value.int p1 t1].toArray nn) :: (lc, oc') :: news) ∧ AllLt lp ((lc, oc) :: news))) E s)
    (cont : ∀ (lp : Addr) (p0 p1 : Int) (t0 t1 : Tok) (nn : Nat) (oc' : Obj) (h' : Heap) (tk' : Nat), P p0 p1 → oc'.data = Data.cell (some (.ref lp)) → Fr h₀ L h' m → News h₀ L h' ((lp, W.listOf [Value.int p0 t0, Value.int p1 t1].toArray nn) :: (lc, oc') :: news) → AllLt lp ((lc, oc) :: news) → Q .next { s with heap := h', toks := tk' }) :
    wpAny (model prog w) A t Q E s := by
  refine wpAny_mono walk (fun v s' hq => ?_) fun _ _ x => x
  obtain ⟨rfl, lp, p0, p1, t0, t1, nn, oc', h', tk', rfl, hp, hd, F', N', hl⟩ := hq.out
  exact cont lp p0 p1 t0 t1 nn oc' h' tk' hp hd F' N' hl
/-- bytes, whatever the way to them -/
theorem cutB {t : Sem Value} {Q : Value → Shared → Prop} (W : List Int) (F : Fr h₀ L s.heap m) (N : News h₀ L s.heap news)
    (walk : wpAny (model prog w) A t (fun v s' => Stop (∃ (b : Array UInt8) (u : Tok) (h' : Heap) (tk' : Nat), v = .bytes b u ∧ s' = { s with heap := h', toks := tk' } ∧ KBw.bInts b = W ∧ Fr h₀ L h' m ∧ News h₀ L h' news)) E s)
    (cont : ∀ (b : Array UInt8) (u : Tok) (h' : Heap) (tk' : Nat), KBw.bInts b = W → Fr h₀ L h' m → News h₀ L h' news → Q (.bytes b u) { s with heap := h', toks := tk' }) :
    wpAny (model prog w) A t Q E s := by
  refine wpAny_mono walk (fun v s' hq => ?_) fun _ _ x => x
  obtain ⟨b, u, h', tk', rfl, rfl, hb, F', N'⟩ := hq.out
  exact cont b u h' tk' hb F' N'
theorem fr_put {h : Heap} {x : PySem.Str} {v : Value} (e : m x = some v) (F : Fr h₀ L h m) : Fr h₀ L h (fun y => if y = x then some v else m y) := by
  have : (fun y => if y = x then some v else m y) = m := by
    funext y
    split
    · rename_i h; rw [h, e]
    · rfl
  rw [this]
  exact F
/-- five names of the frame, the rest forgotten -/
theorem fr5 {h : Heap} {x1 x2 x3 x4 x5 : PySem.Str} {v1 v2 v3 v4 v5 : Value} (F : Fr h₀ L h m) (e1 : m x1 = some v1) (e2 : m x2 = some v2) (e3 : m x3 = some v3) (e4 : m x4 = some v4) (e5 : m x5 = some v5)
    (n12 : ¬ x1 = x2) (n13 : ¬ x1 = x3) (n14 : ¬ x1 = x4) (n15 : ¬ x1 = x5) (n23 : ¬ x2 = x3) (n24 : ¬ x2 = x4) (n25 : ¬ x2 = x5) (n34 : ¬ x3 = x4) (n35 : ¬ x3 = x5) (n45 : ¬ x4 = x5) :
    ∃ m1 : PySem.Str → Option Value, Fr h₀ L h (fun y => if y = x1 then some v1 else if y = x2 then some v2 else if y = x3 then some v3 else if y = x4 then some v4 else if y = x5 then some v5 else m1 y) := by
  refine ⟨m, ?_⟩
  refine fr_put ?_ (fr_put ?_ (fr_put ?_ (fr_put ?_ (fr_put e5 F))))
  · simp only [if_neg n12, if_neg n13, if_neg n14, if_neg n15, e1]
  · simp only [if_neg n23, if_neg n24, if_neg n25, e2]
  · simp only [if_neg n34, if_neg n35, e3]
  · simp only [if_neg n45, e4]
theorem fold_id : ∀ l : List Int, l.foldl (fun (a : List Int) (_ : Int) => a) [] = []
  | [] => rfl
  | _ :: r => fold_id r
theorem ints_nil {vs : List Value} (h : IntsAre vs []) : vs = [] := List.length_eq_zero_iff.mp h.length
end
end Mine
end
section
open PySem PySem.W PyProof.Rows PySem.Spec PySem.Calls PyProof.V
set_option maxRecDepth 100000
namespace Mine
/-- one turn of the strays' comprehension -/
def strayG (p0 p1 : Int) (l : List Int) (k : Int) : List Int := if (!(decide (k = p0) || decide (k = p1))) = true then l ++ [k] else l
theorem strayG_fold (p0 p1 : Int) : ∀ (L acc : List Int), L.foldl (strayG p0 p1) acc = acc ++ L.filter fun c => !(decide (c = p0) || decide (c = p1))
  | [], acc => by simp
  | k :: r, acc => by
    rw [List.foldl_cons, strayG_fold p0 p1 r, List.filter_cons]
    unfold strayG
    split
    · rw [List.append_assoc]; rfl
    · rfl
theorem strayG_eq (p0 p1 : Int) : OTH.foldl (strayG p0 p1) [] = strayL p0 p1 := by
  rw [strayG_fold, List.nil_append]
  rfl
theorem strayG_grows (p0 p1 : Int) : KPfGrows (strayG p0 p1) := by
  intro l k
  unfold strayG
  split
  · simp
  · exact Nat.le_succ _
theorem strayG_t {p0 p1 k : Int} (l : List Int) (h0 : ¬ k = p0) (h1 : ¬ k = p1) : strayG p0 p1 l k = l ++ [k] := by
  unfold strayG
  simp [h0, h1]
theorem strayG_f {p0 p1 k : Int} (l : List Int) (h : k = p0 ∨ k = p1) : strayG p0 p1 l k = l := by
  unfold strayG
  rcases h with rfl | rfl <;> simp
end Mine
end
section
open PySem PySem.W PyProof.Rows PySem.Spec PySem.Calls PyProof.V
set_option maxRecDepth 100000
namespace Mine
/-- what holds of the sent signs between the turns -/
def SentInv (p0 p1 : Int) (line pre out : List Int) : Prop := out.length = 2 * pre.length ∧ rd p0 p1 out (some ([], 0, 0)) = rd p0 p1 (line.take pre.length) (some ([], 0, 0))
theorem sent_nil (p0 p1 : Int) (line : List Int) : SentInv p0 p1 line [] [] := ⟨rfl, by simp⟩
theorem sent_step {p0 p1 : Int} {line pre out : List Int} {k a c x : Int} (h : SentInv p0 p1 line pre out) (hk : k = (pre.length : Int)) (hlt : pre.length < line.length) (hs : Stray p0 p1 x) (ha : a % 128 = x % 128)
    (hc : c % 128 = (line.getD k.toNat 0) % 128) : SentInv p0 p1 line (pre ++ [k]) (out ++ [a] ++ [c]) := by
  obtain ⟨h1, h2⟩ := h
  refine ⟨by simp only [List.length_append, List.length_cons, List.length_nil]; omega, ?_⟩
  have e : k.toNat = pre.length := by omega
  rw [e] at hc
  have e2 : line.take (pre ++ [k]).length = line.take pre.length ++ [line.getD pre.length 0] := by
    rw [List.length_append, List.length_singleton, List.take_add_one, List.getElem?_eq_getElem hlt, List.getD_eq_getElem?_getD, List.getElem?_eq_getElem hlt]
    rfl
  rw [e2, rd_snoc, rd_snoc, rd_snoc, h2, rdT_mod ha, rdT_stray hs, rdT_mod hc]
theorem sent_done {p0 p1 : Int} {line out : List Int} {n : Nat} (h : SentInv p0 p1 line (rangeKs 0 n) out) (hn : line.length = n) : rd p0 p1 out (some ([], 0, 0)) = rd p0 p1 line (some ([], 0, 0)) ∧ out.length = 2 * n := by
  obtain ⟨h1, h2⟩ := h
  rw [rangeKs_length] at h1 h2
  rw [List.take_of_length_le (by omega)] at h2
  exact ⟨h2, h1⟩
theorem strayL_at {p0 p1 y : Int} {j : Nat} (h : (strayL p0 p1).getD j 0 = y) (hj : j < (strayL p0 p1).length) : Stray p0 p1 y := by
  refine strayL_stray ?_
  rw [← h, List.getD_eq_getElem?_getD, List.getElem?_eq_getElem hj]
  exact List.getElem_mem hj
theorem not4 {a b c d z : PySem.Str} (h : [a, b, c, d].contains z = false) : ¬ z = a ∧ ¬ z = b ∧ ¬ z = c ∧ ¬ z = d := by
  simp only [List.contains_eq_mem, List.mem_cons, List.not_mem_nil, or_false, decide_eq_false_iff_not, not_or] at h
  exact h
theorem allLt_ne {d : Nat} : ∀ {news : List (Addr × Obj)}, AllLt d news → ∀ p ∈ news, p.1 ≠ d
  | [], _, _, h => nomatch h
  | q :: r, h, p, hp => by
    rcases List.mem_cons.mp hp with rfl | hp
    · exact Nat.ne_of_lt h.1
    · exact allLt_ne h.2 p hp
section
variable {prog : Program} {w : World} {A : Around} {E : Value → Shared → Prop} {s : Shared} {h₀ : Heap} {L : Addr} {m : PySem.Str → Option Value} {news : List (Addr × Obj)}
/-- an int, whatever the way to it -/
theorem cutI {t : Sem Value} {Q : Value → Shared → Prop} (P : Int → Prop) (F : Fr h₀ L s.heap m) (N : News h₀ L s.heap news)
    (walk : wpAny (model prog w) A t (fun v s' => Stop (∃ (c : Int) (u : Tok) (h' : Heap) (tk' : Nat), v = .int c u ∧ s' = { s with heap := h', toks := tk' } ∧ P c ∧ Fr h₀ L h' m ∧ News h₀ L h' news)) E s)
    (cont : ∀ (c : Int) (u : Tok) (h' : Heap) (tk' : Nat), P c → Fr h₀ L h' m → News h₀ L h' news → Q (.int c u) { s with heap := h', toks := tk' }) :
    wpAny (model prog w) A t Q E s := by
  refine wpAny_mono walk (fun v s' hq => ?_) fun _ _ x => x
  obtain ⟨c, u, h', tk', rfl, rfl, hp, F', N'⟩ := hq.out
  exact cont c u h' tk' hp F' N'
/-- a loop that turns one int name -/
theorem cutK {t : Sem Flow} {Q : Flow → Shared → Prop} (xc xk : PySem.Str) (P : Int → Prop) (F : Fr h₀ L s.heap m) (N : News h₀ L s.heap news)
    (walk : wpAny (model prog w) A t (fun fl s' => Stop (fl = .next ∧ ∃ (c : Int) (u : Tok) (h' : Heap) (tk' : Nat) (m' : PySem.Str → Option Value), s' = { s with heap := h', toks := tk' } ∧ P c ∧ m' xc = some (.int c u) ∧ (∀ z, z ≠ xc → z ≠ xk → m' z = m z) ∧ Fr h₀ L h' m' ∧ News h₀ L h' news)) E s)
    (cont : ∀ (c : Int) (u : Tok) (v : Option Value) (h' : Heap) (tk' : Nat), P c → Fr h₀ L h' (fun y => if y = xc then some (.int c u) else if y = xk then v else m y) → News h₀ L h' news → Q .next { s with heap := h', toks := tk' }) :
    wpAny (model prog w) A t Q E s := by
  refine wpAny_mono walk (fun fl s' hq => ?_) fun _ _ x => x
  obtain ⟨rfl, c, u, h', tk', m', rfl, hp, e1, e2, F', N'⟩ := hq.out
  refine cont c u (m' xk) h' tk' hp ?_ N'
  have e : (fun y => if y = xc then some (Value.int c u) else if y = xk then m' xk else m y) = m' := by
    funext y
    split
    · rename_i h; rw [h, e1]
    · split
      · rename_i h; rw [h]
      · rename_i h1 h2; exact (e2 y h1 h2).symm
  rw [e]
  exact F'
end
end Mine
end
section
open PySem PySem.W PyProof.Rows PySem.Spec PySem.Calls PyProof.V
set_option maxRecDepth 100000
namespace Mine
theorem bytes_len9 : typeLookup (.type "bytes") "__len__" = pure (some (.builtin "bytes.__len__")) := by rw [typeLookup_type, builtinLookup_eq_fast]; kernel_rfl
theorem ext_entry : entryFor table "list.extend" = some Builtin.«list.extend» := PySem.F.entry_list_extend
section
variable {prog : Program} {w : World} {A : Around} {E : Value → Shared → Prop} {s : Shared}
theorem ext_loop {R : Result → Shared → Prop} {I S : Addr} {b : Array UInt8} {t : Tok} {ns : List Int} (hh : A.handled = none) (hIS : I ≠ S) (hz : ns.length + b.size ≤ 10000) :
    ∀ (k i : Nat) (s : Shared) (vs : List Value) (c : Nat), b.size - i = k → i ≤ b.size → KBw.IsBytesIter s.heap I b t i → s.heap.get? S = some (W.listOf vs.toArray c) → IntsAre vs (ns ++ (KBw.bInts b).take i) →
      (∀ h' tk' vs' c', (∀ a o, a ≠ I → a ≠ S → s.heap.get? a = some o → h'.get? a = some o) → h'.get? S = some (W.listOf (List.toArray vs') c') → IntsAre vs' (ns ++ KBw.bInts b) → R (.ok (.ret .none)) { s with heap := h', toks := tk' }) →
      codeAny (model prog w) A (.builtin "list.extend.loop" ⟨[.ref S, .ref I, .none], []⟩) R s := by
  intro k
  induction k with
  | zero =>
    intro i s vs c hk hi hit hS hv hR
    have hin : i = b.size := by omega
    subst hin
    refine codeAny_builtin PySem.F.entry_extend_loop ?_
    rw [Around.under_plainId PySem.F.plain_extend_loop _]
    show wpAny _ A.in1 (pyNext (.ref I) >>= _) _ _ s
    refine wpAny_bind (KBw.next_end hh hit (by simp) fun h' he => ?_)
    rw [List.take_of_length_le (by rw [KBw.ints_length]; omega)] at hv
    exact wpAny_pure (hR h' s.toks vs c (fun a o h1 _ e => he a o h1 e) (he S _ (Ne.symm hIS) hS) hv)
  | succ k ih =>
    intro i s vs c hk hi hit hS hv hR
    have hlt : i < b.size := by omega
    have hvl : vs.length = ns.length + i := by
      rw [hv.length, List.length_append, List.length_take, KBw.ints_length]
      omega
    refine codeAny_builtin PySem.F.entry_extend_loop ?_
    rw [Around.under_plainId PySem.F.plain_extend_loop _]
    show wpAny _ A.in1 (pyNext (.ref I) >>= _) _ _ s
    refine wpAny_bind (KBw.next_item hit (c := b[i]) (by simp [hlt]) fun h' hit' hs => ?_)
    have hS' : h'.get? S = some (W.listOf vs.toArray c) := (hs.2 S (Ne.symm hIS)).trans hS
    show wpAny _ A.in1 (updateSeq S (·.push (.int ((b[i]).toNat : Int) s.toks)) >>= _) _ _ _
    refine wpAny_bind ?_
    refine wpAny_updateSeq (o := W.listOf vs.toArray c) hS' rfl (wpAny_pure ⟨plainId_quiet PySem.F.plain_extend_loop _, ih (i + 1) _ (vs ++ [.int ((b[i]).toNat : Int) s.toks]) (c + 1) (by omega) hlt ?_ ?_ ?_ fun h3 tk3 vs3 c3 hk3 hS3 hv3 => ?_⟩) ?_ ?_
    · obtain ⟨o, ho, r⟩ := hit'
      exact ⟨o, (Heap.get?_update_other _ _ (Ne.symm hIS)).trans ho, r⟩
    · have q := PySem.IsL.update hS' (·.push (.int ((b[i]).toNat : Int) s.toks))
      rw [if_neg (by simp)] at q
      have e : (vs ++ [Value.int ((b[i]).toNat : Int) s.toks]).toArray = vs.toArray.push (Value.int ((b[i]).toNat : Int) s.toks) := by simp
      rw [e]
      exact q
    · have e : ns ++ (KBw.bInts b).take (i + 1) = (ns ++ (KBw.bInts b).take i) ++ [((b[i]).toNat : Int)] := by
        rw [List.take_add_one, KBw.ints_get (c := b[i]) (by simp [hlt]), List.append_assoc]
        rfl
      rw [e]
      exact hv.append (.cons _ _ .nil)
    · refine hR h3 tk3 vs3 c3 (fun a o h1 h2 e => hk3 a o h1 h2 ?_) hS3 hv3
      exact (Heap.get?_update_other _ _ (Ne.symm h2)).trans ((hs.2 a h1).trans e)
    · rw [List.size_toArray, sizeLine_eq]; omega
    · show (vs.toArray.push _).size ≤ _
      rw [Array.size_push, List.size_toArray, sizeLine_eq]; omega
theorem isi_bytes {b : Array UInt8} {t : Tok} {Q : Value → Shared → Prop} (h : Q (.bool true) s) : wpAny (model prog w) A (call (.builtin "isinstance") [.bytes b t, .type "bytes"]) Q E s :=
  call_isinstance (isinstance_true (Tx := "bytes") (by kernel_rfl) (by rw [isSubtype_type]; kernel_rfl)) ⟨typeIs_bytes _ _ _, h⟩
variable {h₀ : Heap} {L D : Addr} {m : PySem.Str → Option Value} {news : List (Addr × Obj)}
/-- line.extend(writing): a list of ints grows by the ints of bytes -/
theorem ext_bytes {b : Array UInt8} {t : Tok} {vs : List Value} {ns : List Int} {c : Nat} {news' : Obj → List (Addr × Obj)} {Q : Value → Shared → Prop} (hh : A.handled = none) (F : Fr h₀ L s.heap m) (N : News h₀ L s.heap news)
    (U : ∀ o', Upd D (W.listOf vs.toArray c) o' news (news' o')) (hv : IntsAre vs ns) (hz : ns.length + b.size ≤ 10000)
    (h : ∀ h' tk' vs' c', Fr h₀ L h' m → News h₀ L h' (news' (W.listOf (List.toArray vs') c')) → IntsAre vs' (ns ++ KBw.bInts b) → vs'.length = ns.length + b.size → Q .none { s with heap := h', toks := tk' }) :
    wpAny (model prog w) A (call (.builtin "list.extend") [.ref D, .bytes b t]) Q E s := by
  obtain ⟨pre, post, e1, _, _, _⟩ := (U default).split
  have hD := N (D, W.listOf vs.toArray c) (by rw [e1]; exact List.mem_append.mpr (.inr (.head _)))
  refine wpAny_call (codeAny_call_builtin PySem.F.slot_list_extend.plain ext_entry (PySem.F.slot_list_extend.check _ _ _ _ _ _ _ _ ⟨_, hD.1, rfl⟩ (PySem.F.args_list_extend_2 _ _) ?_))
  show wpAny _ _ (Builtin.List.listExtendWith (.ref D) (.bytes b t) .none) _ _ s
  unfold Builtin.List.listExtendWith
  refine wpAny_bind (wpAny_typeOf (T := "bytes") (typeIs_bytes _ _ _) ?_)
  have h1 : Builtin.List.listSameRef (.ref D) (.bytes b t) = false := rfl
  have h2 : (Value.type "bytes" == Value.type "list") = false := by decide
  have h3 : (Value.type "bytes" == Value.type "tuple") = false := by decide
  simp only [h1, h2, h3, Bool.or_false, Bool.false_eq_true, if_false]
  refine wpAny_bind (KBw.pyIter_bytes ?_)
  refine wpAny_bind (wpAny_holding ?_)
  unfold Builtin.List.listLengthHint
  refine wpAny_bind (wpAny_specialOf (T := "bytes") (typeIs_bytes _ _ _) bytes_len9 ?_)
  wp_delta
  refine wpAny_bind (wpAny_isInstance (T := "bytes") (b := true) (typeIs_bytes _ _ _) (by rw [isSubtype_type]; kernel_rfl) ?_)
  show wpAny _ _ (typeOf (Value.bytes b t) >>= _) _ _ _
  refine wpAny_bind (wpAny_typeOf (T := "bytes") (typeIs_bytes _ _ _) ?_)
  refine wpAny_pure ?_
  rw [if_neg (by decide)]
  have hlt : D < s.heap.objs.size := Heap.lt_size hD.1
  refine wpAny_pure ⟨plainId_quiet PySem.F.plain_extend_loop _, ext_loop (ns := ns) (b := b) (t := t) (S := D) (I := s.heap.objs.size) hh (Nat.ne_of_gt hlt) hz b.size 0 _ vs c rfl (Nat.zero_le _) ⟨_, Heap.get?_push_size _ rfl, rfl, rfl⟩ (Heap.get?_push_of_some _ hD.1) (by simpa using hv) fun h' tk' vs' c' hk hS hv' => ?_⟩
  have hk' : ∀ a o, a ≠ D → s.heap.get? a = some o → h'.get? a = some o := fun a o ha e => hk a o (Nat.ne_of_lt (Heap.lt_size e)) ha (Heap.get?_push_of_some _ e)
  refine h h' tk' vs' c' ?_ ?_ hv' (by rw [hv'.length, List.length_append, KBw.ints_length])
  · obtain ⟨oL, a1, a2, hoL, a3⟩ := F.ns
    refine ⟨⟨oL, a1, a2, hk' L oL hD.2.1.symm hoL, a3⟩, fun a o e => hk' a o ?_ (F.keep a o e), F.above⟩
    rintro rfl
    rw [hD.2.2] at e
    exact nomatch e
  · obtain ⟨pre, post, e1, e2, ha, hc⟩ := (U (W.listOf (List.toArray vs') c')).split
    rw [e2]
    rw [e1] at N
    intro p hp
    rcases List.mem_append.mp hp with hp | hp
    · have z := N p (List.mem_append.mpr (.inl hp))
      exact ⟨hk' _ _ (ha p hp) z.1, z.2⟩
    · rcases List.mem_cons.mp hp with rfl | hp
      · exact ⟨hS, hD.2⟩
      · have z := N p (List.mem_append.mpr (.inr (.tail _ hp)))
        exact ⟨hk' _ _ (hc p hp) z.1, z.2⟩
end
end Mine
end
section
open PySem PySem.W PyProof.Rows PySem.Spec PySem.Calls
set_option maxRecDepth 100000
namespace Mine
section
variable {w : World} {mean : ExcName → Option Value} {mg mb : Str → Option Value}
  {bs : Array UInt8} {ks : List Int} {tb : Tok} {p0 p1 : Int} {as : Array UInt8} {ta : Tok} {news : List (Addr × Obj)}
  {dp un : Nat} {gd : Option (List Code)} {cn : Str} {cs : Scope} {a : Addr} {ccd : Value} {cl : List (Str × Addr)} {outer : List Env} {A₀ : Around} {base h₀ : Heap} {L : Addr} {m : Str → Option Value} {s : Shared} {Q E : Value → Shared → Prop}
theorem b64_use (h1 : Below A₀ base outer h₀) (h2 : Fr h₀ L s.heap m) (h3 : (hd.heap_39 w.params).In h₀) (h4 : News h₀ L s.heap news) (h5 : Top hd.view_39 (looseW hd.view_39 [Str.ofString "b2a_base64", Str.ofString "b64encode"]) mean mg mb h₀) (h6 : cs.kind = .function) (h7 : KBw.bInts bs = ks) (h8 : ks.length ≤ 100) (h9 : (enc ks).length ≤ 1000) (h10 : KBw.bInts as = [p0, p1]) (h11 : dp + 7 < recursionLimit) (h12 : un + 100 < cLine)
  (h13 : ∀ (t : Tok) (h' : Heap) (tk' : Nat), Fr h₀ L h' m → News h₀ L h' news → Q (.bytes (byteArr ((enc ks).map (alt2 p0 p1))) t) { s with heap := h', toks := tk' }) :
  wpAny (model Challenge.rw_mg0015_01.row.prog w) (ktrTop dp un gd cn cs L a ccd cl outer) (call (.ref 51) [.bytes bs tb, .bytes as ta]) Q E s :=
  b64 _ _ _ _ _ _ _ _ _ _ _ _ _ _ _ _ _ _ _ _ _ _ _ _ _ _ _ _ _ h1 h2 h3 h4 h5 h6 h7 h8 h9 h10 h11 h12 h13
theorem b64u_use (h1 : Below A₀ base outer h₀) (h2 : Fr h₀ L s.heap m) (h3 : (hd.heap_39 w.params).In h₀) (h4 : News h₀ L s.heap news) (h5 : Top hd.view_39 (looseW hd.view_39 [Str.ofString "b2a_base64", Str.ofString "b64encode"]) mean mg mb h₀) (h6 : cs.kind = .function) (h7 : KBw.bInts bs = ks) (h8 : ks.length ≤ 100) (h11 : dp + 7 < recursionLimit) (h12 : un + 100 < cLine)
  (h13 : ∀ (t : Tok) (h' : Heap) (tk' : Nat), Fr h₀ L h' m → News h₀ L h' news → Q (.bytes (byteArr (enc ks)) t) { s with heap := h', toks := tk' }) :
  wpAny (model Challenge.rw_mg0015_01.row.prog w) (ktrTop dp un gd cn cs L a ccd cl outer) (call (.ref 51) [.bytes bs tb]) Q E s :=
  b64u _ _ _ _ _ _ _ _ _ _ _ _ _ _ _ _ _ _ _ _ _ _ _ _ _ h1 h2 h3 h4 h5 h6 h7 h8 h11 h12 h13
end
end Mine
end
section
open PySem PySem.W PyProof.Rows PySem.Spec PySem.Calls
set_option maxRecDepth 100000
namespace Mine
theorem readC_use {w : World} {mean : ExcName → Option Value} {mg mb : Str → Option Value}
  {lx : Addr} {vx : List Value} {ns : List Int} {nx : Nat} {l : Addr} {p0 p1 : Int} {t0 t1 : Tok} {nn : Nat} {res : List Int} {news : List (Addr × Obj)}
  {dp un : Nat} {gd : Option (List Code)} {cn : Str} {cs : Scope} {a : Addr} {ccd : Value} {cl : List (Str × Addr)} {outer : List Env} {A₀ : Around} {base h₀ : Heap} {L : Addr} {m : Str → Option Value} {s : Shared} {Q E : Value → Shared → Prop}
  (h1 : Below A₀ base outer h₀) (h2 : Fr h₀ L s.heap m) (h3 : (hd.heap_39 w.params).In h₀) (h4 : News h₀ L s.heap news) (h5 : Top hd.view_39 (looseW hd.view_39 [Str.ofString "b2a_base64", Str.ofString "b64encode"]) mean mg mb h₀) (h6 : cs.kind = .function) (h7 : dp + 7 < recursionLimit) (h8 : un + 80 < cLine)
  (h9 : (lx, W.listOf vx.toArray nx) ∈ news) (h10 : IntsAre vx ns) (h11 : ns.length ≤ 1000) (h12 : (l, W.listOf [.int p0 t0, .int p1 t1].toArray nn) ∈ news) (h13 : rd p0 p1 ns (some ([], 0, 0)) = some (res, 0, 0))
  (h14 : ∀ (lo : Addr) (vo : List Value) (no : Nat) (h' : Heap) (tk' : Nat), IntsAre vo res → Fr h₀ L h' m → News h₀ L h' ((lo, W.listOf vo.toArray no) :: news) → Q (.ref lo) { s with heap := h', toks := tk' }) :
  wpAny (model Challenge.rw_mg0015_01.row.prog w) (ktrTop dp un gd cn cs L a ccd cl outer) (call (.ref 114) [.ref lx, .ref l]) Q E s :=
  readC _ _ _ _ _ _ _ _ _ _ _ _ _ _ _ _ _ _ _ _ _ _ _ _ _ _ _ _ _ _ _ _ _ h1 h2 h3 h4 h5 h6 h7 h8 h9 h10 h11 h12 h13 h14
end Mine
end
section
open PySem PySem.W PyProof.Rows PySem.Spec PySem.Calls
set_option maxRecDepth 100000
set_option maxHeartbeats 40000000
namespace Mine
theorem law_holds : PySem.Challenge.rw_mg0015_01.Holds := by
  refine hd ?_
  k_go0
  all_goals try k_fold
  repeat' ((fail_if_success (with_reducible show wpAny _ _ (eval (Expr.BoolOp BoolOp.Or _ _) _) _ _ _)); first | (k_unfold; (try dsimp only)) | walk1 | (dsimp only [List.cons_append, List.nil_append]; walk1))
  rename Fr _ _ _ _ => F0
  rename News _ _ _ _ => N0
  refine cutL0 (fun ns => 1 ≤ ns.length ∧ ns.length ≤ 9) F0 N0 ?_ ?_
  · walk1
    repeat' (first | (k_unfold; (try dsimp only)) | walk1 | (dsimp only [List.cons_append, List.nil_append]; walk1))
    · exact Stop.mk ⟨_, _, _, _, _, _, rfl, rfl, by assumption, ⟨by omega, by omega⟩, by k_asm, by k_asm, ⟨by omega, trivial⟩⟩
    · exact Stop.mk ⟨_, _, [251, 255, 190], _, _, _, rfl, rfl, .cons _ _ (.cons _ _ (.cons _ _ .nil)), ⟨by decide, by decide⟩, by k_asm, cb_drop (by assumption) (List.forall_mem_cons.mpr ⟨.head _, List.forall_mem_cons.mpr ⟨.tail _ (.tail _ (.head _)), fun _ h => nomatch h⟩⟩), ⟨by omega, trivial⟩⟩
  · intro m0 l vs ns nn h' tk' hI hIl hP F' N' l1
    clear F0 N0
    simp only [AllLt, and_true] at l1
    as_aux_lemma =>
      repeat' ((fail_if_success (with_reducible show wpAny _ _ (eval (Expr.BinOp (Expr.BinOp _ _ _ _) _ _ _) _) _ _ _)); first | (k_unfold; (try dsimp only)) | walk1 | (dsimp only [List.cons_append, List.nil_append]; walk1))
      rename News _ _ _ _ => N0
      rename Fr _ _ _ _ => F0
      rename IntsAre _ (List.map _ _) => hRI
      rename (_ = (List.map _ _).length) => hRL
      rename (_ ≠ _ ∧ _ ≠ _) => hRo
      as_aux_lemma =>
        refine cutL (fun ns => ns = OTH) F0 N0 ?_ ?_
        · clear hRL hRo
          repeat' ((fail_if_success (with_reducible show wpAny _ _ (binaryOp Operator.Add (Value.ref _) (Value.ref _)) _ _ _)); first | (k_unfold; (try dsimp only)) | walk1 | (dsimp only [List.cons_append, List.nil_append]; walk1))
          walk1
          repeat' ((fail_if_success (with_reducible show wpAny _ _ (binaryOp Operator.Add (Value.ref _) (Value.ref _)) _ _ _)); first | (k_unfold; (try dsimp only)) | walk1 | (dsimp only [List.cons_append, List.nil_append]; walk1))
          k_dflt refine' kmk_add_ints ?quF ?quN ?qua ?qub ?qui (ints_of_carried (out := [91, 92, 93, 94, 95, 96]) ?quj) ?_ ?quz
          case quF => k_asm
          case quN => k_asm
          case qua => exact News.isList (by k_asm) (.head _)
          case qub => assumption
          case qui => assumption
          case quj => assumption
          case quz => exact Nat.le_of_ble_eq_true rfl
          intro D' ws' h' F' N' l1 hI'
          k_lt l1
          k_sweep
          repeat' ((fail_if_success (with_reducible show wpAny _ _ (binaryOp Operator.Add (Value.ref _) (Value.ref _)) _ _ _)); first | (k_unfold; (try dsimp only)) | walk1 | (dsimp only [List.cons_append, List.nil_append]; walk1))
          k_dflt refine' kmk_add_ints ?qvF ?qvN ?qva ?qvb ?qvi (ints_of_carried (out := [123, 124, 125, 126, 127]) ?qvj) ?_ ?qvz
          case qvF => k_asm
          case qvN => k_asm
          case qva => exact News.isList (by k_asm) (.head _)
          case qvb => assumption
          case qvi => assumption
          case qvj => assumption
          case qvz => exact Nat.le_of_ble_eq_true rfl
          intro D' ws' h' F' N' l1 hI'
          k_lt l1
          k_sweep
          exact Stop.mk ⟨_, _, _, _, _, _, rfl, rfl, hI', rfl, F', cb_drop N' (List.forall_mem_cons.mpr ⟨.head _, fun p hp => .tail _ (.tail _ (.tail _ (.tail _ (.tail _ hp))))⟩), ⟨by omega, by omega, by omega, trivial⟩⟩
        · intro lo vo no nno h' tk' hOI hOl hO F' N' l2
          clear F0 N0
          subst hO
          simp only [AllLt, and_true] at l2
          as_aux_lemma =>
            have hq1 : 0 ≤ ns.sum.fmod 31 ∧ ns.sum.fmod 31 < 31 := by rw [Int.fmod_eq_emod_of_nonneg _ (by decide)]; omega
            have hq2 : 0 ≤ (ns.sum.fmod 31 + 1 + (ns.sum.fdiv 31).fmod 30).fmod 31 ∧ (ns.sum.fmod 31 + 1 + (ns.sum.fdiv 31).fmod 30).fmod 31 < 31 ∧ ¬ ns.sum.fmod 31 = (ns.sum.fmod 31 + 1 + (ns.sum.fdiv 31).fmod 30).fmod 31 := by
              rw [Int.fmod_eq_emod_of_nonneg _ (by decide : (0 : Int) ≤ 31), Int.fmod_eq_emod_of_nonneg _ (by decide : (0 : Int) ≤ 31), Int.fmod_eq_emod_of_nonneg _ (by decide : (0 : Int) ≤ 30)]
              omega
            have hs0 := oth_sig (k := 33 + ns.sum.fmod 31) (by omega) (by omega)
            have hs1 := oth_sig (k := 33 + (ns.sum.fmod 31 + 1 + (ns.sum.fdiv 31).fmod 30).fmod 31) (by omega) (by omega)
            have hne := oth_ne (k := 33 + ns.sum.fmod 31) (j := 33 + (ns.sum.fmod 31 + 1 + (ns.sum.fdiv 31).fmod 30).fmod 31) (by omega) (by omega) (by omega) (by omega) (by omega)
            generalize hp0 : OTH.getD (33 + ns.sum.fmod 31).toNat 0 = p0 at hs0 hne
            generalize hp1 : OTH.getD (33 + (ns.sum.fmod 31 + 1 + (ns.sum.fdiv 31).fmod 30).fmod 31).toNat 0 = p1 at hs1 hne
            repeat' ((fail_if_success (with_reducible show wpAny _ _ (subscriptTail _ (Expr.BinOp _ _ _ _) (Value.ref _) (Value.int _ _)) _ _ _)); (fail_if_success (with_reducible show wpAny _ _ (exec (Stmt.If _ _ _ _) _) _ _ _)); first | (k_unfold; (try dsimp only)) | walk1 | (dsimp only [List.cons_append, List.nil_append]; walk1))
            refine lst_item (News.isList (by assumption) (.head _)) hOI (by omega) (by rw [oth_len]; omega) (by omega) hp0 ?_
            intro t0
            repeat' ((fail_if_success (with_reducible show wpAny _ _ (subscriptTail _ (Expr.BinOp _ _ _ _) (Value.ref _) (Value.int _ _)) _ _ _)); (fail_if_success (with_reducible show wpAny _ _ (exec (Stmt.If _ _ _ _) _) _ _ _)); first | (k_unfold; (try dsimp only)) | walk1 | (dsimp only [List.cons_append, List.nil_append]; walk1))
            refine lst_item (News.isList (by assumption) (.head _)) hOI (by omega) (by rw [oth_len]; omega) (by omega) hp1 ?_
            intro t1
            clear hp0 hp1 hq1 hq2
            repeat' ((fail_if_success (with_reducible show wpAny _ _ (subscriptTail _ (Expr.BinOp _ _ _ _) (Value.ref _) (Value.int _ _)) _ _ _)); (fail_if_success (with_reducible show wpAny _ _ (exec (Stmt.If _ _ _ _) _) _ _ _)); first | (k_unfold; (try dsimp only)) | walk1 | (dsimp only [List.cons_append, List.nil_append]; walk1))
            rename News _ _ _ _ => N0
            rename Fr _ _ _ _ => F0
            replace N0 := rot5 N0
            generalize decide (Int.fmod (List.getD ns (-1 + (ns.length : Int)).toNat 0) 4 < 2) = us at F0
            refine cutIf (fun p0 p1 => Sig p0 ∧ Sig p1 ∧ ¬ p0 = p1 ∧ (us = true → p0 = 43 ∧ p1 = 47)) F0 N0 ?_ ?_
            · cases us
              · walk1
                repeat' ((fail_if_success (with_reducible show wpAny _ _ (subscriptTail _ (Expr.BinOp _ _ _ _) (Value.ref _) (Value.int _ _)) _ _ _)); (fail_if_success (with_reducible show wpAny _ _ (exec (Stmt.If _ _ _ _) _) _ _ _)); first | (k_unfold; (try dsimp only)) | walk1 | (dsimp only [List.cons_append, List.nil_append]; walk1))
                exact Stop.mk ⟨rfl, _, p0, p1, _, _, _, _, _, _, rfl, ⟨hs0, hs1, hne, fun h => nomatch h⟩, by assumption, F0, N0, ⟨by omega, by omega, by omega, by omega, trivial⟩⟩
              · walk1
                repeat' ((fail_if_success (with_reducible show wpAny _ _ (subscriptTail _ (Expr.BinOp _ _ _ _) (Value.ref _) (Value.int _ _)) _ _ _)); (fail_if_success (with_reducible show wpAny _ _ (exec (Stmt.If _ _ _ _) _) _ _ _)); first | (k_unfold; (try dsimp only)) | walk1 | (dsimp only [List.cons_append, List.nil_append]; walk1))
                rename News _ _ _ _ => N9
                exact Stop.mk ⟨rfl, _, 43, 47, _, _, _, _, _, _, rfl, ⟨by unfold Sig; decide, by unfold Sig; decide, by decide, fun _ => ⟨rfl, rfl⟩⟩, by assumption, by k_asm, cb_drop N9 (List.forall_mem_cons.mpr ⟨.head _, fun p hp => .tail _ (.tail _ hp)⟩), ⟨by omega, by omega, by omega, by omega, trivial⟩⟩
            · clear hs0 hs1 hne
              intro lp p0 p1 t0 t1 nnp oc h' tk' hPP hoc F' N' l3
              clear F0 N0
              simp only [AllLt, and_true] at l3
              obtain ⟨hs0, hs1, hne, hus⟩ := hPP
              have hRO : Oct (List.map (fun k' => Int.fmod k' 256) ns) := by
                intro c hc
                obtain ⟨k, _, rfl⟩ := List.mem_map.mp hc
                rw [Int.fmod_eq_emod_of_nonneg _ (by decide)]
                omega
              have hRn : (List.map (fun k' => Int.fmod k' 256) ns).length = ns.length := List.length_map _
              generalize List.map (fun k' => Int.fmod k' 256) ns = row at hRI hRL hRO hRn
              generalize ns.sum = total at F'
              as_aux_lemma =>
                have hcut : 0 ≤ total.fmod ((ns.length : Int) + 1) ∧ total.fmod ((ns.length : Int) + 1) ≤ (row.length : Int) := by
                  have h1 := Int.fmod_nonneg_of_pos total (b := (ns.length : Int) + 1) (by omega)
                  have h2 := Int.fmod_lt_of_pos total (b := (ns.length : Int) + 1) (by omega)
                  omega
                repeat' ((fail_if_success (with_reducible show wpAny _ _ (exec (Stmt.For _ _ _ _ _) _) _ _ _)); first | (k_unfold; (try dsimp only)) | walk1 | (dsimp only [List.cons_append, List.nil_append]; walk1))
                rename News _ _ _ _ => N0
                rename Fr _ _ _ _ => F0
                generalize total.fmod ((ns.length : Int) + 1) = cut at hcut F0
                obtain ⟨hc0, hc1⟩ := hcut
                repeat' ((fail_if_success (with_reducible show wpAny _ _ (subscriptTail _ (Expr.Slice _ _ _ _) (Value.ref _) _) _ _ _)); first | (k_unfold; (try dsimp only)) | walk1 | (dsimp only [List.cons_append, List.nil_append]; walk1))
                rename News _ _ _ _ => N0
                rename Fr _ _ _ _ => F0
                k_dflt refine' kmk_slice_ints ?sF ?sN ?sl ?sp ?sq hRI (kmk_upto hRI hc0) rfl ?_ ?ss ?st ?sz
                case sF => k_asm
                case sN => k_asm
                case sl => kmk_list
                case sp => kmk_part
                case sq => kmk_part
                case ss => with_unfolding_all rfl
                case st => kmk_pure
                case sz => (rw [List.size_toArray, sizeLine_eq]; omega)
                intro lx vx h' F' N' lx1 hxI hxl _
                k_lt lx1
                k_sweep
                repeat' ((fail_if_success (with_reducible show wpAny _ _ (subscriptTail _ (Expr.Slice _ _ _ _) (Value.ref _) _) _ _ _)); first | (k_unfold; (try dsimp only)) | walk1 | (dsimp only [List.cons_append, List.nil_append]; walk1))
                rename News _ _ _ _ => N0
                rename Fr _ _ _ _ => F0
                k_dflt refine' kmk_slice_ints ?sF ?sN ?sl ?sp ?sq hRI (kmk_from hRI hc0) rfl ?_ ?ss ?st ?sz
                case sF => k_asm
                case sN => k_asm
                case sl => kmk_list
                case sp => kmk_part
                case sq => kmk_part
                case ss => with_unfolding_all rfl
                case st => kmk_pure
                case sz => (rw [List.size_toArray, sizeLine_eq]; omega)
                intro ly vy h' F' N' ly1 hyI hyl _
                k_lt ly1
                k_sweep
                have hab : row.take cut.toNat ++ row.drop cut.toNat = row := List.take_append_drop _ _
                have hka : (row.take cut.toNat).length ≤ 9 := by omega
                have hkb : (row.drop cut.toNat).length ≤ 9 := by omega
                have hoa : Oct (row.take cut.toNat) := fun c hc => hRO c (List.mem_of_mem_take hc)
                have hob : Oct (row.drop cut.toNat) := fun c hc => hRO c (List.mem_of_mem_drop hc)
                clear hxl hyl
                generalize row.take cut.toNat = ka at hxI hab hka hoa
                generalize row.drop cut.toNat = kb at hyI hab hkb hob
                repeat' ((fail_if_success (with_reducible show wpAny _ _ (eval (Expr.IfExp _ _ _ _) _) _ _ _)); first | (k_unfold; (try dsimp only)) | walk1 | (dsimp only [List.cons_append, List.nil_append]; walk1))
                k_sweep
                as_aux_lemma =>
                  rename News _ _ _ _ => N0
                  rename Fr _ _ _ _ => F0
                  refine cutB (wr p0 p1 ka) F0 N0 ?_ ?_
                  · cases us
                    · walk1
                      repeat' ((fail_if_success (with_reducible show wpAny _ _ (call (Value.type "bytes") [Value.ref _]) _ _ _)); (fail_if_success (with_reducible show wpAny _ _ (call (Value.ref _) _) _ _ _)); first | (k_unfold; (try dsimp only)) | walk1 | (dsimp only [List.cons_append, List.nil_append]; walk1))
                      rename News _ _ _ _ => N9
                      rename Fr _ _ _ _ => F9
                      refine KBa.make_K F9 N9 rfl (by kmk_list) hxI hoa (by omega) ?_
                      intro h9 t9 k9 F8 N8 _
                      clear F9 N9
                      repeat' ((fail_if_success (with_reducible show wpAny _ _ (call (Value.type "bytes") [Value.ref _]) _ _ _)); (fail_if_success (with_reducible show wpAny _ _ (call (Value.ref _) _) _ _ _)); first | (k_unfold; (try dsimp only)) | walk1 | (dsimp only [List.cons_append, List.nil_append]; walk1))
                      have hpo : Oct [p0, p1] := sig_oct hs0 hs1
                      refine KBa.make_K F8 N8 rfl (by kmk_list) (.cons _ _ (.cons _ _ .nil)) hpo (Nat.le_of_ble_eq_true rfl) ?_
                      intro h9 t9 k9 F9 N9 _
                      clear F8 N8
                      repeat' ((fail_if_success (with_reducible show wpAny _ _ (call (Value.type "bytes") [Value.ref _]) _ _ _)); (fail_if_success (with_reducible show wpAny _ _ (call (Value.ref _) _) _ _ _)); first | (k_unfold; (try dsimp only)) | walk1 | (dsimp only [List.cons_append, List.nil_append]; walk1))
                      refine' b64_use ?k1 ?k2 ?k3 ?k4 ?k5 ?kK (KBa.ints_make hoa) (by omega) (Nat.le_trans (enc_len_le ka) (by omega)) (KBa.ints_make hpo) ?kd ?ku ?_
                      (case k1 => k_asm)
                      (case k2 => k_asm)
                      (case k3 => k_asm)
                      (case k4 => k_asm)
                      (case k5 => k_asm)
                      (case kK => first | exact rfl | assumption)
                      (case kd => ktr_room)
                      (case ku => ktr_units)
                      intro t9 h9 tk9 F9 N9
                      exact Stop.mk ⟨_, _, _, _, rfl, rfl, KBa.ints_make (wr_oct hs0 hs1 hoa), F9, N9⟩
                    · obtain ⟨rfl, rfl⟩ := hus rfl
                      walk1
                      repeat' ((fail_if_success (with_reducible show wpAny _ _ (call (Value.type "bytes") [Value.ref _]) _ _ _)); (fail_if_success (with_reducible show wpAny _ _ (call (Value.ref _) _) _ _ _)); first | (k_unfold; (try dsimp only)) | walk1 | (dsimp only [List.cons_append, List.nil_append]; walk1))
                      rename News _ _ _ _ => N9
                      rename Fr _ _ _ _ => F9
                      refine KBa.make_K F9 N9 rfl (by kmk_list) hxI hoa (by omega) ?_
                      intro h9 t9 k9 F8 N8 _
                      clear F9 N9
                      repeat' ((fail_if_success (with_reducible show wpAny _ _ (call (Value.type "bytes") [Value.ref _]) _ _ _)); (fail_if_success (with_reducible show wpAny _ _ (call (Value.ref _) _) _ _ _)); first | (k_unfold; (try dsimp only)) | walk1 | (dsimp only [List.cons_append, List.nil_append]; walk1))
                      refine' b64u_use ?k1 ?k2 ?k3 ?k4 ?k5 ?kK (KBa.ints_make hoa) (by omega) ?kd ?ku ?_
                      (case k1 => k_asm)
                      (case k2 => k_asm)
                      (case k3 => k_asm)
                      (case k4 => k_asm)
                      (case k5 => k_asm)
                      (case kK => first | exact rfl | assumption)
                      (case kd => ktr_room)
                      (case ku => ktr_units)
                      intro t9 h9 tk9 F9 N9
                      exact Stop.mk ⟨_, _, _, _, rfl, rfl, (KBa.ints_make (enc_oct hoa)).trans (wr_usual ka).symm, F9, N9⟩
                  · intro b u h' tk' hW F' N'
                    clear F0 N0
                    have hWn : (wr p0 p1 ka).length ≤ 100 := by have := (wr_shape p0 p1 ka).2; omega
                    have hWl := wr_len p0 p1 ka
                    have hpd := pads_in ka.length
                    repeat' ((fail_if_success (with_reducible show wpAny _ _ (call (Value.builtin "isinstance") _) _ _ _)); first | (k_unfold; (try dsimp only)) | walk1 | (dsimp only [List.cons_append, List.nil_append]; walk1))
                    refine isi_bytes ?_
                    repeat' ((fail_if_success (with_reducible show wpAny _ _ (compareOp CmpOp.NotEq (Value.bytes _ _) (Value.bytes _ _)) _ _ _)); (fail_if_success (with_reducible show wpAny _ _ (call (Value.builtin "list.extend") _) _ _ _)); (fail_if_success (with_reducible show wpAny _ _ (subscriptTail _ (Expr.Slice _ _ _ _) (Value.ref _) _) _ _ _)); first | (k_unfold; (try dsimp only)) | walk1 | (dsimp only [List.cons_append, List.nil_append]; walk1))
                    · exact absurd hWl (by assumption)
                    refine ne_same ((by assumption : KBw.bInts (KBy.picked _ _ _) = _).trans (wr_cut p0 p1 ka)) (rep_ints _) ?_
                    repeat' ((fail_if_success (with_reducible show wpAny _ _ (compareOp CmpOp.NotEq (Value.bytes _ _) (Value.bytes _ _)) _ _ _)); (fail_if_success (with_reducible show wpAny _ _ (call (Value.builtin "list.extend") _) _ _ _)); (fail_if_success (with_reducible show wpAny _ _ (subscriptTail _ (Expr.Slice _ _ _ _) (Value.ref _) _) _ _ _)); first | (k_unfold; (try dsimp only)) | walk1 | (dsimp only [List.cons_append, List.nil_append]; walk1))
                    k_sweep
                    rename News _ _ _ _ => N0
                    rename Fr _ _ _ _ => F0
                    as_aux_lemma =>
                      refine' ext_bytes (vs := []) (ns := []) rfl F0 N0 ?xU .nil ?xz ?_
                      case xU => (intro o'; k_upd)
                      case xz => (rw [← KBw.ints_length, hW]; show 0 + _ ≤ _; omega)
                      intro h' tk' vl cl F' N' hlI hll
                      try dsimp only at N'
                      rw [hW, List.nil_append] at hlI
                      clear F0 N0 hll
                      repeat' ((fail_if_success (with_reducible show wpAny _ _ (eval (Expr.IfExp _ _ _ _) _) _ _ _)); first | (k_unfold; (try dsimp only)) | walk1 | (dsimp only [List.cons_append, List.nil_append]; walk1))
                      k_sweep
                      rename News _ _ _ _ => N0
                      rename Fr _ _ _ _ => F0
                      clear hW hWn hWl hpd
                      refine cutB (wr p0 p1 kb) F0 N0 ?_ ?_
                      · cases us
                        · walk1
                          repeat' ((fail_if_success (with_reducible show wpAny _ _ (call (Value.type "bytes") [Value.ref _]) _ _ _)); (fail_if_success (with_reducible show wpAny _ _ (call (Value.ref _) _) _ _ _)); first | (k_unfold; (try dsimp only)) | walk1 | (dsimp only [List.cons_append, List.nil_append]; walk1))
                          rename News _ _ _ _ => N9
                          rename Fr _ _ _ _ => F9
                          refine KBa.make_K F9 N9 rfl (by kmk_list) hyI hob (by omega) ?_
                          intro h9 t9 k9 F8 N8 _
                          clear F9 N9
                          repeat' ((fail_if_success (with_reducible show wpAny _ _ (call (Value.type "bytes") [Value.ref _]) _ _ _)); (fail_if_success (with_reducible show wpAny _ _ (call (Value.ref _) _) _ _ _)); first | (k_unfold; (try dsimp only)) | walk1 | (dsimp only [List.cons_append, List.nil_append]; walk1))
                          have hpo : Oct [p0, p1] := sig_oct hs0 hs1
                          refine KBa.make_K F8 N8 rfl (by kmk_list) (.cons _ _ (.cons _ _ .nil)) hpo (Nat.le_of_ble_eq_true rfl) ?_
                          intro h9 t9 k9 F9 N9 _
                          clear F8 N8
                          repeat' ((fail_if_success (with_reducible show wpAny _ _ (call (Value.type "bytes") [Value.ref _]) _ _ _)); (fail_if_success (with_reducible show wpAny _ _ (call (Value.ref _) _) _ _ _)); first | (k_unfold; (try dsimp only)) | walk1 | (dsimp only [List.cons_append, List.nil_append]; walk1))
                          refine' b64_use ?k1 ?k2 ?k3 ?k4 ?k5 ?kK (KBa.ints_make hob) (by omega) (Nat.le_trans (enc_len_le kb) (by omega)) (KBa.ints_make hpo) ?kd ?ku ?_
                          (case k1 => k_asm)
                          (case k2 => k_asm)
                          (case k3 => k_asm)
                          (case k4 => k_asm)
                          (case k5 => k_asm)
                          (case kK => first | exact rfl | assumption)
                          (case kd => ktr_room)
                          (case ku => ktr_units)
                          intro t9 h9 tk9 F9 N9
                          exact Stop.mk ⟨_, _, _, _, rfl, rfl, KBa.ints_make (wr_oct hs0 hs1 hob), F9, N9⟩
                        · obtain ⟨rfl, rfl⟩ := hus rfl
                          walk1
                          repeat' ((fail_if_success (with_reducible show wpAny _ _ (call (Value.type "bytes") [Value.ref _]) _ _ _)); (fail_if_success (with_reducible show wpAny _ _ (call (Value.ref _) _) _ _ _)); first | (k_unfold; (try dsimp only)) | walk1 | (dsimp only [List.cons_append, List.nil_append]; walk1))
                          rename News _ _ _ _ => N9
                          rename Fr _ _ _ _ => F9
                          refine KBa.make_K F9 N9 rfl (by kmk_list) hyI hob (by omega) ?_
                          intro h9 t9 k9 F8 N8 _
                          clear F9 N9
                          repeat' ((fail_if_success (with_reducible show wpAny _ _ (call (Value.type "bytes") [Value.ref _]) _ _ _)); (fail_if_success (with_reducible show wpAny _ _ (call (Value.ref _) _) _ _ _)); first | (k_unfold; (try dsimp only)) | walk1 | (dsimp only [List.cons_append, List.nil_append]; walk1))
                          refine' b64u_use ?k1 ?k2 ?k3 ?k4 ?k5 ?kK (KBa.ints_make hob) (by omega) ?kd ?ku ?_
                          (case k1 => k_asm)
                          (case k2 => k_asm)
                          (case k3 => k_asm)
                          (case k4 => k_asm)
                          (case k5 => k_asm)
                          (case kK => first | exact rfl | assumption)
                          (case kd => ktr_room)
                          (case ku => ktr_units)
                          intro t9 h9 tk9 F9 N9
                          exact Stop.mk ⟨_, _, _, _, rfl, rfl, (KBa.ints_make (enc_oct hob)).trans (wr_usual kb).symm, F9, N9⟩
                      · intro b u h' tk' hW F' N'
                        clear F0 N0
                        have hWn : (wr p0 p1 kb).length ≤ 100 := by have := (wr_shape p0 p1 kb).2; omega
                        have hWl := wr_len p0 p1 kb
                        have hpd := pads_in kb.length
                        repeat' ((fail_if_success (with_reducible show wpAny _ _ (call (Value.builtin "isinstance") _) _ _ _)); first | (k_unfold; (try dsimp only)) | walk1 | (dsimp only [List.cons_append, List.nil_append]; walk1))
                        refine isi_bytes ?_
                        repeat' ((fail_if_success (with_reducible show wpAny _ _ (compareOp CmpOp.NotEq (Value.bytes _ _) (Value.bytes _ _)) _ _ _)); (fail_if_success (with_reducible show wpAny _ _ (call (Value.builtin "list.extend") _) _ _ _)); (fail_if_success (with_reducible show wpAny _ _ (subscriptTail _ (Expr.Slice _ _ _ _) (Value.ref _) _) _ _ _)); first | (k_unfold; (try dsimp only)) | walk1 | (dsimp only [List.cons_append, List.nil_append]; walk1))
                        · exact absurd hWl (by assumption)
                        refine ne_same ((by assumption : KBw.bInts (KBy.picked _ _ _) = _).trans (wr_cut p0 p1 kb)) (rep_ints _) ?_
                        repeat' ((fail_if_success (with_reducible show wpAny _ _ (compareOp CmpOp.NotEq (Value.bytes _ _) (Value.bytes _ _)) _ _ _)); (fail_if_success (with_reducible show wpAny _ _ (call (Value.builtin "list.extend") _) _ _ _)); (fail_if_success (with_reducible show wpAny _ _ (subscriptTail _ (Expr.Slice _ _ _ _) (Value.ref _) _) _ _ _)); first | (k_unfold; (try dsimp only)) | walk1 | (dsimp only [List.cons_append, List.nil_append]; walk1))
                        k_sweep
                        rename News _ _ _ _ => N0
                        rename Fr _ _ _ _ => F0
                        refine' ext_bytes rfl F0 N0 ?xU hlI ?xz ?_
                        case xU => (intro o'; k_upd)
                        case xz => (rw [← KBw.ints_length, hW]; have := (wr_shape p0 p1 ka).2; omega)
                        clear hlI
                        intro h' tk' vl cl F' N' hlI hll
                        try dsimp only at N'
                        rw [hW] at hlI
                        clear F0 N0
                        have hlin : ∀ c ∈ wr p0 p1 ka ++ wr p0 p1 kb, 33 ≤ c ∧ c ≤ 126 := by
                          intro c hc
                          rcases List.mem_append.mp hc with hc | hc
                          · exact wr_in hs0 hs1 hoa c hc
                          · exact wr_in hs0 hs1 hob c hc
                        have hlle : (wr p0 p1 ka ++ wr p0 p1 kb).length ≤ 100 := by
                          have h1 := (wr_shape p0 p1 ka).2
                          have h2 := (wr_shape p0 p1 kb).2
                          rw [List.length_append]
                          omega
                        have hlrd : rd p0 p1 (wr p0 p1 ka ++ wr p0 p1 kb) (some ([], 0, 0)) = some (row, 0, 0) := by
                          rw [rd_app]
                          unfold wr
                          rw [rd_enc hs0 hs1 hne hoa, rd_enc hs0 hs1 hne hob, ← hab]
                          rfl
                        generalize wr p0 p1 ka ++ wr p0 p1 kb = line at hlI hlin hlle hlrd
                        repeat' ((fail_if_success (with_reducible show wpAny _ _ (eval (Expr.ListComp _ _ _ _) _) _ _ _)); (fail_if_success (with_reducible show wpAny _ _ (exec (Stmt.If _ _ _ _) _) _ _ _)); first | (k_unfold; (try dsimp only)) | walk1 | (dsimp only [List.cons_append, List.nil_append]; walk1))
                        k_sweep
                        rename News _ _ _ _ => N0
                        rename Fr _ _ _ _ => F0
                        as_aux_lemma =>
                          obtain ⟨m1, F1⟩ := fr5 (x1 := Str.ofString "line") (x2 := Str.ofString "others") (x3 := Str.ofString "row") (x4 := Str.ofString "size") (x5 := Str.ofString "numbers") F0 rfl rfl rfl rfl rfl (by decide) (by decide) (by decide) (by decide) (by decide) (by decide) (by decide) (by decide) (by decide) (by decide)
                          have N1 := cb_drop N0 (fun p hp => .tail _ (.tail _ (.tail _ hp)))
                          revert F1 N1
                          repeat (rename Fr _ _ _ _ => hx; clear hx)
                          repeat (rename News _ _ _ _ => hx; clear hx)
                          repeat (rename (_ < _ ∧ _) => hx; clear hx)
                          clear hW hWn hWl hpd hll hus hRo hka hkb hoa hob hab hc0 hc1 hxI hyI
                          repeat (rename (KBw.bInts _ = _) => hx; clear hx)
                          intro F1 N1
                          repeat' ((fail_if_success (with_reducible show wpAny _ _ (eval (Expr.ListComp _ _ _ _) _) _ _ _)); first | (k_unfold; (try dsimp only)) | walk1 | (dsimp only [List.cons_append, List.nil_append]; walk1))
                          k_dflt refine LCt.ListComp_T (F₀ := by k_asm) (by with_unfolding_all rfl) (by decide) (by rfl) (by decide) (by rfl) ?_
                          walk1
                          refine LCt.CompSrcT.ledger (its := vl.toArray) (by rfl) F1 N1 (.head _) (by rw [List.size_toArray, hlI.length, sizeLine_eq]; omega) ?_
                          intro g
                          refine kci_list (ns := line) (fun l _ => l) hlI ?turn ?fin ?grow
                          case grow => exact fun l k => Nat.le_succ _
                          case turn =>
                            clear F1 N1
                            intro k t I oI C oC D m₂ ys l h tk E' hk hy hC hx F' N' off ne mk
                            have hk1 := hlin k hk
                            repeat' ((fail_if_success (with_reducible show wpAny _ _ (call (Value.ref _) _) _ _ _)); first | (k_unfold; (try dsimp only)) | walk1 | (dsimp only [List.cons_append, List.nil_append]; walk1))
                            refine' graphC_use ?k1 ?k2 ?k3 ?k4 ?k5 ?kK ?kd ?ku hk1.1 hk1.2 ?_
                            (case k1 => k_asm)
                            (case k2 => k_asm)
                            (case k3 => k_asm)
                            (case k4 => k_asm)
                            (case k5 => k_asm)
                            (case kK => first | exact rfl | assumption)
                            (case kd => ktr_room)
                            (case ku => ktr_units)
                            intro t9 h9 tk9 F9 N9
                            clear F' N'
                            repeat' ((fail_if_success (with_reducible show wpAny _ _ (call (Value.ref _) _) _ _ _)); first | (k_unfold; (try dsimp only)) | walk1 | (dsimp only [List.cons_append, List.nil_append]; walk1))
                            exact LCg.CompEnd.intro (by k_asm) (by k_asm) _ (fun p hp => hp) off (.inr ⟨_, .head _, rfl, _, rfl⟩) (kci_no rfl rfl)
                          case fin =>
                            clear F1 N1
                            intro zs hy hyl D h tk F' N' off
                            rw [fold_id] at hy
                            have hz := ints_nil hy
                            subst hz
                            clear hy hyl
                            simp only [LCg.Off1, and_true] at off
                            repeat' ((fail_if_success (with_reducible show wpAny _ _ (exec (Stmt.Assign _ _ _) _) _ _ _)); first | (k_unfold; (try dsimp only)) | walk1 | (dsimp only [List.cons_append, List.nil_append]; walk1))
                            as_aux_lemma =>
                              rename News _ _ _ _ => N0
                              rename Fr _ _ _ _ => F0
                              have N1 := cb_drop N0 (fun p hp => .tail _ (.tail _ hp))
                              clear N0
                              k_dflt refine LCt.Assign_ListComp_T (F₀ := by k_asm) (by rfl) (by with_unfolding_all rfl) (by with_unfolding_all rfl) (by decide) (by rfl) (by decide) (by rfl) (by rfl) (by rfl) ?_
                              walk1
                              refine LCt.CompSrcT.ledger (its := vo.toArray) (by rfl) F0 N1 (.tail _ (.tail _ (.tail _ (.head _)))) (by rw [List.size_toArray, hOl, sizeLine_eq]; decide) ?_
                              intro g
                              refine kci_list (ns := OTH) (strayG p0 p1) hOI ?turn ?fin (strayG_grows p0 p1)
                              case turn =>
                                clear F0 N1
                                intro k t I oI C oC D m₂ zs l h tk E' hk hy hC hx F' N' off ne mk
                                repeat' ((fail_if_success (with_reducible show wpAny _ _ (compareOp CmpOp.NotIn _ _) _ _ _)); first | (k_unfold; (try dsimp only)) | walk1 | (dsimp only [List.cons_append, List.nil_append]; walk1))
                                by_cases hkp : k = p0 ∨ k = p1
                                · refine kf_notin N' (.tail _ (.tail _ (.tail _ (.tail _ (.head _))))) rfl (b := false) (by rw [any_t hkp]; rfl) ?_
                                  repeat' (first | (k_unfold; (try dsimp only)) | walk1 | (dsimp only [List.cons_append, List.nil_append]; walk1))
                                  exact LCg.CompEnd.intro (by k_asm) (by k_asm) _ (fun p hp => hp) off (.inr ⟨_, .tail _ (.tail _ (.tail _ (.head _))), rfl, _, rfl⟩) (kci_no (strayG_f l hkp) rfl)
                                · refine kf_notin N' (.tail _ (.tail _ (.tail _ (.tail _ (.head _))))) rfl (b := true) (by rw [any_f (fun h => hkp (.inl h)) (fun h => hkp (.inr h))]; rfl) ?_
                                  repeat' (first | (k_unfold; (try dsimp only)) | walk1 | (dsimp only [List.cons_append, List.nil_append]; walk1))
                                  exact LCg.CompEnd.intro (by k_asm) (by k_asm) _ (fun p hp => hp) off (.inr ⟨_, .tail _ (.tail _ (.tail _ (.head _))), rfl, _, rfl⟩) (kci_el (strayG_t l (fun h => hkp (.inl h)) (fun h => hkp (.inr h))) rfl rfl)
                              case fin =>
                                clear F0 N1
                                intro zs hy hyl D h tk F' N' off
                                rw [strayG_eq] at hy
                                clear hyl
                                simp only [LCg.Off1, and_true] at off
                                repeat' ((fail_if_success (with_reducible show wpAny _ _ (exec (Stmt.For _ _ _ _ _) _) _ _ _)); first | (k_unfold; (try dsimp only)) | walk1 | (dsimp only [List.cons_append, List.nil_append]; walk1))
                                k_sweep
                                rename News _ _ _ _ => N0
                                rename Fr _ _ _ _ => F0
                                have hyl := strayL_len hs0 hs1 hne
                                as_aux_lemma =>
                                  repeat' ((fail_if_success (with_reducible show wpAny _ _ (pyIter _) _ _ _)); first | (k_unfold; (try dsimp only)) | walk1 | (dsimp only [List.cons_append, List.nil_append]; walk1))
                                  rename News _ _ _ _ => N1
                                  rename Fr _ _ _ _ => F1
                                  rename IsRange _ _ _ _ _ _ _ _ => R1
                                  refine rangeLoop1 (n := line.length) (vs₀ := []) (out₀ := []) [Str.ofString "x", Str.ofString "stray", Str.ofString "code", Str.ofString "k"] (SentInv p0 p1 line) rfl R1 (small_one (by omega) (by omega) (by omega) (by omega)) ?rs F1 N1 .nil (sent_nil p0 p1 line) ?turn ?done
                                  case rs => (rw [rangeSize_nat]; omega)
                                  case turn =>
                                    clear F1 N1 R1
                                    repeat (rename Fr _ _ _ _ => hx; clear hx)
                                    repeat (rename News _ _ _ _ => hx; clear hx)
                                    intro vt out nt pre i ti u h tk own hik hpl hoff hv hvl hP F' N'
                                    have kMark := kstMark
                                    dsimp only [List.cons_append, List.nil_append] at N'
                                    have hq1 := Int.fmod_nonneg_of_pos i (b := (ns.length : Int)) (by omega)
                                    have hq2 := Int.fmod_lt_of_pos i (b := (ns.length : Int)) (by omega)
                                    obtain ⟨x, hxe⟩ : ∃ x, ns.getD (i.fmod (ns.length : Int)).toNat 0 = x := ⟨_, rfl⟩
                                    repeat' ((fail_if_success (with_reducible show wpAny _ _ (subscriptTail _ _ (Value.ref _) (Value.int _ _)) _ _ _)); first | (k_unfold; (try dsimp only)) | walk1 | (dsimp only [List.cons_append, List.nil_append]; walk1))
                                    refine lst_item (by kmk_list) hI hq1 hq2 (by omega) hxe ?_
                                    intro tx
                                    clear hxe hq1 hq2
                                    have hq3 : 0 ≤ (x.fdiv 256 + 7 * i).fmod 63 ∧ (x.fdiv 256 + 7 * i).fmod 63 < 63 := by
                                      rw [Int.fmod_eq_emod_of_nonneg _ (by decide)]
                                      omega
                                    obtain ⟨y, hye⟩ : ∃ y, (strayL p0 p1).getD ((x.fdiv 256 + 7 * i).fmod 63).toNat 0 = y := ⟨_, rfl⟩
                                    have hyS : Stray p0 p1 y := strayL_at hye (by rw [hyl]; omega)
                                    repeat' ((fail_if_success (with_reducible show wpAny _ _ (subscriptTail _ _ (Value.ref _) (Value.int _ _)) _ _ _)); first | (k_unfold; (try dsimp only)) | walk1 | (dsimp only [List.cons_append, List.nil_append]; walk1))
                                    refine lst_item (by kmk_list) hy hq3.1 (by rw [hyl]; omega) (by omega) hye ?_
                                    intro ty
                                    clear hye hq3
                                    repeat' ((fail_if_success (with_reducible show wpAny _ _ (eval (Expr.IfExp _ _ _ _) _) _ _ _)); first | (k_unfold; (try dsimp only)) | walk1 | (dsimp only [List.cons_append, List.nil_append]; walk1))
                                    rename News _ _ _ _ => N0
                                    rename Fr _ _ _ _ => F0
                                    clear F' N'
                                    refine cutI (fun c => c % 128 = y % 128) F0 N0 ?_ ?_
                                    · walk1
                                      repeat' ((fail_if_success (with_reducible show wpAny _ _ (call (Value.ref _) _) _ _ _)); first | (k_unfold; (try dsimp only)) | walk1 | (dsimp only [List.cons_append, List.nil_append]; walk1))
                                      · refine' altC_use ?k1 ?k2 ?k3 ?k4 ?k5 ?kK ?kd ?ku ?_
                                        (case k1 => k_asm)
                                        (case k2 => k_asm)
                                        (case k3 => k_asm)
                                        (case k4 => k_asm)
                                        (case k5 => k_asm)
                                        (case kK => first | exact rfl | assumption)
                                        (case kd => ktr_room)
                                        (case ku => ktr_units)
                                        intro t9 h9 tk9 F9 N9
                                        exact Stop.mk ⟨_, _, _, _, rfl, rfl, bitOr_128_mod y, F9, N9⟩
                                      · exact Stop.mk ⟨_, _, _, _, rfl, rfl, rfl, by k_asm, by k_asm⟩
                                    · intro c1 tc1 h' tk' hc1 F' N'
                                      clear F0 N0
                                      repeat' ((fail_if_success (with_reducible show wpAny _ _ (call (Value.builtin "list.append") _) _ _ _)); first | (k_unfold; (try dsimp only)) | walk1 | (dsimp only [List.cons_append, List.nil_append]; walk1))
                                      have hol := hP.1
                                      refine' append_K F' N' ?ap ?_ ?az
                                      case ap => k_upd
                                      case az => (rw [List.size_toArray, sizeLine_eq]; omega)
                                      intro h9 F9 N9
                                      clear F' N'
                                      simp only [List.push_toArray] at N9
                                      obtain ⟨c0, hce⟩ : ∃ c0, line.getD i.toNat 0 = c0 := ⟨_, rfl⟩
                                      repeat' ((fail_if_success (with_reducible show wpAny _ _ (subscriptTail _ _ (Value.ref _) (Value.int _ _)) _ _ _)); first | (k_unfold; (try dsimp only)) | walk1 | (dsimp only [List.cons_append, List.nil_append]; walk1))
                                      refine lst_item (by kmk_list) hlI (by omega) (by omega) (by omega) hce ?_
                                      intro tc0
                                      repeat' ((fail_if_success (with_reducible show wpAny _ _ (exec (Stmt.For _ _ _ _ _) _) _ _ _)); first | (k_unfold; (try dsimp only)) | walk1 | (dsimp only [List.cons_append, List.nil_append]; walk1))
                                      rename News _ _ _ _ => N0
                                      rename Fr _ _ _ _ => F0
                                      try clear F9
                                      try clear N9
                                      have hq4 : (x.fdiv 32768 + i).fmod 3 = 0 ∨ (x.fdiv 32768 + i).fmod 3 = 1 ∨ (x.fdiv 32768 + i).fmod 3 = 2 := by
                                        rw [Int.fmod_eq_emod_of_nonneg _ (by decide)]
                                        omega
                                      refine cutK (Str.ofString "code") (Str.ofString "k") (fun c => c % 128 = c0 % 128) F0 N0 ?_ ?_
                                      · walk1
                                        repeat' ((fail_if_success (with_reducible show wpAny _ _ (call (Value.type "range") _) _ _ _)); first | (k_unfold; (try dsimp only)) | walk1 | (dsimp only [List.cons_append, List.nil_append]; walk1))
                                        rcases hq4 with e4 | e4 | e4 <;> rw [e4]
                                        all_goals repeat' ((fail_if_success (with_reducible show wpAny _ _ (call (Value.ref _) _) _ _ _)); first | (k_unfold; (try dsimp only)) | walk1 | (dsimp only [List.cons_append, List.nil_append]; walk1))
                                        · rename News _ _ _ _ => N8
                                          rename Fr _ _ _ _ => F8
                                          refine Stop.mk ⟨rfl, c0, tc0, _, _, _, rfl, rfl, ?e1, ?e2, F8, N8⟩
                                          case e1 => rfl
                                          case e2 => exact fun z _ _ => rfl
                                        · refine' altC_use ?k1 ?k2 ?k3 ?k4 ?k5 ?kK ?kd ?ku ?_
                                          (case k1 => k_asm)
                                          (case k2 => k_asm)
                                          (case k3 => k_asm)
                                          (case k4 => k_asm)
                                          (case k5 => k_asm)
                                          (case kK => first | exact rfl | assumption)
                                          (case kd => ktr_room)
                                          (case ku => ktr_units)
                                          intro t9 h9 tk9 F9 N9
                                          repeat' ((fail_if_success (with_reducible show wpAny _ _ (call (Value.ref _) _) _ _ _)); first | (k_unfold; (try dsimp only)) | walk1 | (dsimp only [List.cons_append, List.nil_append]; walk1))
                                          rename News _ _ _ _ => N8
                                          rename Fr _ _ _ _ => F8
                                          rename (_ < _ ∧ _) => l8
                                          refine ⟨_, _, _, _, rfl, F8, N8, allLt_ne l8, ?_⟩
                                          repeat' ((fail_if_success (with_reducible show wpAny _ _ (call (Value.ref _) _) _ _ _)); first | (k_unfold; (try dsimp only)) | walk1 | (dsimp only [List.cons_append, List.nil_append]; walk1))
                                          rename News _ _ _ _ => N8
                                          rename Fr _ _ _ _ => F8
                                          refine' Stop.mk ⟨rfl, _, _, _, _, _, rfl, bitOr_128_mod c0, ?e1, ?e2, F8, N8⟩
                                          case e1 => rfl
                                          case e2 => (intro z z1 z2; simp only [if_neg z1, if_neg z2])
                                        · refine' altC_use ?k1 ?k2 ?k3 ?k4 ?k5 ?kK ?kd ?ku ?_
                                          (case k1 => k_asm)
                                          (case k2 => k_asm)
                                          (case k3 => k_asm)
                                          (case k4 => k_asm)
                                          (case k5 => k_asm)
                                          (case kK => first | exact rfl | assumption)
                                          (case kd => ktr_room)
                                          (case ku => ktr_units)
                                          intro t9 h9 tk9 F9 N9
                                          repeat' ((fail_if_success (with_reducible show wpAny _ _ (call (Value.ref _) _) _ _ _)); first | (k_unfold; (try dsimp only)) | walk1 | (dsimp only [List.cons_append, List.nil_append]; walk1))
                                          rename News _ _ _ _ => N8
                                          rename Fr _ _ _ _ => F8
                                          rename (_ < _ ∧ _) => l8
                                          refine ⟨_, _, _, _, rfl, F8, N8, allLt_ne l8, ?_⟩
                                          repeat' ((fail_if_success (with_reducible show wpAny _ _ (call (Value.ref _) _) _ _ _)); first | (k_unfold; (try dsimp only)) | walk1 | (dsimp only [List.cons_append, List.nil_append]; walk1))
                                          refine' altC_use ?k1 ?k2 ?k3 ?k4 ?k5 ?kK ?kd ?ku ?_
                                          (case k1 => k_asm)
                                          (case k2 => k_asm)
                                          (case k3 => k_asm)
                                          (case k4 => k_asm)
                                          (case k5 => k_asm)
                                          (case kK => first | exact rfl | assumption)
                                          (case kd => ktr_room)
                                          (case ku => ktr_units)
                                          intro t9 h9 tk9 F9 N9
                                          repeat' ((fail_if_success (with_reducible show wpAny _ _ (call (Value.ref _) _) _ _ _)); first | (k_unfold; (try dsimp only)) | walk1 | (dsimp only [List.cons_append, List.nil_append]; walk1))
                                          rename News _ _ _ _ => N8
                                          rename Fr _ _ _ _ => F8
                                          rename (_ < _ ∧ _) => l8
                                          refine ⟨_, _, _, _, rfl, F8, N8, allLt_ne l8, ?_⟩
                                          repeat' ((fail_if_success (with_reducible show wpAny _ _ (call (Value.ref _) _) _ _ _)); first | (k_unfold; (try dsimp only)) | walk1 | (dsimp only [List.cons_append, List.nil_append]; walk1))
                                          rename News _ _ _ _ => N8
                                          rename Fr _ _ _ _ => F8
                                          refine' Stop.mk ⟨rfl, _, _, _, _, _, rfl, (bitOr_128_mod _).trans (bitOr_128_mod c0), ?e1, ?e2, F8, N8⟩
                                          case e1 => rfl
                                          case e2 => (intro z z1 z2; simp only [if_neg z1, if_neg z2])
                                      · intro c2 tc2 vk h' tk' hc2 F' N'
                                        clear F0 N0
                                        repeat' ((fail_if_success (with_reducible show wpAny _ _ (call (Value.builtin "list.append") _) _ _ _)); first | (k_unfold; (try dsimp only)) | walk1 | (dsimp only [List.cons_append, List.nil_append]; walk1))
                                        refine' append_K F' N' ?ap ?_ ?az
                                        case ap => k_upd
                                        case az => (rw [List.size_toArray, sizeLine_eq, List.length_append]; show _ + 1 ≤ _; omega)
                                        intro h9 F9 N9
                                        clear F' N'
                                        simp only [List.push_toArray] at N9
                                        repeat' (first | (k_unfold; (try dsimp only)) | walk1 | (dsimp only [List.cons_append, List.nil_append]; walk1))
                                        rename News _ _ _ _ => N8
                                        rename Fr _ _ _ _ => F8
                                        refine Stop.mk ⟨rfl, _, _, _, _, _, _, [], rfl, IntsAre.append (IntsAre.append hv (.cons _ _ .nil)) (.cons _ _ .nil), sent_step hP hik hpl hyS hc1 (by rw [hce]; exact hc2), F8, ?e3, N8⟩
                                        case e3 =>
                                          intro z z1 z4
                                          have z5 := not4 z4
                                          simp only [if_neg z1, if_neg z5.1, if_neg z5.2.1, if_neg z5.2.2.1, if_neg z5.2.2.2, z4, Bool.false_eq_true, if_false]
                                  case done =>
                                    clear F1 N1 R1
                                    repeat (rename Fr _ _ _ _ => hx; clear hx)
                                    repeat (rename News _ _ _ _ => hx; clear hx)
                                    intro vt out nt u h tk hv hvl hP F' N'
                                    have kMark := kstMark
                                    obtain ⟨hrd, hol⟩ := sent_done hP rfl
                                    rw [hlrd] at hrd
                                    as_aux_lemma =>
                                      repeat' ((fail_if_success (with_reducible show wpAny _ _ (call (Value.ref _) _) _ _ _)); first | (k_unfold; (try dsimp only)) | walk1 | (dsimp only [List.cons_append, List.nil_append]; walk1))
                                      refine' readC_use ?k1 ?k2 ?k3 ?k4 ?k5 ?kK ?kd ?ku ?km hv (by omega) ?kp hrd ?_
                                      (case k1 => k_asm)
                                      (case k2 => k_asm)
                                      (case k3 => k_asm)
                                      (case k4 => k_asm)
                                      (case k5 => k_asm)
                                      (case kK => first | exact rfl | assumption)
                                      (case kd => ktr_room)
                                      (case ku => ktr_units)
                                      (case km => k_mem)
                                      (case kp => k_mem)
                                      intro lq vq nq h9 tk9 hq F9 N9
                                      clear F' N'
                                      repeat' (first | (k_unfold; (try dsimp only)) | walk1 | (dsimp only [List.cons_append, List.nil_append]; walk1))
                                      k_end; kc_close
end Mine
end
theorem PySem.Challenge.cw_mg0015_01_holds : PySem.Challenge.rw_mg0015_01.Holds :=
  Mine.law_holds
