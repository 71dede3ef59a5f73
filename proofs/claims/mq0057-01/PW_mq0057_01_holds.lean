import PyProof.Rows.All
import Wide.All
import OpenK.AllK
import Wide.FinOn
import KE.BitLaws
import PySem.Challenge.RW_mq0057_01
open PySem PySem.W PyProof.Rows
set_option Elab.async false
set_option maxRecDepth 100000
set_option maxHeartbeats 8000000
/- HD -/
namespace Mine
open PyProof.Rows PySem PySem.W
open_top hd for PySem.Challenge.rw_mq0057_01
end Mine
/- Base -/
namespace Mine
open PyProof.Rows PySem PySem.W

noncomputable abbrev KF (w : World) : Frag := hd.heap_39 w.params

theorem ne2 {n : Nat} (h : 68 < n) : n ≠ 61 ∧ n ≠ 68 := by constructor <;> omega
/-- an object that is no code table and no code record -/
def NP (o : Obj) : Prop := (∀ ps, o ≠ tabObj ps) ∧ ∀ vs q t, o.data = .fields vs → vs[1]? ≠ some (.str q t)

def qualAt (line : Nat) : Str := if line = 55 then "_law_hit.<locals>.<lambda>" else if line = 56 then "_law_hit.<locals>.<lambda>" else if line = 64 then "_law_prog.<locals>.search" else "_law_prog.<locals>.<lambda>"

def TabOk (h : Heap) (P : Addr) : Prop := ∃ ps : Array Value, h.get? P = some (tabObj ps) ∧ TriplesOk ps.toList ∧ ∀ pos cv, codeAmong pos ps.toList = some cv → h.CodeRec cv (qualAt pos.line)
def Td (h : Heap) : Prop := TabOk h 61 ∧ TabOk h 68

def Kp (h h' : Heap) : Prop := ∀ a o, a ≠ 61 → a ≠ 68 → h.get? a = some o → h'.get? a = some o
theorem Kp.refl (h : Heap) : Kp h h := fun _ _ _ _ e => e
theorem Kp.trans {a b c : Heap} (x : Kp a b) (y : Kp b c) : Kp a c := fun p o h1 h2 e => y p o h1 h2 (x p o h1 h2 e)
theorem Kp.of {h h' : Heap} (k : ∀ b o, h.get? b = some o → h'.get? b = some o) : Kp h h' := fun a o _ _ e => k a o e

structure Le (b s : Shared) : Prop where
  gens : s.gens = b.gens
  drawn : s.drawn = b.drawn
  os : s.os = b.os
  kp : Kp b.heap s.heap
theorem Le.refl (s : Shared) : Le s s := ⟨rfl, rfl, rfl, .refl _⟩
theorem Le.trans {a b c : Shared} (x : Le a b) (y : Le b c) : Le a c := ⟨y.gens.trans x.gens, y.drawn.trans x.drawn, y.os.trans x.os, x.kp.trans y.kp⟩
theorem Le.heap {s : Shared} {h' : Heap} {n : Nat} (k : ∀ b o, s.heap.get? b = some o → h'.get? b = some o) : Le s { s with heap := h', toks := n } := ⟨rfl, rfl, rfl, .of k⟩

def Pt (h : Heap) (a : Addr) (o : Obj) : Prop := h.get? a = some o ∧ a ≠ 61 ∧ a ≠ 68
theorem Pt.kp {h h' : Heap} {a : Addr} {o : Obj} (p : Pt h a o) (k : Kp h h') : Pt h' a o := ⟨k a o p.2.1 p.2.2 p.1, p.2⟩

/-- the program's ground: all that the top has made, the two tables hidden -/
structure Gs (w : World) (g : Heap) : Prop where
  K : (KF w).In g
  T : ∃ loose mean mg mb, Top topProg loose mean mg mb g
  C1 : CodeHd g 65 61
  C2 : CodeHd g 72 68
  n1 : g.get? 61 = none
  n2 : g.get? 68 = none

def Kg (g h : Heap) : Prop := ∀ b o, g.get? b = some o → h.get? b = some o
theorem Gs.kg {w : World} {g h h' : Heap} (G : Gs w g) (k : Kg g h) (kp : Kp h h') : Kg g h' := fun b o e =>
  kp b o (fun q => by rw [q, G.n1] at e; cases e) (fun q => by rw [q, G.n2] at e; cases e) (k b o e)

theorem CodeRec_keep {h h' : Heap} {cd : Value} {q : Str} (x : h.CodeRec cd q) (k : ∀ a o, h.get? a = some o → ¬ NP o → h'.get? a = some o) : h'.CodeRec cd q := by
  obtain ⟨c, o, vs, t, e, g, hd, r⟩ := x
  exact ⟨c, o, vs, t, e, k _ _ g (fun np => np.2 vs q t hd r), hd, r⟩
theorem TabOk.keep {h h' : Heap} {P : Addr} (x : TabOk h P) (k : ∀ a o, h.get? a = some o → ¬ NP o → h'.get? a = some o) : TabOk h' P := by
  obtain ⟨ps, e, t, r⟩ := x
  exact ⟨ps, k _ _ e (fun np => np.1 ps rfl), t, fun pos cv hc => CodeRec_keep (r pos cv hc) k⟩
theorem Td.keep {h h' : Heap} (x : Td h) (k : ∀ a o, h.get? a = some o → ¬ NP o → h'.get? a = some o) : Td h' := ⟨x.1.keep k, x.2.keep k⟩
theorem Td.keeps {h h' : Heap} (x : Td h) (k : ∀ a o, h.get? a = some o → h'.get? a = some o) : Td h' := x.keep fun a o e _ => k a o e
theorem Td.lt {h : Heap} (x : Td h) : 68 < h.objs.size := let ⟨_, e, _⟩ := x.2; Heap.lt_size e
theorem Td.ne {h : Heap} (x : Td h) {a : Addr} {o : Obj} (e : h.get? a = some o) (hn : NP o) : a ≠ 61 ∧ a ≠ 68 := by
  obtain ⟨⟨ps, e1, _⟩, ⟨qs, e2, _⟩⟩ := x
  refine ⟨fun q => ?_, fun q => ?_⟩
  · rw [q, e1] at e; cases e; exact hn.1 _ rfl
  · rw [q, e2] at e; cases e; exact hn.1 _ rfl
theorem Td.pt {h : Heap} (x : Td h) {a : Addr} {o : Obj} (e : h.get? a = some o) (hn : NP o) : Pt h a o := ⟨e, x.ne e hn⟩
theorem Td.but {h h' : Heap} (x : Td h) {a : Addr} {o : Obj} (e : h.get? a = some o) (hn : NP o) (k : ∀ b o, b ≠ a → h.get? b = some o → h'.get? b = some o) : Td h' :=
  x.keep fun c o' e' np => k c o' (fun q => by rw [q, e] at e'; cases e'; exact np hn) e'

theorem NP.dict {o : Obj} {es : Array DictEntry} {n : Nat} (h : o.data = .dict es n) : NP o := ⟨fun ps q => (by rw [q] at h; cases h), fun vs q t e => (by rw [h] at e; cases e)⟩
theorem NP.seq {o : Obj} {es : Array Value} {n : Nat} (h : o.data = .seq es n) : NP o := ⟨fun ps q => (by rw [q] at h; cases h), fun vs q t e => (by rw [h] at e; cases e)⟩
theorem NP.func {o : Obj} {f : FuncData} (h : o.data = .func f) : NP o := ⟨fun ps q => (by rw [q] at h; cases h), fun vs q t e => (by rw [h] at e; cases e)⟩
theorem NP.cell {o : Obj} {v : Option Value} (h : o.data = .cell v) : NP o := ⟨fun ps q => (by rw [q] at h; cases h), fun vs q t e => (by rw [h] at e; cases e)⟩
theorem NP.fields {o : Obj} {vs : Array Value} (h : o.data = .fields vs) (hc : o.cls ≠ .none) (hv : ∀ q t, vs[1]? ≠ some (.str q t)) : NP o :=
  ⟨fun ps q => by rw [q] at hc; exact hc rfl, fun vs' q t e => by rw [h] at e; cases e; exact hv q t⟩

/-- the frame at hand: base b, locals at L hold l, the call's own objects fs -/
structure Fm (g : Heap) (b : Shared) (L : Addr) (l : List (Str × Value)) (fs : List (Addr × Obj)) (s : Shared) : Prop where
  le : Le b s
  kg : Kg g s.heap
  td : Td s.heap
  ns : ∃ m, s.heap.Ns L m ∧ ∀ x v, l.lookup x = some v → m x = some v
  nL : b.heap.objs.size ≤ L
  lb : 68 < b.heap.objs.size
  gb : g.objs.size ≤ b.heap.objs.size
  own : ∀ p ∈ fs, Pt s.heap p.1 p.2 ∧ p.1 ≠ L

section
variable {w : World} {g : Heap} {b s s' : Shared} {L : Addr} {l l' : List (Str × Value)} {fs fs' : List (Addr × Obj)}

theorem Fm.Llt (F : Fm g b L l fs s) : L < s.heap.objs.size := let ⟨_, n, _⟩ := F.ns; n.lt
theorem Fm.size (F : Fm g b L l fs s) : b.heap.objs.size ≤ s.heap.objs.size := Nat.le_trans F.nL (Nat.le_of_lt F.Llt)
theorem Fm.pL (F : Fm g b L l fs s) : L ≠ 61 ∧ L ≠ 68 := ne2 (Nat.lt_of_lt_of_le F.lb F.nL)
theorem Fm.call (G : Gs w g) (F : Fm g b L l fs s) (le : Le s s') (td : Td s'.heap) : Fm g b L l fs s' where
  le := F.le.trans le
  kg := G.kg F.kg le.kp
  td := td
  ns := let ⟨m, n, h⟩ := F.ns; ⟨m, n.at' fun o e => le.kp L o F.pL.1 F.pL.2 e, h⟩
  nL := F.nL
  lb := F.lb
  gb := F.gb
  own := fun p hp => ⟨(F.own p hp).1.kp le.kp, (F.own p hp).2⟩
theorem Fm.keep {h' : Heap} {n : Nat} (F : Fm g b L l fs s) (k : ∀ b o, s.heap.get? b = some o → h'.get? b = some o) : Fm g b L l fs { s with heap := h', toks := n } where
  le := F.le.trans (Le.heap k)
  kg := fun b o e => k b o (F.kg b o e)
  td := F.td.keeps k
  ns := let ⟨m, n, h⟩ := F.ns; ⟨m, n.at' fun o e => k L o e, h⟩
  nL := F.nL
  lb := F.lb
  gb := F.gb
  own := fun p hp => ⟨(F.own p hp).1.kp (.of k), (F.own p hp).2⟩
theorem Fm.toks {n : Nat} (F : Fm g b L l fs s) : Fm g b L l fs { s with toks := n } := F.keep (h' := s.heap) fun _ _ e => e
theorem Fm.has (F : Fm g b L l fs s) {a : Addr} {o : Obj} (hp : Pt s.heap a o) (hne : a ≠ L) : Fm g b L l ((a, o) :: fs) s :=
  { F with own := fun p hm => by rcases List.mem_cons.mp hm with rfl | hm; exact ⟨hp, hne⟩; exact F.own p hm }
theorem Fm.sub (F : Fm g b L l fs s) (h : ∀ p ∈ fs', p ∈ fs) : Fm g b L l fs' s := { F with own := fun p hm => F.own p (h p hm) }
theorem Fm.add (F : Fm g b L l fs s) (h : ∀ p ∈ fs', Pt s.heap p.1 p.2 ∧ p.1 ≠ L) : Fm g b L l (fs' ++ fs) s :=
  { F with own := fun p hm => by rcases List.mem_append.mp hm with hm | hm; exact h p hm; exact F.own p hm }
theorem Fm.push (F : Fm g b L l fs s) {o : Obj} {n : Nat} (ho : o.isFreed = false) : Fm g b L l ((s.heap.objs.size, o) :: fs) { s with heap := s.heap.push o, toks := n } :=
  (F.keep fun _ _ e => Heap.get?_push_of_some _ e).has ⟨Heap.get?_push_size _ ho, ne2 (Nat.lt_of_lt_of_le F.lb F.size)⟩
    (Nat.ne_of_gt F.Llt)
/-- every entry of the second stands in the first -/
def Subl (l : List (Str × Value)) : List (Str × Value) → Prop
  | [] => True
  | (k, v) :: r => l.lookup k = some v ∧ Subl l r
theorem Subl.get {l : List (Str × Value)} : ∀ {l' : List (Str × Value)}, Subl l l' → ∀ x v, l'.lookup x = some v → l.lookup x = some v
  | [], _, _, _, e => by cases e
  | (k, u) :: r, ⟨h1, h2⟩, x, v, e => by
    rw [List.lookup_cons] at e
    cases hb : x == k with
    | true => rw [hb] at e; cases e; rw [eq_of_beq hb]; exact h1
    | false => rw [hb] at e; exact h2.get x v e
theorem Fm.weak (F : Fm g b L l fs s) (h : Subl l l') : Fm g b L l' fs s := { F with ns := let ⟨m, n, k⟩ := F.ns; ⟨m, n, fun x v e => k x v (h.get x v e)⟩ }
/-- an own object changes -/
theorem Fm.but {h' : Heap} {n : Nat} {a : Addr} {o : Obj} (F : Fm g b L l fs s) (ha : s.heap.get? a = some o) (hn : NP o) (hnew : b.heap.objs.size ≤ a) (hL : a ≠ L)
    (k : ∀ c o, c ≠ a → s.heap.get? c = some o → h'.get? c = some o) (hf : ∀ p ∈ fs, p.1 ≠ a) : Fm g b L l fs { s with heap := h', toks := n } where
  le := ⟨F.le.gens, F.le.drawn, F.le.os, fun c o' h1 h2 e => k c o' (fun q => absurd (Heap.lt_size e) (by rw [q]; exact Nat.not_lt.mpr hnew)) (F.le.kp c o' h1 h2 e)⟩
  kg := fun c o' e => k c o' (fun q => absurd (Heap.lt_size e) (by rw [q]; exact Nat.not_lt.mpr (Nat.le_trans F.gb hnew))) (F.kg c o' e)
  td := F.td.but ha hn k
  ns := let ⟨m, n, h⟩ := F.ns; ⟨m, n.at' fun o e => k L o (Ne.symm hL) e, h⟩
  nL := F.nL
  lb := F.lb
  gb := F.gb
  own := fun p hp => ⟨⟨k _ _ (hf p hp) (F.own p hp).1.1, (F.own p hp).1.2⟩, (F.own p hp).2⟩
end
end Mine
/- MA -/
namespace Mine
open PyProof.Rows PySem

theorem xor_and_add (a : Nat) : ∀ b : Nat, (a ^^^ b) + 2 * (a &&& b) = a + b := by
  induction a using Nat.strongRecOn with
  | ind a ih =>
    intro b
    by_cases h0 : a = 0
    · subst h0; simp
    have h1 := ih (a / 2) (by omega) (b / 2)
    have h2 : (a ^^^ b) / 2 = a / 2 ^^^ b / 2 := Nat.xor_div_two
    have h3 : (a &&& b) / 2 = a / 2 &&& b / 2 := Nat.and_div_two
    have h4 : (a ^^^ b) % 2 + 2 * ((a &&& b) % 2) = a % 2 + b % 2 := by
      have e1 : (a ^^^ b) % 2 ^ 1 = a % 2 ^ 1 ^^^ b % 2 ^ 1 := Nat.xor_mod_two_pow
      have e2 : (a &&& b) % 2 ^ 1 = a % 2 ^ 1 &&& b % 2 ^ 1 := Nat.and_mod_two_pow
      simp only [Nat.pow_one] at e1 e2
      rw [e1, e2]
      rcases Nat.mod_two_eq_zero_or_one a with p | p <;> rcases Nat.mod_two_eq_zero_or_one b with q | q <;> rw [p, q] <;> decide
    omega

theorem bitXor_nat (a b : Nat) : Builtin.bitXor (a : Int) (b : Int) = ((a ^^^ b : Nat) : Int) := by
  have h := xor_and_add a b
  rw [bitXor_and]
  have e : Builtin.bitAnd (a : Int) (b : Int) = ((a &&& b : Nat) : Int) := by
    unfold Builtin.bitAnd
    simp
  rw [e]; omega

theorem shr_nat (a k : Nat) : ((a : Nat) : Int).fdiv (2 ^ ((k : Nat) : Int).toNat) = ((a / 2 ^ k : Nat) : Int) := by
  rw [Int.toNat_natCast, show (2 : Int) ^ k = ((2 ^ k : Nat) : Int) from by simp, Int.ofNat_fdiv]

/-- one bit of the reckoning -/
def stepC (c : Nat) : Nat := if c % 2 = 1 then (c / 2) ^^^ 3988292384 else c / 2
def stepN : Nat → Nat → Nat
  | 0, c => c
  | n + 1, c => stepC (stepN n c)
def genCrc (c : Nat) : Nat := stepN 8 c
def turn (t o : Nat) : Nat := (t / 256) ^^^ genCrc ((t ^^^ o) % 256)
def crcFrom (t : Nat) (os : List Nat) : Nat := os.foldl turn t
def crc (os : List Nat) : Nat := crcFrom 0 os

theorem stepC_xor (a b : Nat) : stepC (a ^^^ b) = stepC a ^^^ stepC b := by
  unfold stepC
  have e1 : (a ^^^ b) % 2 ^ 1 = a % 2 ^ 1 ^^^ b % 2 ^ 1 := Nat.xor_mod_two_pow
  simp only [Nat.pow_one] at e1
  have h2 : (a ^^^ b) / 2 = a / 2 ^^^ b / 2 := Nat.xor_div_two
  rw [e1, h2]
  rcases Nat.mod_two_eq_zero_or_one a with p | p <;> rcases Nat.mod_two_eq_zero_or_one b with q | q <;> rw [p, q]
  · simp
  · simp [Nat.xor_assoc]
  · simp only [show (1 ^^^ 0 : Nat) = 1 from rfl, if_true, show ¬ (0 : Nat) = 1 from by decide, if_false]; ac_rfl
  · simp only [show (1 ^^^ 1 : Nat) = 0 from rfl, if_true, show ¬ (0 : Nat) = 1 from by decide, if_false]
    rw [show a / 2 ^^^ 3988292384 ^^^ (b / 2 ^^^ 3988292384) = a / 2 ^^^ b / 2 ^^^ (3988292384 ^^^ 3988292384) from by ac_rfl]
    simp
theorem stepN_xor (n a b : Nat) : stepN n (a ^^^ b) = stepN n a ^^^ stepN n b := by
  induction n with
  | zero => rfl
  | succ n ih => rw [stepN, ih, stepC_xor]; rfl
theorem stepN_zero (n : Nat) : stepN n 0 = 0 := by
  induction n with
  | zero => rfl
  | succ n ih => rw [stepN, ih]; rfl
theorem stepN_add (m n c : Nat) : stepN (m + n) c = stepN m (stepN n c) := by
  induction m with
  | zero => simp [stepN]
  | succ m ih => rw [Nat.succ_add, stepN, ih]; rfl
theorem stepN_shift (n a : Nat) : stepN n (a * 2 ^ n) = a := by
  induction n with
  | zero => simp [stepN]
  | succ n ih =>
    rw [stepN_add n 1, show stepN 1 (a * 2 ^ (n + 1)) = a * 2 ^ n from ?_, ih]
    show stepC (a * 2 ^ (n + 1)) = _
    unfold stepC
    have : a * 2 ^ (n + 1) = 2 * (a * 2 ^ n) := by rw [Nat.pow_succ]; ac_rfl
    rw [this]; simp
theorem turn_eq (t o : Nat) (ho : o < 256) : turn t o = stepN 8 (t ^^^ o) := by
  have h : t ^^^ o = ((t / 256) * 2 ^ 8) ^^^ ((t ^^^ o) % 256) := by
    have e1 : (t ^^^ o) / 2 ^ 8 = t / 2 ^ 8 ^^^ o / 2 ^ 8 := by
      have := @Nat.shiftRight_xor_distrib 8 t o
      simpa only [Nat.shiftRight_eq_div_pow] using this
    have e2 : o / 2 ^ 8 = 0 := by rw [Nat.div_eq_of_lt]; simpa using ho
    rw [e2, Nat.xor_zero] at e1
    refine Nat.eq_of_testBit_eq fun i => ?_
    rw [Nat.testBit_xor ((t / 256) * 2 ^ 8), Nat.testBit_mul_two_pow, show (256 : Nat) = 2 ^ 8 from rfl, Nat.testBit_mod_two_pow, ← e1]
    by_cases hi : i < 8
    · simp [hi, Nat.not_le.mpr hi]
    · have : 8 ≤ i := by omega
      rw [Nat.testBit_div_two_pow]
      simp [hi, this, Nat.testBit_xor, show i - 8 + 8 = i from by omega]
  rw [h, stepN_xor, stepN_shift]; rfl
theorem crcFrom_xor (os : List Nat) : ∀ (ps : List Nat) (a b : Nat), os.length = ps.length → (∀ o ∈ os, o < 256) → (∀ o ∈ ps, o < 256) →
    crcFrom (a ^^^ b) (List.zipWith (· ^^^ ·) os ps) = crcFrom a os ^^^ crcFrom b ps := by
  induction os with
  | nil => intro ps a b h _ _; cases ps with
    | nil => rfl
    | cons _ _ => cases h
  | cons o os ih =>
    intro ps a b h h1 h2
    cases ps with
    | nil => cases h
    | cons p ps =>
      have ho := h1 o (.head _)
      have hp := h2 p (.head _)
      have hop : o ^^^ p < 2 ^ 8 := Nat.xor_lt_two_pow (by simpa using ho) (by simpa using hp)
      show crcFrom (turn (a ^^^ b) (o ^^^ p)) (List.zipWith (· ^^^ ·) os ps) = crcFrom (turn a o) os ^^^ crcFrom (turn b p) ps
      rw [turn_eq _ _ (by simpa using hop), turn_eq _ _ ho, turn_eq _ _ hp, show a ^^^ b ^^^ (o ^^^ p) = (a ^^^ o) ^^^ (b ^^^ p) from by ac_rfl, stepN_xor]
      exact ih ps _ _ (Nat.succ.inj h) (fun q hq => h1 q (.tail _ hq)) (fun q hq => h2 q (.tail _ hq))
theorem crc_zeros (n : Nat) : crcFrom 0 (List.replicate n 0) = 0 := by
  induction n with
  | zero => rfl
  | succ n ih => rw [List.replicate_succ]; exact ih
theorem crcFrom_append (t : Nat) (a b : List Nat) : crcFrom t (a ++ b) = crcFrom (crcFrom t a) b := List.foldl_append
/-- the sum rolls on -/
theorem crc_roll (c : Nat) (u : List Nat) (d : Nat) (hc : c < 256) (hu : ∀ o ∈ u, o < 256) (hd : d < 256) :
    turn (crc (c :: u)) d ^^^ crc (c :: List.replicate (u.length + 1) 0) = crc (u ++ [d]) := by
  have e1 : turn (crc (c :: u)) d = crcFrom 0 (c :: (u ++ [d])) := by
    show _ = crcFrom 0 ((c :: u) ++ [d])
    rw [crcFrom_append]; rfl
  have hl : (u ++ [d]).length = (List.replicate (u.length + 1) 0).length := by simp
  have hu' : ∀ o ∈ u ++ [d], o < 256 := fun o ho => by
    rcases List.mem_append.mp ho with h | h
    · exact hu o h
    · rw [List.mem_singleton.mp h]; exact hd
  have hz : ∀ o ∈ List.replicate (u.length + 1) 0, o < 256 := fun o ho => by rw [(List.mem_replicate.mp ho).2]; decide
  have e2 := crcFrom_xor (c :: (u ++ [d])) (c :: List.replicate (u.length + 1) 0) 0 0 (by simp) (fun o ho => by rcases List.mem_cons.mp ho with rfl | h; exact hc; exact hu' o h)
    (fun o ho => by rcases List.mem_cons.mp ho with rfl | h; exact hc; exact hz o h)
  have e3 : List.zipWith (· ^^^ ·) (u ++ [d]) (List.replicate (u.length + 1) 0) = u ++ [d] := by
    have : ∀ l : List Nat, List.zipWith (· ^^^ ·) l (List.replicate l.length 0) = l := by
      intro l
      induction l with
      | nil => rfl
      | cons x l ih => simp [List.replicate_succ, ih]
    have h2 := this (u ++ [d])
    rwa [List.length_append, List.length_singleton] at h2
  rw [e1]
  show crcFrom 0 (c :: (u ++ [d])) ^^^ crcFrom 0 (c :: List.replicate (u.length + 1) 0) = _
  rw [← e2]
  show crcFrom (turn (0 ^^^ 0) (c ^^^ c)) (List.zipWith _ _ _) = _
  rw [e3, Nat.xor_self, Nat.xor_self]
  rfl
end Mine
/- MR -/
namespace Mine
open PyProof.Rows PySem PySem.W

/-- nothing is raised -/
abbrev NoE : Value → Shared → Prop := fun _ _ => False

structure Room (d : Nat) (A : Around) : Prop where
  hh : A.handled = none
  dp : A.depth + d < recursionLimit
  un : A.units + 10 * d < cLine
theorem Room.deeper {d : Nat} {A : Around} {env : Env} (r : Room (d + 1) A) : Room d (A.deeper env) := ⟨r.hh, by have := r.dp; show A.depth + 1 + d < _; omega, by have := r.un; show A.units + 3 + 10 * d < _; omega⟩
theorem Room.mono {d e : Nat} {A : Around} (r : Room d A) (h : e ≤ d) : Room e A := ⟨r.hh, by have := r.dp; omega, by have := r.un; omega⟩
theorem Room.in1 {d : Nat} {A : Around} (r : Room (d + 1) A) : Room d A.in1 := ⟨r.hh, by have := r.dp; show A.depth + d < _; omega, by have := r.un; show A.units + 1 + 10 * d < _; omega⟩

noncomputable def fdAt (w : World) (a : Addr) : FuncData := match (KF w).lookup a with
  | some ⟨_, _, .func fd, _⟩ => fd
  | _ => default
noncomputable def bdAt (w : World) (a : Addr) : List Stmt := match (fdAt w a).body with
  | .stmts b => b
  | _ => []

section
variable {prog : Program} {w : World} {g : Heap} {A : Around} {b s : Shared} {L : Addr} {l : List (Str × Value)} {fs : List (Addr × Obj)} {env : Env}

theorem Gs.nolimit {h : Heap} (G : Gs w g) (k : Kg g h) : h.NoLimit := let ⟨_, _, _, _, T⟩ := G.T; T.nolimit.keeps k

theorem enter (G : Gs w g) (kg : Kg g s.heap) (td : Td s.heap) (gb : g.objs.size ≤ s.heap.objs.size) {d : Nat} (r : Room (d + 1) A) {a : Addr} {oc : Value} {od : Option Addr} {osl : Array (Option Value)} {fd : FuncData} {body : List Stmt} {args : List Value} {binds : List (Str × Value)} {Q : Value → Shared → Prop}
    (ho : (KF w).lookup a = some ⟨oc, od, .func fd, osl⟩) (hcd : codeIn (KF w) fd.code fd.qualname = true) (hbody : fd.body = .stmts body) (hbind : bindArgs fd ⟨args, []⟩ = pure binds)
    (hcell : (fd.scope.names.all fun x => x.2 != .cell) = true) (hloc : (binds.all fun x => decide (fd.scope.names.lookup x.1 = some .local)) = true)
    (h : ∀ L s', Fm g s L binds.reverse [] s' → Room d (A.deeper (callEnv fd L a)) → wpAny (model prog w) (A.deeper (callEnv fd L a)) (execs body (callEnv fd L a)) (fun f s'' => Q (match f with | .ret v => v | _ => .none) s'') NoE s')
    (hco : fd.scope.isCoroutine = false) (hgen : fd.scope.isGenerator = false) (hk : fd.scope.kind = .function) :
    wpAny (model prog w) A (call (.ref a) args) Q NoE s := by
  have X := G.K.keeps kg
  refine wpAny_call (codeAny_call_def (fd := fd) (body := body) (binds := binds) (by have := r.dp; omega) (X _ _ ho) rfl (G.nolimit kg) (codeRec_of X hcd) hbody (BindsTo.of_eq hbind) (fun x hx => by simpa using List.all_eq_true.mp hcell x hx) (locs hloc) (fun h₀ hn hk₀ => ?_) hco hgen hk)
  refine wpAny_mono (h s.heap.objs.size _ ⟨Le.heap hk₀, fun b o e => hk₀ b o (kg b o e), td.keeps hk₀, ⟨_, hn, fun _ _ e => e⟩, Nat.le_refl _, td.lt, gb, fun p hp => nomatch hp⟩ r.deeper) (fun f s' q => q) fun _ _ e => e.elim

theorem ldL {x : Str} {pos : Pos} {v : Value} {Q : Value → Shared → Prop} {E : Value → Shared → Prop} (F : Fm g b env.locals l fs s) (hk : env.scope.kind = .function) (hl : env.kindOf x = some .local) (hv : l.lookup x = some v) (h : Q v s)
    (hd : (x == ("__debug__" : Str)) = false) : wpAny (model prog w) A (eval (.Name x pos) env) Q E s :=
  let ⟨_, n, k⟩ := F.ns; wpAny_Name (wpAny_loadName_local hk hl n (k _ _ hv) h) hd
theorem ldLn {x : Str} {v : Value} {Q : Value → Shared → Prop} {E : Value → Shared → Prop} (F : Fm g b env.locals l fs s) (hk : env.scope.kind = .function) (hl : env.kindOf x = some .local) (hv : l.lookup x = some v) (h : Q v s) :
    wpAny (model prog w) A (loadName env x) Q E s := let ⟨_, n, k⟩ := F.ns; wpAny_loadName_local hk hl n (k _ _ hv) h

theorem lookup_cons_fun (l : List (Str × Value)) (x : Str) (v : Value) {y : Str} : (if y = x then some v else l.lookup y) = ((x, v) :: l).lookup y := by
  rw [List.lookup_cons]
  by_cases h : y = x
  · subst h; simp
  · rw [if_neg h, (beq_eq_false_iff_ne.mpr h : (y == x) = false)]
theorem Fm.set {h' : Heap} {n : Nat} {x : Str} {v : Value} {m : Str → Option Value} (F : Fm g b L l fs s) (hm : ∀ x v, l.lookup x = some v → m x = some v) (hn : h'.Ns L (fun y => if y = x then some v else m y)) (hs : Heap.SameBut L s.heap h') :
    Fm g b L ((x, v) :: l) fs { s with heap := h', toks := n } := by
  obtain ⟨_, ⟨o, es, ep, ho, hd, _⟩, _⟩ := F.ns
  have k : ∀ c o, c ≠ L → s.heap.get? c = some o → h'.get? c = some o := fun c o hc e => (hs.2 c hc).trans e
  exact {
    le := ⟨F.le.gens, F.le.drawn, F.le.os, fun c o' h1 h2 e => k c o' (fun q => absurd (Heap.lt_size e) (by rw [q]; exact Nat.not_lt.mpr F.nL)) (F.le.kp c o' h1 h2 e)⟩
    kg := fun c o' e => k c o' (fun q => absurd (Heap.lt_size e) (by rw [q]; exact Nat.not_lt.mpr (Nat.le_trans F.gb F.nL))) (F.kg c o' e)
    td := F.td.but ho (NP.dict hd) k
    ns := ⟨_, hn, fun y u e => by
      rw [← lookup_cons_fun l x v] at e
      by_cases h : y = x
      · rw [if_pos h] at e ⊢; exact e
      · rw [if_neg h] at e ⊢; exact hm y u e⟩
    nL := F.nL
    lb := F.lb
    gb := F.gb
    own := fun p hp => ⟨⟨k _ _ (F.own p hp).2 (F.own p hp).1.1, (F.own p hp).1.2⟩, (F.own p hp).2⟩ }

theorem stL {x : Str} {v : Value} {Q : Unit → Shared → Prop} {E : Value → Shared → Prop} (F : Fm g b env.locals l fs s) (hk : env.scope.kind = .function) (hl : env.kindOf x = some .local)
    (h : ∀ s', Fm g b env.locals ((x, v) :: l) fs s' → Q () s') : wpAny (model prog w) A (storeName env x v) Q E s :=
  let ⟨_, n, k⟩ := F.ns; wpAny_storeName_local hl n (fun h' hn hs => h _ (F.set k hn hs)) (by rw [hk]; rfl)

theorem Gs.ldG {h : Heap} {x : Str} {v : Value} (G : Gs w g) (k : Kg g h) (hn : nsIn (KF w) mainGlobals x = some (some v)) : ∃ mg, h.Ns mainGlobals mg ∧ mg x = some v := by
  obtain ⟨_, _, mg, mb, T⟩ := G.T
  exact ⟨mg, T.g.keeps k, mg_of G.K T.g hn⟩
theorem Gs.ldB {h : Heap} {x : Str} {v : Value} (G : Gs w g) (k : Kg g h) (hn : nsIn (KF w) mainGlobals x = some none) (hv : bootBuiltins x = some v) (hx : x ≠ "__name__") :
    ∃ mg mb, h.Ns mainGlobals mg ∧ mg x = none ∧ h.Ns builtinsNs mb ∧ mb x = some v := by
  obtain ⟨_, _, mg, mb, T⟩ := G.T
  exact ⟨mg, mb, T.g.keeps k, mg_none_of G.K T.g hn, T.b.keeps k, (T.builtins x hx).trans hv⟩
theorem ldG {x : Str} {pos : Pos} {v : Value} {Q : Value → Shared → Prop} {E : Value → Shared → Prop} (G : Gs w g) (k : Kg g s.heap) (hk : env.scope.kind = .function) (hl : env.kindOf x = some .globalImplicit) (hgl : env.globals = mainGlobals)
    (hn : nsIn (KF w) mainGlobals x = some (some v)) (h : Q v s) (hd : (x == ("__debug__" : Str)) = false) : wpAny (model prog w) A (eval (.Name x pos) env) Q E s := by
  obtain ⟨mg, h1, h2⟩ := G.ldG k hn
  exact Calls.Name_function_global hk hl (Calls.loadGlobal_global (hgl ▸ h1) h2 h) hd
theorem ldB {x : Str} {pos : Pos} {v : Value} {Q : Value → Shared → Prop} {E : Value → Shared → Prop} (G : Gs w g) (k : Kg g s.heap) (hk : env.scope.kind = .function) (hl : env.kindOf x = some .globalImplicit) (hgl : env.globals = mainGlobals) (hbl : env.builtins = builtinsNs)
    (hn : nsIn (KF w) mainGlobals x = some none) (hv : bootBuiltins x = some v) (h : Q v s) (hx : x ≠ "__name__") (hd : (x == ("__debug__" : Str)) = false) : wpAny (model prog w) A (eval (.Name x pos) env) Q E s := by
  obtain ⟨mg, mb, h1, h2, h3, h4⟩ := G.ldB k hn hv hx
  exact Calls.Name_function_global hk hl (Calls.loadGlobal_builtin (hgl ▸ h1) h2 (hbl ▸ h3) h4 h) hd
end
end Mine
/- MF -/
namespace Mine
open PyProof.Rows PySem PySem.W
section
variable {prog : Program} {w : World} {g : Heap} {A : Around} {b s : Shared} {l : List (Str × Value)} {fs : List (Addr × Obj)} {env : Env}

/-- what a plain function's env is -/
structure PlainEnv (env : Env) (L : Addr) : Prop where
  k : env.scope.kind = .function
  g : env.globals = mainGlobals
  b : env.builtins = builtinsNs
  l : env.locals = L

theorem Fm.addR {fs' : List (Addr × Obj)} {L : Addr} (F : Fm g b L l fs s) (h : ∀ p ∈ fs', Pt s.heap p.1 p.2 ∧ p.1 ≠ L) : Fm g b L l (fs ++ fs') s :=
  { F with own := fun p hm => by rcases List.mem_append.mp hm with hm | hm; exact F.own p hm; exact h p hm }

theorem forW {I : Addr} {fp : List Addr} {n : Nat} {P : Nat → Value → Prop} {St : Nat → Heap → Prop} {x : Str} {px : Pos} {body : List Stmt} {Q : Flow → Shared → Prop}
    (W : Walks prog w A I fp [I] n P St) (hnp : ∀ i h, St i h → ∃ o, h.get? I = some o ∧ NP o) (hfp : ∀ y ∈ fp, (y ≠ 61 ∧ y ≠ 68) ∧ y ≠ env.locals) (hIf : I ∈ fp)
    (J : Nat → List (Str × Value) → List (Addr × Obj) → Prop) (hJI : ∀ i l fs, J i l fs → ∀ p ∈ fs, p.1 ≠ I)
    (F : Fm g b env.locals l fs s) (hst : St 0 s.heap) (hI : b.heap.objs.size ≤ I) (hJ0 : J 0 l fs)
    (hk : env.scope.kind = .function) (hx : env.kindOf x = some .local)
    (turn : ∀ i v l₁ fs₁ itr s₁, i < n → P i v → J i l₁ fs₁ → (∀ p ∈ itr, p.1 ∈ fp) → Fm g b env.locals ((x, v) :: l₁) (fs₁ ++ itr) s₁ →
      wpAny (model prog w) A (execs body env) (fun f s₂ => match f with
        | .next | .cont => ∃ l₂ fs₂, J (i + 1) l₂ fs₂ ∧ Fm g b env.locals l₂ (fs₂ ++ itr) s₂
        | .brk => Q .next s₂
        | .ret v => Q (.ret v) s₂) NoE s₁)
    (done : ∀ l₁ fs₁ s₁, J n l₁ fs₁ → Fm g b env.locals l₁ fs₁ s₁ → Q .next s₁) :
    codeAny (model prog w) A (.forLoop (.Name x px) (.ref I) body [] env) (fun r s' => match r with | .ok f => Q f s' | .error e => cameBackBy (model prog w) A env NoE e s') s := by
  refine codeAny_forLoop_any (fun k s₁ => ∃ i l₁ fs₁, i ≤ n ∧ k = n + 1 - i ∧ J i l₁ fs₁ ∧ St i s₁.heap ∧ Fm g b env.locals l₁ fs₁ s₁) ?_ (n + 1) ⟨0, l, fs, Nat.zero_le _, rfl, hJ0, hst, F⟩
  rintro k s₁ ⟨i, l₁, fs₁, hi, rfl, hJ, hS, F₁⟩
  obtain ⟨oI, hoI, npI⟩ := hnp i _ hS
  have hIL := (hfp I hIf).2
  by_cases hlt : i < n
  · refine W.item i s₁ _ _ hlt hS fun v h' tk hP hS' hk' => ?_
    have F₂ : Fm g b env.locals l₁ fs₁ { s₁ with heap := h', toks := tk } := F₁.but hoI npI hI hIL (fun c o hc e => hk' c o (fun hm => hc (List.mem_singleton.mp hm)) e) (hJI _ _ _ hJ)
    show wpAny _ A (letOwnedTupleGo (.Name x px) (.ref I) v) _ _ _
    refine wpAny_pure ?_
    let itr : List (Addr × Obj) := fp.filterMap fun y => (h'.get? y).map fun o => (y, o)
    have hm : ∀ y o, (y, o) ∈ itr ↔ (y ∈ fp ∧ h'.get? y = some o) := fun y o => by
      simp only [itr, List.mem_filterMap, Option.map_eq_some_iff]
      constructor
      · rintro ⟨z, hz, o', e, q⟩; cases q; exact ⟨hz, e⟩
      · rintro ⟨hz, e⟩; exact ⟨y, hz, o, e, rfl⟩
    have F₃ : Fm g b env.locals l₁ (fs₁ ++ itr) { s₁ with heap := h', toks := tk } := F₂.addR fun p hp => by
      obtain ⟨h1, h2⟩ := (hm p.1 p.2).mp hp
      exact ⟨⟨h2, (hfp _ h1).1⟩, (hfp _ h1).2⟩
    refine wpAny_assign_Name (stL F₃ hk hx fun s₃ F₄ => ?_)
    refine wpAny_mono (turn i v l₁ fs₁ itr s₃ hlt hP hJ (fun p hp => ((hm p.1 p.2).mp hp).1) F₄) (fun f s₄ q => ?_) fun _ _ e => e.elim
    have fin : (∃ l₂ fs₂, J (i + 1) l₂ fs₂ ∧ Fm g b env.locals l₂ (fs₂ ++ itr) s₄) → ∃ m, m < n + 1 - i ∧ ∃ i' l₁ fs₁, i' ≤ n ∧ m = n + 1 - i' ∧ J i' l₁ fs₁ ∧ St i' s₄.heap ∧ Fm g b env.locals l₁ fs₁ s₄ := by
      rintro ⟨l₂, fs₂, hJ₂, F₅⟩
      refine ⟨n + 1 - (i + 1), by omega, i + 1, l₂, fs₂, hlt, rfl, hJ₂, ?_, F₅.sub fun p hp => List.mem_append_left _ hp⟩
      exact W.frame _ _ _ hS' fun y hy o e => (F₅.own (y, o) (List.mem_append_right _ ((hm y o).mpr ⟨hy, e⟩))).1.1
    cases f with
    | next => exact fin q
    | cont => exact fin q
    | brk => exact q
    | ret v => exact q
  · have hin : i = n := by omega
    subst hin
    refine W.done s₁ _ _ hS fun h' tk hk' => ?_
    exact wpAny_execs_nil (done l₁ fs₁ _ hJ (F₁.but hoI npI hI hIL (fun c o hc e => hk' c o (fun hm => hc (List.mem_singleton.mp hm)) e) (hJI _ _ _ hJ)))

/-- what an iterator hands on -/
def ItQ (prog : Program) (w : World) (g : Heap) (b : Shared) (L : Addr) (l : List (Str × Value)) (fs : List (Addr × Obj)) (ex : List Addr) (n : Nat) (P : Nat → Value → Prop) (Q : Value → Shared → Prop) : Prop :=
  ∀ I fp St s', (∀ y ∈ fp, y = I ∨ y ∈ ex) → (∀ A' : Around, A'.handled = none → Walks prog w A' I fp [I] n P St) → (∀ i h, St i h → ∃ o, h.get? I = some o ∧ NP o) → (∀ y ∈ fp, (y ≠ 61 ∧ y ≠ 68) ∧ y ≠ L) → I ∈ fp →
    b.heap.objs.size ≤ I → (∀ p ∈ fs, p.1 ≠ I) → (∀ y ∈ fp, y < s'.heap.objs.size) → St 0 s'.heap → Fm g b L l fs s' → Q (.ref I) s'

theorem Fm.ptOf {L : Addr} (F : Fm g b L l fs s) {a : Addr} {o : Obj} (hm : (a, o) ∈ fs) : Pt s.heap a o ∧ a ≠ L := F.own (a, o) hm
theorem Fm.newNe {L : Addr} (F : Fm g b L l fs s) : ∀ p ∈ fs, p.1 ≠ s.heap.objs.size := fun p hp => Nat.ne_of_lt (Heap.lt_size (F.own p hp).1.1)
theorem Fm.newPt {L : Addr} (F : Fm g b L l fs s) : ((s.heap.objs.size ≠ 61 ∧ s.heap.objs.size ≠ 68) ∧ s.heap.objs.size ≠ L) := ⟨ne2 (Nat.lt_of_lt_of_le F.lb F.size), Nat.ne_of_gt F.Llt⟩
theorem Fm.pushQ {L : Addr} (F : Fm g b L l fs s) {o : Obj} {n : Nat} : Fm g b L l fs { s with heap := s.heap.push o, toks := n } := F.keep fun _ _ e => Heap.get?_push_of_some _ e

theorem iterList {L : Addr} {a : Addr} {items : Array Value} {Q : Value → Shared → Prop} (F : Fm g b L l fs s) (hl : s.heap.IsList a items) (ha : (a ≠ 61 ∧ a ≠ 68) ∧ a ≠ L)
    (h : ItQ prog w g b L l fs [a] items.size (fun i v => items[i]? = some v) Q) : wpAny (model prog w) A (pyIter (.ref a)) Q NoE s := by
  obtain ⟨ol, hol, hlr⟩ := id hl
  have hne : a ≠ s.heap.objs.size := Nat.ne_of_lt (Heap.lt_size hol)
  refine wpAny_pyIter_list hl (h _ _ _ _ (fun y hy => (List.mem_cons.mp hy).imp id id) (fun A' hA => Walks.list hA s.heap.objs.size a hne items) (fun i h' st => ?_) (fun y hy => ?_) (.head _) F.size F.newNe (fun y hy => ?_) ⟨⟨_, Heap.get?_push_size _ rfl, rfl, rfl⟩, hl.at fun o e => Heap.get?_push_of_some _ e⟩ F.pushQ)
  · obtain ⟨⟨o, ho, hc, hd⟩, _⟩ := st
    exact ⟨o, ho, NP.fields hd (by rw [hc]; nofun) (by intro q t; simp)⟩
  · rcases List.mem_cons.mp hy with rfl | hy
    · exact F.newPt
    · rw [List.mem_singleton.mp hy]; exact ha
  · rw [show ({ s with heap := s.heap.push { cls := .type "list_iterator", data := .fields #[.ref a, .int 0 0] } } : Shared).heap.objs.size = s.heap.objs.size + 1 from Heap.size_push ..]
    rcases List.mem_cons.mp hy with rfl | hy
    · exact Nat.lt_succ_self _
    · rw [List.mem_singleton.mp hy]; exact Nat.lt_succ_of_lt (Heap.lt_size hol)
theorem iterStr {L : Addr} {x : Str} {t : Tok} {Q : Value → Shared → Prop} (F : Fm g b L l fs s)
    (h : ItQ prog w g b L l fs [] x.cps.size (SignAt x) Q) : wpAny (model prog w) A (pyIter (.str x t)) Q NoE s := by
  have np : ∀ (T : String) (i : Nat) (h' : Heap), h'.IsStrIter s.heap.objs.size T x t i → ∃ o, h'.get? s.heap.objs.size = some o ∧ NP o := fun T i h' st => by
    obtain ⟨o, ho, hc, hd⟩ := st
    exact ⟨o, ho, NP.fields hd (by rw [hc]; nofun) (by intro q t; simp)⟩
  have hfp : ∀ y ∈ [s.heap.objs.size], (y ≠ 61 ∧ y ≠ 68) ∧ y ≠ L := fun y hy => by rw [List.mem_singleton.mp hy]; exact F.newPt
  have hlt : ∀ o, ∀ y ∈ [s.heap.objs.size], y < (s.heap.push o).objs.size := fun o y hy => by rw [List.mem_singleton.mp hy, Heap.size_push]; exact Nat.lt_succ_self _
  cases ha : x.cps.all (· < 128)
  · exact wpAny_pyIter_wide ha (h _ _ _ _ (fun y hy => .inl (List.mem_singleton.mp hy)) (fun A' hA => Walks.strWide hA _ x t) (np _) hfp (.head _) F.size F.newNe (hlt _) ⟨_, Heap.get?_push_size _ rfl, rfl, rfl⟩ F.pushQ)
  · exact wpAny_pyIter_ascii ha (h _ _ _ _ (fun y hy => .inl (List.mem_singleton.mp hy)) (fun A' hA => Walks.strAscii hA _ x t) (np _) hfp (.head _) F.size F.newNe (hlt _) ⟨_, Heap.get?_push_size _ rfl, rfl, rfl⟩ F.pushQ)
theorem iterRange {L : Addr} {r : Addr} {a e c : Int} {t u v : Tok} {n : Nat} {Q : Value → Shared → Prop} (F : Fm g b L l fs s) (hr : IsRange s.heap r a e c t u v) (hs : Builtin.Range.small a e c = true) (hn : Builtin.Range.rangeSize a e c = n)
    (h : ItQ prog w g b L l fs [] n (fun i v => ∃ t, v = .int (a + i * c) t) Q) : wpAny (model prog w) A (pyIter (.ref r)) Q NoE s := by
  refine wpAny_pyIter_range hr hs (h _ _ _ _ (fun y hy => .inl (List.mem_singleton.mp hy)) (fun A' hA => Walks.range hA s.heap.objs.size a c n) (fun i h' st => ⟨_, st, NP.fields rfl nofun (by intro q t; simp [rawInt])⟩) (fun y hy => by rw [List.mem_singleton.mp hy]; exact F.newPt) (.head _) F.size F.newNe (fun y hy => by rw [List.mem_singleton.mp hy]; show _ < (s.heap.push _).objs.size; rw [Heap.size_push]; exact Nat.lt_succ_self _) ?_ F.pushQ)
  have e1 : (a + ((0 : Nat) : Int) * c) = a := by simp
  have e2 : ((n : Int) - ((0 : Nat) : Int)) = Builtin.Range.rangeSize a e c := by rw [hn]; simp
  rw [e1, e2]
  exact Heap.get?_push_size _ rfl

theorem small_ok {a e c : Int} (ha : -(2 ^ 40) ≤ a) (ha' : a ≤ 2 ^ 40) (he : -(2 ^ 40) ≤ e) (he' : e ≤ 2 ^ 40) (hc : c = 1 ∨ c = -1) : Builtin.Range.small a e c = true := by
  unfold Builtin.Range.small Builtin.Range.rangeSize
  rcases hc with rfl | rfl
  · simp only [Builtin.Range.rangeFitsLong, Bool.and_eq_true, Bool.or_eq_true, decide_eq_true_eq, beq_iff_eq, show (1 : Int) > 0 by decide, if_true]
    split <;> omega
  · simp only [Builtin.Range.rangeFitsLong, Bool.and_eq_true, Bool.or_eq_true, decide_eq_true_eq, beq_iff_eq, show ¬ (-1 : Int) > 0 by decide, if_false, Int.neg_neg]
    split <;> omega
theorem iterRange0 {L : Addr} {r : Addr} {n : Nat} {t u v : Tok} {Q : Value → Shared → Prop} (F : Fm g b L l fs s) (hr : IsRange s.heap r 0 n 1 t u v) (hn : n ≤ 2 ^ 40)
    (h : ItQ prog w g b L l fs [] n (fun i v => ∃ t, v = .int i t) Q) : wpAny (model prog w) A (pyIter (.ref r)) Q NoE s := by
  refine iterRange (n := n) F hr (small_ok (by decide) (by decide) (by omega) (by omega) (.inl rfl)) ?_ ?_
  · rw [rangeSize_one]; split <;> omega
  · have e : (fun (i : Nat) (v : Value) => ∃ t, v = .int (0 + i * 1) t) = fun (i : Nat) (v : Value) => ∃ t, v = .int i t := by
      funext i v; simp
    rw [e]; exact h

theorem forIt {n : Nat} {P : Nat → Value → Prop} {x : Str} {px : Pos} {body : List Stmt} {Q : Flow → Shared → Prop} {L : Addr} {ex : List Addr} (hh : A.handled = none)
    (J : Nat → List (Str × Value) → List (Addr × Obj) → Prop) (hJI : ∀ i l₁ fs₁, J i l₁ fs₁ → ∀ p ∈ fs₁, ∃ q ∈ fs, q.1 = p.1) (hJ0 : J 0 l fs)
    (pe : PlainEnv env L) (hx : env.kindOf x = some .local)
    (turn : ∀ i v l₁ fs₁ itr s₁, i < n → P i v → J i l₁ fs₁ → (∀ p ∈ itr, p.1 ∈ ex ∨ ∀ q ∈ fs, q.1 ≠ p.1) → Fm g b L ((x, v) :: l₁) (fs₁ ++ itr) s₁ →
      wpAny (model prog w) A (execs body env) (fun f s₂ => match f with
        | .next | .cont => ∃ l₂ fs₂, J (i + 1) l₂ fs₂ ∧ Fm g b L l₂ (fs₂ ++ itr) s₂
        | .brk => Q .next s₂
        | .ret v => Q (.ret v) s₂) NoE s₁)
    (done : ∀ l₁ fs₁ s₁, J n l₁ fs₁ → Fm g b L l₁ fs₁ s₁ → Q .next s₁) :
    ItQ prog w g b L l fs ex n P (fun it s' => codeAny (model prog w) A (.forLoop (.Name x px) it body [] env) (fun r s' => match r with | .ok f => Q f s' | .error e => cameBackBy (model prog w) A env NoE e s') s') := by
  have e := pe.l
  subst e
  intro I fp St s' hex W hnp hfp hIf hI hfs _ hst F
  exact forW (W A hh) hnp hfp hIf J (fun i l₁ fs₁ hJ p hp => by obtain ⟨q, hq, e⟩ := hJI i l₁ fs₁ hJ p hp; rw [← e]; exact hfs q hq) F hst hI hJ0 pe.k hx
    (fun i v l₁ fs₁ itr s₁ hi hP hJ hitr F₁ => turn i v l₁ fs₁ itr s₁ hi hP hJ (fun p hp => (hex _ (hitr p hp)).elim (fun e => .inr (by rw [e]; exact hfs)) .inl) F₁) done

/-- a loop that changes locals alone -/
theorem forL {n : Nat} {P : Nat → Value → Prop} {x : Str} {px : Pos} {body : List Stmt} {Q : Flow → Shared → Prop} {L : Addr} {ex : List Addr} (hh : A.handled = none)
    (J : Nat → List (Str × Value) → Prop) (hJ0 : J 0 l) (pe : PlainEnv env L) (hx : env.kindOf x = some .local)
    (turn : ∀ i v l₁ fs₁ s₁, i < n → P i v → J i l₁ → (∀ p ∈ fs, p ∈ fs₁) → Fm g b L ((x, v) :: l₁) fs₁ s₁ →
      wpAny (model prog w) A (execs body env) (fun f s₂ => match f with
        | .next | .cont => ∃ l₂, J (i + 1) l₂ ∧ Fm g b L l₂ fs₁ s₂
        | .brk => Q .next s₂
        | .ret v => Q (.ret v) s₂) NoE s₁)
    (done : ∀ l₁ s₁, J n l₁ → Fm g b L l₁ fs s₁ → Q .next s₁) :
    ItQ prog w g b L l fs ex n P (fun it s' => codeAny (model prog w) A (.forLoop (.Name x px) it body [] env) (fun r s' => match r with | .ok f => Q f s' | .error e => cameBackBy (model prog w) A env NoE e s') s') :=
  forIt hh (fun i l₁ fs₁ => fs₁ = fs ∧ J i l₁) (fun _ _ _ h p hp => by rw [h.1] at hp; exact ⟨p, hp, rfl⟩) ⟨rfl, hJ0⟩ pe hx
    (fun i v l₁ fs₁ itr s₁ hi hP hJ _ F₁ => by
      obtain ⟨rfl, hJ⟩ := hJ
      refine wpAny_mono (turn i v l₁ _ s₁ hi hP hJ (fun p hp => List.mem_append_left _ hp) F₁) (fun f s₂ q => ?_) fun _ _ e => e
      cases f with
      | next => obtain ⟨l₂, h1, h2⟩ := q; exact ⟨l₂, _, ⟨rfl, h1⟩, h2⟩
      | cont => obtain ⟨l₂, h1, h2⟩ := q; exact ⟨l₂, _, ⟨rfl, h1⟩, h2⟩
      | brk => exact q
      | ret v => exact q)
    (fun l₁ fs₁ s₁ h F => by obtain ⟨rfl, h⟩ := h; exact done l₁ s₁ h F)
end
end Mine
/- MB -/
namespace Mine
open PyProof.Rows PySem PySem.W
section
variable {prog : Program} {w : World} {g : Heap} {A : Around} {b s : Shared} {l : List (Str × Value)} {fs : List (Addr × Obj)} {env : Env} {L : Addr} {pos : Pos} {Q : Value → Shared → Prop} {E : Value → Shared → Prop}

theorem b_range (G : Gs w g) (F : Fm g b L l fs s) (pe : PlainEnv env L) (hl : env.kindOf "range" = some .globalImplicit) (h : Q (.type "range") s) : wpAny (model prog w) A (eval (.Name (Str.ofString "range") pos) env) Q E s :=
  ldB G F.kg pe.k hl pe.g pe.b (by kernel_rfl) (by kernel_rfl) h (by decide) (by decide)
theorem b_len (G : Gs w g) (F : Fm g b L l fs s) (pe : PlainEnv env L) (hl : env.kindOf "len" = some .globalImplicit) (h : Q (.builtin "len") s) : wpAny (model prog w) A (eval (.Name (Str.ofString "len") pos) env) Q E s :=
  ldB G F.kg pe.k hl pe.g pe.b (by kernel_rfl) (by kernel_rfl) h (by decide) (by decide)
theorem b_ord (G : Gs w g) (F : Fm g b L l fs s) (pe : PlainEnv env L) (hl : env.kindOf "ord" = some .globalImplicit) (h : Q (.builtin "ord") s) : wpAny (model prog w) A (eval (.Name (Str.ofString "ord") pos) env) Q E s :=
  ldB G F.kg pe.k hl pe.g pe.b (by kernel_rfl) (by kernel_rfl) h (by decide) (by decide)
theorem b_chr (G : Gs w g) (F : Fm g b L l fs s) (pe : PlainEnv env L) (hl : env.kindOf "chr" = some .globalImplicit) (h : Q (.builtin "chr") s) : wpAny (model prog w) A (eval (.Name (Str.ofString "chr") pos) env) Q E s :=
  ldB G F.kg pe.k hl pe.g pe.b (by kernel_rfl) (by kernel_rfl) h (by decide) (by decide)
theorem b_sum (G : Gs w g) (F : Fm g b L l fs s) (pe : PlainEnv env L) (hl : env.kindOf "sum" = some .globalImplicit) (h : Q (.builtin "sum") s) : wpAny (model prog w) A (eval (.Name (Str.ofString "sum") pos) env) Q E s :=
  ldB G F.kg pe.k hl pe.g pe.b (by kernel_rfl) (by kernel_rfl) h (by decide) (by decide)
theorem b_abs (G : Gs w g) (F : Fm g b L l fs s) (pe : PlainEnv env L) (hl : env.kindOf "abs" = some .globalImplicit) (h : Q (.builtin "abs") s) : wpAny (model prog w) A (eval (.Name (Str.ofString "abs") pos) env) Q E s :=
  ldB G F.kg pe.k hl pe.g pe.b (by kernel_rfl) (by kernel_rfl) h (by decide) (by decide)
theorem b_map (G : Gs w g) (F : Fm g b L l fs s) (pe : PlainEnv env L) (hl : env.kindOf "map" = some .globalImplicit) (h : Q (.type "map") s) : wpAny (model prog w) A (eval (.Name (Str.ofString "map") pos) env) Q E s :=
  ldB G F.kg pe.k hl pe.g pe.b (by kernel_rfl) (by kernel_rfl) h (by decide) (by decide)
theorem b_int (G : Gs w g) (F : Fm g b L l fs s) (pe : PlainEnv env L) (hl : env.kindOf "int" = some .globalImplicit) (h : Q (.type "int") s) : wpAny (model prog w) A (eval (.Name (Str.ofString "int") pos) env) Q E s :=
  ldB G F.kg pe.k hl pe.g pe.b (by kernel_rfl) (by kernel_rfl) h (by decide) (by decide)
theorem b_list (G : Gs w g) (F : Fm g b L l fs s) (pe : PlainEnv env L) (hl : env.kindOf "list" = some .globalImplicit) (h : Q (.type "list") s) : wpAny (model prog w) A (eval (.Name (Str.ofString "list") pos) env) Q E s :=
  ldB G F.kg pe.k hl pe.g pe.b (by kernel_rfl) (by kernel_rfl) h (by decide) (by decide)

theorem g_search_reverse (G : Gs w g) (F : Fm g b L l fs s) (pe : PlainEnv env L) (hl : env.kindOf "search_reverse" = some .globalImplicit) (h : Q (.ref 21) s) : wpAny (model prog w) A (eval (.Name (Str.ofString "search_reverse") pos) env) Q E s :=
  ldG G F.kg pe.k hl pe.g (by kernel_rfl) h (by decide)
theorem g_get_line_col (G : Gs w g) (F : Fm g b L l fs s) (pe : PlainEnv env L) (hl : env.kindOf "get_line_col" = some .globalImplicit) (h : Q (.ref 28) s) : wpAny (model prog w) A (eval (.Name (Str.ofString "get_line_col") pos) env) Q E s :=
  ldG G F.kg pe.k hl pe.g (by kernel_rfl) h (by decide)
theorem g_gen (G : Gs w g) (F : Fm g b L l fs s) (pe : PlainEnv env L) (hl : env.kindOf "_gen_crc" = some .globalImplicit) (h : Q (.ref 35) s) : wpAny (model prog w) A (eval (.Name (Str.ofString "_gen_crc") pos) env) Q E s :=
  ldG G F.kg pe.k hl pe.g (by kernel_rfl) h (by decide)
theorem g_page (G : Gs w g) (F : Fm g b L l fs s) (pe : PlainEnv env L) (hl : env.kindOf "_law_page" = some .globalImplicit) (h : Q (.ref 42) s) : wpAny (model prog w) A (eval (.Name (Str.ofString "_law_page") pos) env) Q E s :=
  ldG G F.kg pe.k hl pe.g (by kernel_rfl) h (by decide)
theorem g_turn (G : Gs w g) (F : Fm g b L l fs s) (pe : PlainEnv env L) (hl : env.kindOf "_law_turn" = some .globalImplicit) (h : Q (.ref 49) s) : wpAny (model prog w) A (eval (.Name (Str.ofString "_law_turn") pos) env) Q E s :=
  ldG G F.kg pe.k hl pe.g (by kernel_rfl) h (by decide)
theorem g_sum (G : Gs w g) (F : Fm g b L l fs s) (pe : PlainEnv env L) (hl : env.kindOf "_law_sum" = some .globalImplicit) (h : Q (.ref 54) s) : wpAny (model prog w) A (eval (.Name (Str.ofString "_law_sum") pos) env) Q E s :=
  ldG G F.kg pe.k hl pe.g (by kernel_rfl) h (by decide)
theorem g_known (G : Gs w g) (F : Fm g b L l fs s) (pe : PlainEnv env L) (hl : env.kindOf "_law_known" = some .globalImplicit) (h : Q (.ref 59) s) : wpAny (model prog w) A (eval (.Name (Str.ofString "_law_known") pos) env) Q E s :=
  ldG G F.kg pe.k hl pe.g (by kernel_rfl) h (by decide)
theorem g_hit (G : Gs w g) (F : Fm g b L l fs s) (pe : PlainEnv env L) (hl : env.kindOf "_law_hit" = some .globalImplicit) (h : Q (.ref 66) s) : wpAny (model prog w) A (eval (.Name (Str.ofString "_law_hit") pos) env) Q E s :=
  ldG G F.kg pe.k hl pe.g (by kernel_rfl) h (by decide)
theorem g_prog (G : Gs w g) (F : Fm g b L l fs s) (pe : PlainEnv env L) (hl : env.kindOf "_law_prog" = some .globalImplicit) (h : Q (.ref 73) s) : wpAny (model prog w) A (eval (.Name (Str.ofString "_law_prog") pos) env) Q E s :=
  ldG G F.kg pe.k hl pe.g (by kernel_rfl) h (by decide)
theorem g_found (G : Gs w g) (F : Fm g b L l fs s) (pe : PlainEnv env L) (hl : env.kindOf "_law_found" = some .globalImplicit) (h : Q (.ref 80) s) : wpAny (model prog w) A (eval (.Name (Str.ofString "_law_found") pos) env) Q E s :=
  ldG G F.kg pe.k hl pe.g (by kernel_rfl) h (by decide)
theorem g_firsts (G : Gs w g) (F : Fm g b L l fs s) (pe : PlainEnv env L) (hl : env.kindOf "_law_firsts" = some .globalImplicit) (h : Q (.ref 85) s) : wpAny (model prog w) A (eval (.Name (Str.ofString "_law_firsts") pos) env) Q E s :=
  ldG G F.kg pe.k hl pe.g (by kernel_rfl) h (by decide)
theorem g_due (G : Gs w g) (F : Fm g b L l fs s) (pe : PlainEnv env L) (hl : env.kindOf "_law_due" = some .globalImplicit) (h : Q (.ref 92) s) : wpAny (model prog w) A (eval (.Name (Str.ofString "_law_due") pos) env) Q E s :=
  ldG G F.kg pe.k hl pe.g (by kernel_rfl) h (by decide)

theorem n_ld {x : Str} {v : Value} (F : Fm g b L l fs s) (pe : PlainEnv env L) (hl : env.kindOf x = some .local) (hv : l.lookup x = some v) (h : Q v s) (hd : (x == ("__debug__" : Str)) = false) : wpAny (model prog w) A (eval (.Name x pos) env) Q E s :=
  ldL (pe.l ▸ F) pe.k hl hv h hd
theorem n_ldn {x : Str} {v : Value} (F : Fm g b L l fs s) (pe : PlainEnv env L) (hl : env.kindOf x = some .local) (hv : l.lookup x = some v) (h : Q v s) : wpAny (model prog w) A (loadName env x) Q E s :=
  ldLn (pe.l ▸ F) pe.k hl hv h
theorem n_st {x : Str} {v : Value} {Q : Unit → Shared → Prop} (F : Fm g b L l fs s) (pe : PlainEnv env L) (hl : env.kindOf x = some .local)
    (h : ∀ s', Fm g b L ((x, v) :: l) fs s' → Q () s') : wpAny (model prog w) A (storeName env x v) Q E s := by
  have := pe.l
  subst this
  exact stL F pe.k hl h
theorem c_int {i : Int} {k : Nat} (F : Fm g b L l fs s) (h : ∀ t s', Fm g b L l fs s' → Q (.int i t) s') : wpAny (model prog w) A (eval (.Constant (.int i) k pos) env) Q E s := wpAny_Constant_int (h _ _ F.toks)
theorem c_str {x : Str} {k : Nat} (F : Fm g b L l fs s) (h : ∀ t s', Fm g b L l fs s' → Q (.str x t) s') : wpAny (model prog w) A (eval (.Constant (.str x) k pos) env) Q E s := wpAny_Constant_str (h _ _ F.toks)
theorem o_add {i j : Int} {t u : Tok} (F : Fm g b L l fs s) (h : ∀ t s', Fm g b L l fs s' → Q (.int (i + j) t) s') : wpAny (model prog w) A (binaryOp .Add (.int i t) (.int j u)) Q E s := P.add_int (h _ _ F.toks)
theorem o_sub {i j : Int} {t u : Tok} (F : Fm g b L l fs s) (h : ∀ t s', Fm g b L l fs s' → Q (.int (i - j) t) s') : wpAny (model prog w) A (binaryOp .Sub (.int i t) (.int j u)) Q E s := P.sub_int (h _ _ F.toks)
theorem o_and {i j : Int} {t u : Tok} (F : Fm g b L l fs s) (h : ∀ t s', Fm g b L l fs s' → Q (.int (Builtin.bitAnd i j) t) s') : wpAny (model prog w) A (binaryOp .BitAnd (.int i t) (.int j u)) Q E s := and_int (h _ _ F.toks)
theorem o_xor {i j : Int} {t u : Tok} (F : Fm g b L l fs s) (h : ∀ t s', Fm g b L l fs s' → Q (.int (Builtin.bitXor i j) t) s') : wpAny (model prog w) A (binaryOp .BitXor (.int i t) (.int j u)) Q E s := xor_int (h _ _ F.toks)
theorem o_shr {i j : Int} {t u : Tok} (hn : 0 ≤ j) (F : Fm g b L l fs s) (h : ∀ t s', Fm g b L l fs s' → Q (.int (i.fdiv (2 ^ j.toNat)) t) s') : wpAny (model prog w) A (binaryOp .RShift (.int i t) (.int j u)) Q E s := rshift_int hn (h _ _ F.toks)
theorem o_ishr {i j : Int} {t u : Tok} (hn : 0 ≤ j) (F : Fm g b L l fs s) (h : ∀ t s', Fm g b L l fs s' → Q (.int (i.fdiv (2 ^ j.toNat)) t) s') : wpAny (model prog w) A (inplaceOp .RShift (.int i t) (.int j u)) Q E s := irshift_int hn (h _ _ F.toks)
theorem i_plain {e : Expr} {whole : Sem Value} {Q : Bool → Shared → Prop} (he : isTrue e env whole = (do let v ← whole; standAt e.pos; holding [v] (truthy v))) (h : wpAny (model prog w) A whole (fun v s₁ => wpAny (model prog w) A (truthy v) Q E s₁) E s) : wpAny (model prog w) A (isTrue e env whole) Q E s :=
  wpAny_isTrue_value h he
theorem x_assign {x : Str} {pos' : Pos} {value : Expr} {Q : Flow → Shared → Prop} (hs : swapsWith value (some (.Name x pos')) pos.line env = pure false)
    (h : wpAny (model prog w) A (eval value env) (fun v s₁ => wpAny (model prog w) A (storeName env x v) (fun _ => Q .next) E s₁) E s) : wpAny (model prog w) A (exec (.Assign [.Name x pos'] value pos) env) Q E s := wpAny_Assign_Name h hs

theorem r_range1 {n : Int} {t : Tok} (F : Fm g b L l fs s)
    (h : ∀ r s' t u v, IsRange s'.heap r 0 n 1 t u v → Fm g b L l fs s' → Q (.ref r) s') : wpAny (model prog w) A (call (.type "range") [.int n t]) Q E s :=
  call_range_1 (h _ _ _ _ _ (IsRange.new ..) F.pushQ)

theorem iEq {k : Str} {i j : Int} {t : Tok} (h : l.lookup k = some (.int i t)) (e : i = j) : l.lookup k = some (.int j t) := e ▸ h
/-- the arguments one by one -/
def argsW (M : Model) (A : Around) (env : Env) (E : Value → Shared → Prop) : List Expr → (List Value → Shared → Prop) → Shared → Prop
  | [], K, s => K [] s
  | e :: r, K, s => wpAny M A (eval e env) (fun v s₁ => argsW M A env E r (fun vs s₂ => K (v :: vs) s₂) s₁) E s
theorem a_nil {M : Model} {K : List Value → Shared → Prop} (h : K [] s) : argsW M A env E [] K s := h
theorem a_cons {M : Model} {e : Expr} {r : List Expr} {K : List Value → Shared → Prop} (h : wpAny M A (eval e env) (fun v s₁ => argsW M A env E r (fun vs s₂ => K (v :: vs) s₂) s₁) E s) : argsW M A env E (e :: r) K s := h
theorem argsW_mono {M : Model} : ∀ {es : List Expr} {K K' : List Value → Shared → Prop} {s : Shared}, argsW M A env E es K s → (∀ vs s, K vs s → K' vs s) → argsW M A env E es K' s
  | [], _, _, _, h, k => k _ _ h
  | _ :: r, _, _, _, h, k => wpAny_mono h (fun _ _ h' => argsW_mono (es := r) h' fun _ _ q => k _ _ q) fun _ _ e => e
theorem starEach_cons {e : Expr} {r : List Expr} (he : isStarred e = false) : starEach (e :: r) env = (false, eval e env) :: starEach r env := by
  cases e <;> first | rfl | cases he
theorem splW {M : Model} : ∀ {es : List Expr} {K : List Value → Shared → Prop} {s : Shared}, (es.all fun e => !isStarred e) = true → argsW M A env E es K s → wpAny M A (spliced (backTo pos (starEach es env))) K E s
  | [], _, _, _, h => Calls.spliced_nil h
  | e :: r, K, s, hs, h => by
    rw [List.all_cons, Bool.and_eq_true] at hs
    rw [starEach_cons (by simpa using hs.1)]
    exact Calls.spliced_cons (wpAny_mono h (fun v s₁ h₁ => splW (es := r) hs.2 h₁) fun _ _ x => x)
theorem evalArgsW {M : Model} {f : Value} {es : List Expr} {K : Args → Shared → Prop} (hs : (es.all fun e => !isStarred e) = true) (h : argsW M A env E es (fun vs s' => K ⟨vs, []⟩ s') s) : wpAny M A (evalArgs f true (backTo pos (starEach es env)) []) K E s := by
  cases es with
  | nil => exact evalArgs_kw_nil (keywords := []) rfl (wpAny_evalAll_nil h)
  | cons e r =>
    have := splW (pos := pos) hs h
    rw [List.all_cons, Bool.and_eq_true] at hs
    rw [starEach_cons (by simpa using hs.1)] at this ⊢
    exact Calls.evalArgs_plain this
theorem backTo_plain {es : List Expr} (hs : (es.all fun e => !isStarred e) = true) : (backTo pos (starEach es env)).any (·.1) = false := by
  induction es with
  | nil => rfl
  | cons e r ih =>
    rw [List.all_cons, Bool.and_eq_true] at hs
    rw [starEach_cons (by simpa using hs.1)]
    show (false || _) = false
    exact ih hs.2
theorem k_type {T : String} {first : List Value} {es : List Expr} (hs : (es.all fun e => !isStarred e) = true) (h : argsW (model prog w) A env E es (fun vs s₁ => wpAny (model prog w) A (call (.type T) (first ++ vs)) Q E s₁) s) :
    wpAny (model prog w) A (callWith pos (.type T) first (backTo pos (starEach es env)) []) Q E s := PySem.callWith_type (backTo_plain hs) (evalArgsW hs h)
theorem k_bi {T : String} {first : List Value} {es : List Expr} (hs : (es.all fun e => !isStarred e) = true) (h : argsW (model prog w) A env E es (fun vs s₁ => wpAny (model prog w) A (call (.builtin T) (first ++ vs)) Q E s₁) s) :
    wpAny (model prog w) A (callWith pos (.builtin T) first (backTo pos (starEach es env)) []) Q E s := Calls.callWith_builtin (backTo_plain hs) (evalArgsW hs h)
/-- a call of a def of the text -/
theorem k_def {a : Addr} {first : List Value} {es : List Expr} {oc : Value} {od : Option Addr} {osl : Array (Option Value)} {fd : FuncData}
    (G : Gs w g) (ho : (KF w).lookup a = some ⟨oc, od, .func fd, osl⟩) (hs : (es.all fun e => !isStarred e) = true)
    (h : argsW (model prog w) A env E es (fun vs s₁ => Kg g s₁.heap ∧ wpAny (model prog w) A (call (.ref a) (first ++ vs)) Q E s₁) s) : wpAny (model prog w) A (callWith pos (.ref a) first (backTo pos (starEach es env)) []) Q E s :=
  Calls.callWith_function (evalArgsW hs (argsW_mono h fun _ _ hx => ⟨⟨hx.1 _ _ (G.K _ _ ho), rfl⟩, hx.2⟩))
/-- a call of any function object -/
theorem k_fn {a : Addr} {o : Obj} {first : List Value} {es : List Expr} {fd : FuncData} (ho : o.data = .func fd) (hs : (es.all fun e => !isStarred e) = true)
    (h : argsW (model prog w) A env E es (fun vs s₁ => s₁.heap.get? a = some o ∧ wpAny (model prog w) A (call (.ref a) (first ++ vs)) Q E s₁) s) : wpAny (model prog w) A (callWith pos (.ref a) first (backTo pos (starEach es env)) []) Q E s :=
  Calls.callWith_function (evalArgsW hs (argsW_mono h fun _ _ hx => ⟨⟨hx.1, ho⟩, hx.2⟩))
theorem k_type0 {T : String} {es : List Expr} (hs : (es.all fun e => !isStarred e) = true) (h : argsW (model prog w) A env E es (fun vs s₁ => wpAny (model prog w) A (call (.type T) vs) Q E s₁) s) :
    wpAny (model prog w) A (callWith pos (.type T) [] (backTo pos (starEach es env)) []) Q E s := k_type hs h
theorem k_bi0 {T : String} {es : List Expr} (hs : (es.all fun e => !isStarred e) = true) (h : argsW (model prog w) A env E es (fun vs s₁ => wpAny (model prog w) A (call (.builtin T) vs) Q E s₁) s) :
    wpAny (model prog w) A (callWith pos (.builtin T) [] (backTo pos (starEach es env)) []) Q E s := k_bi hs h
theorem k_def0 {a : Addr} {es : List Expr} {oc : Value} {od : Option Addr} {osl : Array (Option Value)} {fd : FuncData}
    (G : Gs w g) (ho : (KF w).lookup a = some ⟨oc, od, .func fd, osl⟩) (hs : (es.all fun e => !isStarred e) = true)
    (h : argsW (model prog w) A env E es (fun vs s₁ => Kg g s₁.heap ∧ wpAny (model prog w) A (call (.ref a) vs) Q E s₁) s) : wpAny (model prog w) A (callWith pos (.ref a) [] (backTo pos (starEach es env)) []) Q E s := k_def G ho hs h
end
end Mine
/- MC -/
namespace Mine
open PyProof.Rows PySem PySem.W
section
variable {prog : Program} {w : World} {g : Heap} {A : Around} {b s : Shared} {l : List (Str × Value)} {fs : List (Addr × Obj)} {env : Env} {L : Addr}

theorem Fm.fresh (F : Fm g b L l fs s) {a : Addr} (h : s.heap.get? a = none) : ∀ p ∈ fs, p.1 ≠ a := fun p hp q => by
  have := (F.own p hp).1.1
  rw [q, h] at this; cases this

/-- another dict of locals for a while -/
theorem Fm.switch (F : Fm g b L l fs s) {C : Addr} {m : Str → Option Value} (hC : s.heap.Ns C m) (hnew : b.heap.objs.size ≤ C) (hCL : C ≠ L) (hfs : ∀ p ∈ fs, p.1 ≠ C) :
    ∃ oL, (∀ h' : Heap, h'.get? L = some oL → ∃ m, h'.Ns L m ∧ ∀ x v, l.lookup x = some v → m x = some v) ∧ Fm g b C [] ((L, oL) :: fs) s := by
  obtain ⟨mL, ⟨oL, es, ep, ho, r⟩, hm⟩ := F.ns
  refine ⟨oL, fun h' e => ⟨mL, ⟨oL, es, ep, e, r⟩, hm⟩, { F with ns := ⟨m, hC, fun x v e => (by cases e)⟩, nL := hnew, own := fun p hp => ?_ }⟩
  rcases List.mem_cons.mp hp with rfl | hp
  · exact ⟨⟨ho, F.pL⟩, Ne.symm hCL⟩
  · exact ⟨(F.own p hp).1, hfs p hp⟩
theorem Fm.back {C : Addr} {l' : List (Str × Value)} {fs' : List (Addr × Obj)} {oL : Obj} (F : Fm g b C l' fs' s) (hm : (L, oL) ∈ fs') (hL : b.heap.objs.size ≤ L)
    (hn : ∀ h' : Heap, h'.get? L = some oL → ∃ m, h'.Ns L m ∧ ∀ x v, l.lookup x = some v → m x = some v) (hs : ∀ p ∈ fs, p ∈ fs' ∧ p.1 ≠ L) : Fm g b L l fs s :=
  { F with ns := hn _ (F.own _ hm).1.1, nL := hL, own := fun p hp => ⟨(F.own p (hs p hp).1).1, (hs p hp).2⟩ }

theorem Fm.ofNs {h' : Heap} {n : Nat} {l' : List (Str × Value)} {m : Str → Option Value} (F : Fm g b L l fs s) (hn : h'.Ns L m) (hm : ∀ x v, l'.lookup x = some v → m x = some v) (hs : Heap.SameBut L s.heap h') :
    Fm g b L l' fs { s with heap := h', toks := n } := by
  obtain ⟨_, ⟨o, es, ep, ho, hd, _⟩, _⟩ := F.ns
  have k : ∀ c o, c ≠ L → s.heap.get? c = some o → h'.get? c = some o := fun c o hc e => (hs.2 c hc).trans e
  exact {
    le := ⟨F.le.gens, F.le.drawn, F.le.os, fun c o' h1 h2 e => k c o' (fun q => absurd (Heap.lt_size e) (by rw [q]; exact Nat.not_lt.mpr F.nL)) (F.le.kp c o' h1 h2 e)⟩
    kg := fun c o' e => k c o' (fun q => absurd (Heap.lt_size e) (by rw [q]; exact Nat.not_lt.mpr (Nat.le_trans F.gb F.nL))) (F.kg c o' e)
    td := F.td.but ho (NP.dict hd) k
    ns := ⟨_, hn, hm⟩
    nL := F.nL
    lb := F.lb
    gb := F.gb
    own := fun p hp => ⟨⟨k _ _ (F.own p hp).2 (F.own p hp).1.1, (F.own p hp).1.2⟩, (F.own p hp).2⟩ }

/-- an own object changes to another -/
theorem Fm.chg {h' : Heap} {n : Nat} {a : Addr} {o o' : Obj} (F : Fm g b L l ((a, o) :: fs) s) (hn : NP o) (hnew : b.heap.objs.size ≤ a) (ho : h'.get? a = some o')
    (k : Heap.SameBut a s.heap h') (hf : ∀ p ∈ fs, p.1 ≠ a) : Fm g b L l ((a, o') :: fs) { s with heap := h', toks := n } := by
  have hp := F.own _ (.head _)
  exact ((F.sub (fs' := fs) fun p hp => .tail _ hp).but hp.1.1 hn hnew hp.2 (fun c o hc e => (k.2 c hc).trans e) hf).has ⟨ho, hp.1.2⟩ hp.2

theorem compIt {n : Nat} {P : Nat → Value → Prop} {x : Str} {px : Pos} {elt iter : Expr} {scope : Scope} {pos : Pos} {cl : List (Str × Addr)} {RR : Value → Addr → Result → Shared → Prop} (hh : A.handled = none)
    (hcell : (scope.names.all fun y => y.2 != .cell) = true) (hkind : scope.kind = .function) (hx : scope.names.lookup x = some .local) (hsz : n ≤ sizeLine) (pe : PlainEnv env L)
    (J : Nat → List Value → List (Addr × Obj) → Prop) (hJ0 : J 0 [] [])
    (turn : ∀ C i v vs es mu rs s₁, i < n → P i v → vs.length = i → J i vs es → (∀ p ∈ es, ∀ q ∈ mu, p.1 ≠ q.1) → PlainEnv (compEnvC scope cl C env) C → Fm g b C [(x, v)] (es ++ (fs ++ (mu ++ rs))) s₁ →
      wpAny (model prog w) A (eval elt (compEnvC scope cl C env)) (fun y s₂ => ∃ es₂ l₂, J (i + 1) (vs ++ [y]) es₂ ∧ (∀ p ∈ es₂, ∀ q ∈ mu, p.1 ≠ q.1) ∧ Fm g b C l₂ (es₂ ++ (fs ++ (mu ++ rs))) s₂) NoE s₁)
    (done : ∀ D C vs es k s₁, J n vs es → vs.length = n → s.heap.objs.size ≤ D → (∀ p ∈ es, p.1 ≠ D) → (∃ m, s₁.heap.Ns C m) → b.heap.objs.size ≤ C → C ≠ L → (∀ p ∈ (D, listOf vs.toArray k) :: (es ++ fs), p.1 ≠ C) → Fm g b L l ((D, listOf vs.toArray k) :: (es ++ fs)) s₁ → RR (.ref D) C (.ok .next) s₁)
    {I : Addr} {fp : List Addr} {St : Nat → Heap → Prop} (W : Walks prog w A I fp [I] n P St) (hnp : ∀ i h, St i h → ∃ o, h.get? I = some o ∧ NP o) (hfp : ∀ y ∈ fp, (y ≠ 61 ∧ y ≠ 68) ∧ y ≠ L) (hIf : I ∈ fp)
    (hI : b.heap.objs.size ≤ I) (hfs : ∀ p ∈ fs, p.1 ≠ I) (hlt : ∀ y ∈ fp, y < s.heap.objs.size) (hst : St 0 s.heap) (F : Fm g b L l fs s) :
    wpAny (model prog w) A (newList []) (fun acc s₃ => wpAny (model prog w) A (newFunctionEnv scope env.globals cl [] env.qual none .none (some env)) (fun cenv s₄ =>
      codeAny (model prog w) A (.compStart (.ListComp elt [⟨.Name x px, iter, [], 0⟩] scope pos) 0 (.ref I) acc { cenv with scope := relabel scope env }) (RR acc cenv.locals) s₄) NoE s₃) NoE s := by
  have hcell' : ∀ y ∈ scope.names, y.2 ≠ .cell := fun y hy => by simpa using List.all_eq_true.mp hcell y hy
  refine wpAny_newObj_type (wpAny_newFunctionEnv hcell' (by intro y hy; simp at hy) (fun h₁ hns₁ hsb₁ => ?_) hkind)
  dsimp only at hns₁ hsb₁ ⊢
  generalize hH2 : s.heap.push { cls := .type "list", dict := none, data := .seq ([] : List Value).toArray } = H2 at hns₁ hsb₁ ⊢
  have hC : H2.objs.size = s.heap.objs.size + 1 := by rw [← hH2, Heap.size_push]
  generalize hD : s.heap.objs.size = D at *
  generalize hCC : H2.objs.size = C at *
  have hDC : D ≠ C := by rw [hC]; exact Nat.ne_of_lt (Nat.lt_succ_self _)
  have hbD : b.heap.objs.size ≤ D := hD ▸ F.size
  have hbC : b.heap.objs.size ≤ C := by rw [hC]; exact Nat.le_succ_of_le hbD
  have hLD : L ≠ D := hD ▸ Nat.ne_of_lt F.Llt
  have hLC : L ≠ C := by rw [hC, ← hD]; exact Nat.ne_of_lt (Nat.lt_succ_of_lt F.Llt)
  have hfsD : ∀ p ∈ fs, p.1 ≠ D := hD ▸ F.newNe
  have hfsC : ∀ p ∈ fs, p.1 ≠ C := fun p hp => by rw [hC, ← hD]; exact Nat.ne_of_lt (Nat.lt_succ_of_lt (Heap.lt_size (F.own p hp).1.1))
  have hfpD : ∀ y ∈ fp, y ≠ D := fun y hy => Nat.ne_of_lt (hlt y hy)
  have hfpC : ∀ y ∈ fp, y ≠ C := fun y hy => by rw [hC]; exact Nat.ne_of_lt (Nat.lt_succ_of_lt (hlt y hy))
  have F0 : Fm g b L l ((D, listOf #[] 0) :: fs) { s with heap := H2, toks := s.toks } := by
    have := F.push (o := listOf #[] 0) (n := s.toks) rfl
    rw [hD] at this
    exact hH2 ▸ this
  have F1 := F0.pushQ (o := { cls := .type "dict", data := .dict #[] }) (n := s.toks)
  have hCget : (H2.push { cls := .type "dict", data := .dict #[] }).get? C = some { cls := .type "dict", data := .dict #[] } := by
    have := Heap.get?_push_size H2 (o := { cls := .type "dict", data := .dict #[] }) rfl
    rw [hCC] at this
    exact this
  have F2' := F1.but (h' := h₁) (n := s.toks + ([] : List (Str × Value)).length) (a := C) (o := { cls := .type "dict", data := .dict #[] }) hCget (NP.dict rfl) hbC (Ne.symm hLC) (fun c o hc e => hsb₁.extBut c o hc e) (fun p hp => by
    rcases List.mem_cons.mp hp with rfl | hp
    · exact hDC
    · exact hfsC p hp)
  have F2 : Fm g b L l ((D, listOf #[] 0) :: fs) { s with heap := h₁, toks := s.toks + ([] : List (Str × Value)).length } := F2'
  obtain ⟨oL, hnL, F3⟩ := F2.switch hns₁ hbC (Ne.symm hLC) (fun p hp => by
    rcases List.mem_cons.mp hp with rfl | hp
    · exact hDC
    · exact hfsC p hp)
  have hst₁ : St 0 h₁ := W.frame _ _ _ hst fun y hy o e => hsb₁.extBut y o (hfpC y hy) (Heap.get?_push_of_some _ (hH2 ▸ Heap.get?_push_of_some _ e))
  have pe' : PlainEnv (compEnvC scope cl C env) C := ⟨hkind, pe.g, pe.b, rfl⟩
  have loop : ∀ s₃ : Shared, s₃ = { s with heap := h₁, toks := s.toks + ([] : List (Str × Value)).length } →
      codeAny (model prog w) A (.compLoop (.ListComp elt [⟨.Name x px, iter, [], 0⟩] scope pos) 0 (.ref I) (.ref D) (compEnvC scope cl C env)) (RR (.ref D) C) s₃ := by
    rintro s₃ rfl
    refine codeAny_compLoop_list (fun k s₁ => ∃ i vs es kk l', i ≤ n ∧ k = n + 1 - i ∧ vs.length = i ∧ J i vs es ∧ St i s₁.heap ∧ (∀ p ∈ es, p.1 ≠ D ∧ p.1 ≠ L ∧ p.1 ≠ I) ∧
      Fm g b C l' ((D, listOf vs.toArray kk) :: (L, oL) :: (es ++ fs)) s₁) ?_ (n + 1) ⟨0, [], [], 0, [], Nat.zero_le _, rfl, rfl, hJ0, hst₁, (fun p hp => nomatch hp), F3.sub fun p hp => ?_⟩
    · rintro k s₁ ⟨i, vs, es, kk, l', hi, rfl, hvl, hJ, hS, hes, F₁⟩
      obtain ⟨oI, hoI, npI⟩ := hnp i _ hS
      have hown : ∀ p ∈ ((D, listOf vs.toArray kk) :: (L, oL) :: (es ++ fs)), p.1 ≠ I := fun p hp => by
        rcases List.mem_cons.mp hp with rfl | hp
        · exact fun q => hfpD I hIf q.symm
        rcases List.mem_cons.mp hp with rfl | hp
        · exact fun q => (hfp I hIf).2 q.symm
        rcases List.mem_append.mp hp with hp | hp
        · exact (hes p hp).2.2
        · exact hfs p hp
      by_cases hlt' : i < n
      · refine W.item i s₁ _ _ hlt' hS fun v h' tk hP hS' hk' => ?_
        have F₂ := F₁.but (h' := h') (n := tk) hoI npI hI (hfpC I hIf) (fun c o hc e => hk' c o (fun hm => hc (List.mem_singleton.mp hm)) e) hown
        obtain ⟨oI', hoI', npI'⟩ := hnp (i + 1) _ hS'
        let mu : List (Addr × Obj) := [(D, listOf vs.toArray kk), (L, oL), (I, oI')]
        let rs : List (Addr × Obj) := fp.filterMap fun y => (h'.get? y).map fun o => (y, o)
        have hm : ∀ y o, (y, o) ∈ rs ↔ (y ∈ fp ∧ h'.get? y = some o) := fun y o => by
          simp only [rs, List.mem_filterMap, Option.map_eq_some_iff]
          constructor
          · rintro ⟨z, hz, o', e, q⟩; cases q; exact ⟨hz, e⟩
          · rintro ⟨hz, e⟩; exact ⟨y, hz, o, e, rfl⟩
        have hitr : ∀ q ∈ mu, q.1 = D ∨ q.1 = L ∨ q.1 = I := fun q hq => by
          rcases List.mem_cons.mp hq with rfl | hq
          · exact .inl rfl
          rcases List.mem_cons.mp hq with rfl | hq
          · exact .inr (.inl rfl)
          · rw [List.mem_singleton.mp hq]; exact .inr (.inr rfl)
        have F₃ : Fm g b C l' (es ++ (fs ++ (mu ++ rs))) { s₁ with heap := h', toks := tk } := by
          refine (F₂.add (fs' := rs) fun p hp => ?_).sub fun p hp => ?_
          · obtain ⟨h1, h2⟩ := (hm p.1 p.2).mp hp
            exact ⟨⟨h2, (hfp _ h1).1⟩, hfpC _ h1⟩
          · rcases List.mem_append.mp hp with hp | hp
            · exact List.mem_append_right _ (.tail _ (.tail _ (List.mem_append_left _ hp)))
            rcases List.mem_append.mp hp with hp | hp
            · exact List.mem_append_right _ (.tail _ (.tail _ (List.mem_append_right _ hp)))
            rcases List.mem_append.mp hp with hp | hp
            · rcases List.mem_cons.mp hp with rfl | hp
              · exact List.mem_append_right _ (.head _)
              rcases List.mem_cons.mp hp with rfl | hp
              · exact List.mem_append_right _ (.tail _ (.head _))
              · rw [List.mem_singleton.mp hp]; exact List.mem_append_left _ ((hm _ _).mpr ⟨hIf, hoI'⟩)
            · exact List.mem_append_left _ hp
        refine wpAny_assign_Name (n_st F₃ pe' (lookup_relabel_local hx) fun s₃ F₄ => ?_)
        have F₅ : Fm g b C [(x, v)] (es ++ (fs ++ (mu ++ rs))) s₃ := F₄.weak ⟨by rw [List.lookup_cons, beq_self_eq_true], trivial⟩
        refine wpAny_mono (turn C i v vs es mu rs s₃ hlt' hP hvl hJ (fun p hp q hq => ?_) pe' F₅) (fun y s₄ h₄ => ?_) fun _ _ e => e.elim
        · rcases hitr q hq with e | e | e
          · rw [e]; exact (hes p hp).1
          · rw [e]; exact (hes p hp).2.1
          · rw [e]; exact (hes p hp).2.2
        obtain ⟨es₂, l₂, hJ₂, hes₂, F₆⟩ := h₄
        have hDm : ((D, listOf vs.toArray kk) : Addr × Obj) ∈ mu := .head _
        have hLm : ((L, oL) : Addr × Obj) ∈ mu := .tail _ (.head _)
        have hIm : ((I, oI') : Addr × Obj) ∈ mu := .tail _ (.tail _ (.head _))
        have hsz' : vs.toArray.size ≤ sizeLine := by rw [List.size_toArray, hvl]; exact Nat.le_trans hi hsz
        refine wpAny_list_append_plain (hsz := hsz') ⟨kk, (F₆.own _ (List.mem_append_right _ (List.mem_append_right _ (List.mem_append_left _ hDm)))).1.1⟩ fun h₅ hl₅ hs₅ => ?_
        obtain ⟨kk', hl₅⟩ := hl₅
        have F₇ : Fm g b C l₂ ((D, listOf vs.toArray kk) :: (L, oL) :: (es₂ ++ fs)) s₄ := F₆.sub fun p hp => by
          rcases List.mem_cons.mp hp with rfl | hp
          · exact List.mem_append_right _ (List.mem_append_right _ (List.mem_append_left _ hDm))
          rcases List.mem_cons.mp hp with rfl | hp
          · exact List.mem_append_right _ (List.mem_append_right _ (List.mem_append_left _ hLm))
          rcases List.mem_append.mp hp with hp | hp
          · exact List.mem_append_left _ hp
          · exact List.mem_append_right _ (List.mem_append_left _ hp)
        have F₈ := F₇.chg (n := s₄.toks) (NP.seq rfl) hbD hl₅ hs₅ (fun p hp => by
          rcases List.mem_cons.mp hp with rfl | hp
          · exact hLD
          rcases List.mem_append.mp hp with hp | hp
          · exact hes₂ p hp _ hDm
          · exact hfsD p hp)
        refine ⟨n + 1 - (i + 1), by omega, i + 1, vs ++ [y], es₂, kk', l₂, hlt', rfl, by simp [hvl], hJ₂, ?_, fun p hp => ⟨hes₂ p hp _ hDm, hes₂ p hp _ hLm, hes₂ p hp _ hIm⟩, ?_⟩
        · refine W.frame _ _ _ hS' fun y hy o e => hs₅.extBut y o (hfpD y hy) ?_
          exact (F₆.own (y, o) (List.mem_append_right _ (List.mem_append_right _ (List.mem_append_right _ ((hm y o).mpr ⟨hy, e⟩))))).1.1
        · have : (listOf (vs ++ [y]).toArray kk') = listOf (vs.toArray.push y) kk' := by simp
          rw [this]; exact F₈
      · have hin : i = n := by omega
        subst hin
        refine W.done s₁ _ _ hS fun h' tk hk' => ?_
        have F₂ := F₁.but (h' := h') (n := tk) hoI npI hI (hfpC I hIf) (fun c o hc e => hk' c o (fun hm => hc (List.mem_singleton.mp hm)) e) hown
        obtain ⟨mC, hnC, _⟩ := F₂.ns
        have F₃ : Fm g b L l ((D, listOf vs.toArray kk) :: (es ++ fs)) { s₁ with heap := h', toks := tk } := F₂.back (.tail _ (.head _)) F.nL hnL fun p hp => by
          rcases List.mem_cons.mp hp with rfl | hp
          · exact ⟨.head _, Ne.symm hLD⟩
          rcases List.mem_append.mp hp with hp' | hp'
          · exact ⟨.tail _ (.tail _ hp), (hes p hp').2.1⟩
          · exact ⟨.tail _ (.tail _ hp), (F.own p hp').2⟩
        refine done D C vs es kk _ hJ hvl (Nat.le_refl _) (fun p hp => (hes p hp).1) ⟨mC, hnC⟩ hbC (Ne.symm hLC) (fun p hp => ?_) F₃
        rcases List.mem_cons.mp hp with rfl | hp
        · exact hDC
        · exact (F₂.own p (.tail _ (.tail _ hp))).2
    · rcases List.mem_cons.mp hp with rfl | hp
      · exact .tail _ (.head _)
      rcases List.mem_cons.mp hp with rfl | hp
      · exact .head _
      · exact .tail _ (.tail _ hp)
  exact codeAny_compStart_list (loop _ rfl) (W.self 0 _ _ _ hst₁ (loop _ rfl))

/-- what stands behind a comprehension's iterator -/
abbrev CompB (prog : Program) (w : World) (A : Around) (env : Env) (elt iter : Expr) (x : Str) (px : Pos) (scope : Scope) (cl : List (Str × Addr)) (pos : Pos) (RR : Value → Addr → Result → Shared → Prop) (it : Value) (s₂ : Shared) : Prop :=
  wpAny (model prog w) A (newList []) (fun acc s₃ => wpAny (model prog w) A (newFunctionEnv scope env.globals cl [] env.qual none .none (some env)) (fun cenv s₄ =>
      codeAny (model prog w) A (.compStart (.ListComp elt [⟨.Name x px, iter, [], 0⟩] scope pos) 0 it acc { cenv with scope := relabel scope env }) (RR acc cenv.locals) s₄) NoE s₃) NoE s₂

theorem e_comp {elt iter : Expr} {x : Str} {px : Pos} {scope : Scope} {cl : List (Str × Addr)} {pos : Pos} {Q : Value → Shared → Prop} (hclos : closureFor scope env = pure cl) (hkind : scope.kind = .function)
    (hnames : (scope.names.all fun y => y.2 != .local || decide (scope.names.lookup y.1 = some .local)) = true) (hs : ∀ x, foldedSetIterable iter env x = pure x)
    (h : wpAny (model prog w) A (eval iter env) (fun xv s₁ => wpAny (model prog w) A (pyIter xv) (fun it s₂ => CompB prog w A env elt iter x px scope cl pos (fun acc C => compPost (model prog w) A NoE none Q acc C) it s₂) NoE s₁) NoE s) :
    wpAny (model prog w) A (eval (.ListComp elt [⟨.Name x px, iter, [], 0⟩] scope pos) env) Q NoE s := by
  rw [eval_ListComp]
  exact wpAny_comprehension_free (use := none) rfl hs hclos hkind (fun y hy hl => by
    have := List.all_eq_true.mp hnames y hy
    rw [hl] at this
    simpa using this) h

theorem compQ {ex : List Addr} {n : Nat} {P : Nat → Value → Prop} {x : Str} {px : Pos} {elt iter : Expr} {scope : Scope} {pos : Pos} {cl : List (Str × Addr)} {Q : Value → Shared → Prop} (hh : A.handled = none)
    (hcell : (scope.names.all fun y => y.2 != .cell) = true) (hkind : scope.kind = .function) (hx : scope.names.lookup x = some .local) (hsz : n ≤ sizeLine) (pe : PlainEnv env L)
    (J : Nat → List Value → List (Addr × Obj) → Prop) (hJ0 : J 0 [] [])
    (turn : ∀ C i v vs es mu rs s₁, i < n → P i v → vs.length = i → J i vs es → (∀ p ∈ es, ∀ q ∈ mu, p.1 ≠ q.1) → PlainEnv (compEnvC scope cl C env) C → Fm g b C [(x, v)] (es ++ (fs ++ (mu ++ rs))) s₁ →
      wpAny (model prog w) A (eval elt (compEnvC scope cl C env)) (fun y s₂ => ∃ es₂ l₂, J (i + 1) (vs ++ [y]) es₂ ∧ (∀ p ∈ es₂, ∀ q ∈ mu, p.1 ≠ q.1) ∧ Fm g b C l₂ (es₂ ++ (fs ++ (mu ++ rs))) s₂) NoE s₁)
    (done : ∀ D vs es k s₁, J n vs es → vs.length = n → (∀ p ∈ fs, p.1 ≠ D) → (∀ p ∈ es, p.1 ≠ D) → b.heap.objs.size ≤ D → Fm g b L l ((D, listOf vs.toArray k) :: (es ++ fs)) s₁ → Q (.ref D) s₁) :
    ItQ prog w g b L l fs ex n P (fun it s₂ => CompB prog w A env elt iter x px scope cl pos (fun acc C => compPost (model prog w) A NoE none Q acc C) it s₂) := by
  intro I fp St s' _ W hnp hfp hIf hI hfs hlt hst F
  refine compIt hh hcell hkind hx hsz pe J hJ0 turn (fun D C vs es k s₁ hJ hvl hD hes hC hbC hCL hpC F' => ?_) (W A hh) hnp hfp hIf hI hfs hlt hst F
  obtain ⟨m, oC, eC, epC, hoC, hdC, rC⟩ := hC
  exact ⟨m, ⟨oC, eC, epC, hoC, hdC, rC⟩, fun h' hs' => done D vs es k _ hJ hvl (F.fresh (Heap.get?_none_of_le hD)) hes (Nat.le_trans F.size hD)
    (F'.but (n := s₁.toks) hoC (NP.dict hdC) hbC hCL (fun c o hc e => hs'.extBut c o hc e) hpC)⟩

/-- a comprehension of plain values -/
theorem compV {ex : List Addr} {n : Nat} {P : Nat → Value → Prop} {x : Str} {px : Pos} {elt iter : Expr} {scope : Scope} {pos : Pos} {cl : List (Str × Addr)} {Q : Value → Shared → Prop} (hh : A.handled = none)
    (hcell : (scope.names.all fun y => y.2 != .cell) = true) (hkind : scope.kind = .function) (hx : scope.names.lookup x = some .local) (hsz : n ≤ sizeLine) (pe : PlainEnv env L)
    (J : Nat → List Value → Prop) (hJ0 : J 0 [])
    (turn : ∀ C i v vs fs' s₁, i < n → P i v → vs.length = i → J i vs → (∀ p ∈ fs, p ∈ fs') → PlainEnv (compEnvC scope cl C env) C → Fm g b C [(x, v)] fs' s₁ →
      wpAny (model prog w) A (eval elt (compEnvC scope cl C env)) (fun y s₂ => ∃ l₂, J (i + 1) (vs ++ [y]) ∧ Fm g b C l₂ fs' s₂) NoE s₁)
    (done : ∀ D vs k s₁, J n vs → vs.length = n → (∀ p ∈ fs, p.1 ≠ D) → b.heap.objs.size ≤ D → Fm g b L l ((D, listOf vs.toArray k) :: fs) s₁ → Q (.ref D) s₁) :
    ItQ prog w g b L l fs ex n P (fun it s₂ => CompB prog w A env elt iter x px scope cl pos (fun acc C => compPost (model prog w) A NoE none Q acc C) it s₂) :=
  compQ hh hcell hkind hx hsz pe (fun i vs es => es = [] ∧ J i vs) ⟨rfl, hJ0⟩
    (fun C i v vs es mu rs s₁ hi hP hvl hJ _ pe' F => by
      obtain ⟨rfl, hJ⟩ := hJ
      exact wpAny_mono (turn C i v vs _ s₁ hi hP hvl hJ (fun p hp => List.mem_append_left _ hp) pe' F) (fun y s₂ h => let ⟨l₂, h1, h2⟩ := h; ⟨[], l₂, ⟨rfl, h1⟩, (fun p hp => nomatch hp), h2⟩) fun _ _ e => e)
    (fun D vs es k s₁ hJ hvl h1 _ h3 F => by
      obtain ⟨rfl, hJ⟩ := hJ
      exact done D vs k s₁ hJ hvl h1 h3 F)

/-- x = [..]: the store comes before the comprehension's names go -/
theorem x_comp {elt iter : Expr} {x y : Str} {px py : Pos} {scope : Scope} {cl : List (Str × Addr)} {pos spos : Pos} {Q : Flow → Shared → Prop}
    (hsw : swapsWith (.ListComp elt [⟨.Name x px, iter, [], 0⟩] scope pos) (some (.Name y py)) spos.line env = pure true) (hclos : closureFor scope env = pure cl) (hkind : scope.kind = .function)
    (hnames : (scope.names.all fun y => y.2 != .local || decide (scope.names.lookup y.1 = some .local)) = true) (hs : ∀ x, foldedSetIterable iter env x = pure x)
    (h : wpAny (model prog w) A (eval iter env) (fun xv s₁ => wpAny (model prog w) A (pyIter xv) (fun it s₂ => CompB prog w A env elt iter x px scope cl pos (fun acc C => compPost (model prog w) A NoE (some (assign (.Name y py) env)) (fun _ s' => Q .next s') acc C) it s₂) NoE s₁) NoE s) :
    wpAny (model prog w) A (exec (.Assign [.Name y py] (.ListComp elt [⟨.Name x px, iter, [], 0⟩] scope pos) spos) env) Q NoE s := by
  rw [exec_Assign_Name_used _ _ _ _ hsw]
  refine wpAny_bind (wpAny_standAt (wpAny_bind ?_))
  show wpAny _ A (do let _ ← comprehension (.ListComp elt [⟨.Name x px, iter, [], 0⟩] scope pos) scope env _ (newList []) false (eval iter env) (some (assign (.Name y py) env))) _ _ s
  exact wpAny_bind (wpAny_mono (wpAny_comprehension_free (use := some (assign (.Name y py) env)) (Q := fun _ s' => Q .next s') rfl hs hclos hkind (fun y hy hl => by
    have := List.all_eq_true.mp hnames y hy
    rw [hl] at this
    simpa using this) h) (fun _ s' hq => wpAny_pure (wpAny_pure hq)) fun _ _ e => e)

theorem compS {ex : List Addr} {n : Nat} {P : Nat → Value → Prop} {x y : Str} {px py : Pos} {elt iter : Expr} {scope : Scope} {pos : Pos} {cl : List (Str × Addr)} {Q : Flow → Shared → Prop} (hh : A.handled = none)
    (hcell : (scope.names.all fun y => y.2 != .cell) = true) (hkind : scope.kind = .function) (hx : scope.names.lookup x = some .local) (hsz : n ≤ sizeLine) (pe : PlainEnv env L) (hy : env.kindOf y = some .local)
    (J : Nat → List Value → List (Addr × Obj) → Prop) (hJ0 : J 0 [] [])
    (turn : ∀ C i v vs es mu rs s₁, i < n → P i v → vs.length = i → J i vs es → (∀ p ∈ es, ∀ q ∈ mu, p.1 ≠ q.1) → PlainEnv (compEnvC scope cl C env) C → Fm g b C [(x, v)] (es ++ (fs ++ (mu ++ rs))) s₁ →
      wpAny (model prog w) A (eval elt (compEnvC scope cl C env)) (fun y s₂ => ∃ es₂ l₂, J (i + 1) (vs ++ [y]) es₂ ∧ (∀ p ∈ es₂, ∀ q ∈ mu, p.1 ≠ q.1) ∧ Fm g b C l₂ (es₂ ++ (fs ++ (mu ++ rs))) s₂) NoE s₁)
    (done : ∀ D vs es k s₁, J n vs es → vs.length = n → (∀ p ∈ fs, p.1 ≠ D) → (∀ p ∈ es, p.1 ≠ D) → b.heap.objs.size ≤ D → Fm g b L ((y, .ref D) :: l) ((D, listOf vs.toArray k) :: (es ++ fs)) s₁ → Q .next s₁) :
    ItQ prog w g b L l fs ex n P (fun it s₂ => CompB prog w A env elt iter x px scope cl pos (fun acc C => compPost (model prog w) A NoE (some (assign (.Name y py) env)) (fun _ s' => Q .next s') acc C) it s₂) := by
  intro I fp St s' _ W hnp hfp hIf hI hfs hlt hst F
  refine compIt hh hcell hkind hx hsz pe J hJ0 turn (fun D C vs es k s₁ hJ hvl hD hes hC hbC hCL hpC F' => ?_) (W A hh) hnp hfp hIf hI hfs hlt hst F
  obtain ⟨m, oC, eC, epC, hoC, hdC, rC⟩ := hC
  show wpAny _ A (assign (.Name y py) env (.ref D)) _ _ _
  have F'' := F'.has ⟨hoC, ne2 (Nat.lt_of_lt_of_le F'.lb hbC)⟩ hCL
  refine wpAny_assign_Name (n_st F'' pe hy fun s₂ F₂ => ?_)
  have hC₂ := (F₂.own _ (.head _)).1.1
  refine ⟨m, ⟨oC, eC, epC, hC₂, hdC, rC⟩, fun h' hs' => done D vs es k _ hJ hvl (F.fresh (Heap.get?_none_of_le hD)) hes (Nat.le_trans F.size hD) ?_⟩
  exact (F₂.sub fun p hp => .tail _ hp).but (n := s₂.toks) hC₂ (NP.dict hdC) hbC hCL (fun c o hc e => hs'.extBut c o hc e) hpC
end
end Mine
/- MD -/
namespace Mine
open PyProof.Rows PySem PySem.W

/-- every object of a heap but one -/
def allObjs (h : Heap) (L : Addr) : List (Addr × Obj) := (List.range h.objs.size).filterMap fun a => if a = L then none else (h.get? a).map fun o => (a, o)
theorem mem_allObjs {h : Heap} {L a : Addr} {o : Obj} : (a, o) ∈ allObjs h L ↔ h.get? a = some o ∧ a ≠ L := by
  unfold allObjs
  simp only [List.mem_filterMap, List.mem_range]
  constructor
  · rintro ⟨x, hx, e⟩
    split at e
    · cases e
    · rename_i hne
      obtain ⟨o', e1, e2⟩ := Option.map_eq_some_iff.mp e
      cases e2
      exact ⟨e1, hne⟩
  · rintro ⟨e, hne⟩
    exact ⟨a, Heap.lt_size e, by rw [if_neg hne, e]; rfl⟩
abbrev h00 : Heap := {}
theorem h00_get (a : Addr) : h00.get? a = none := Heap.get?_none_of_le (Nat.zero_le _)
section
variable {prog : Program} {w : World} {g : Heap} {A : Around} {b s : Shared} {l : List (Str × Value)} {fs : List (Addr × Obj)} {env : Env} {L : Addr} {pos : Pos} {Q : Value → Shared → Prop} {E : Value → Shared → Prop}

theorem Fm.fr (F : Fm g b L l fs s) : ∃ m, Fr h00 L s.heap m ∧ News h00 L s.heap (allObjs s.heap L) ∧ ∀ x v, l.lookup x = some v → m x = some v := by
  obtain ⟨m, n, hm⟩ := F.ns
  exact ⟨m, ⟨n, (fun b o e => by rw [h00_get] at e; cases e), Nat.zero_le _⟩, fun p hp => ⟨(mem_allObjs.mp hp).1, (mem_allObjs.mp hp).2, h00_get _⟩, hm⟩
theorem Fm.ofKeep {h' : Heap} {n : Nat} {m : Str → Option Value} (F : Fm g b L l fs s) (k : ∀ c o, c ≠ L → s.heap.get? c = some o → h'.get? c = some o) (hn : h'.Ns L m) (hm : ∀ x v, l.lookup x = some v → m x = some v) :
    Fm g b L l fs { s with heap := h', toks := n } := by
  obtain ⟨_, ⟨o, es, ep, ho, hd, _⟩, _⟩ := F.ns
  exact {
    le := ⟨F.le.gens, F.le.drawn, F.le.os, fun c o' h1 h2 e => k c o' (fun q => absurd (Heap.lt_size e) (by rw [q]; exact Nat.not_lt.mpr F.nL)) (F.le.kp c o' h1 h2 e)⟩
    kg := fun c o' e => k c o' (fun q => absurd (Heap.lt_size e) (by rw [q]; exact Nat.not_lt.mpr (Nat.le_trans F.gb F.nL))) (F.kg c o' e)
    td := F.td.but ho (NP.dict hd) k
    ns := ⟨_, hn, hm⟩
    nL := F.nL
    lb := F.lb
    gb := F.gb
    own := fun p hp => ⟨⟨k _ _ (F.own p hp).2 (F.own p hp).1.1, (F.own p hp).1.2⟩, (F.own p hp).2⟩ }
theorem Fm.ofFr {h' : Heap} {n : Nat} {m : Str → Option Value} {ns : List (Addr × Obj)} (F : Fm g b L l fs s) (hm : ∀ x v, l.lookup x = some v → m x = some v) (F' : Fr h00 L h' m) (N' : News h00 L h' (ns ++ allObjs s.heap L)) (hns : ∀ p ∈ ns, NP p.2) :
    Fm g b L l (ns ++ fs) { s with heap := h', toks := n } := by
  have F1 := F.ofKeep (n := n) (fun c o hc e => (N' (c, o) (List.mem_append_right _ (mem_allObjs.mpr ⟨e, hc⟩))).1) F'.ns hm
  exact F1.add fun p hp => ⟨F1.td.pt (N' p (List.mem_append_left _ hp)).1 (hns p hp), (N' p (List.mem_append_left _ hp)).2.1⟩
theorem Fm.ofFr0 {h' : Heap} {n : Nat} {m : Str → Option Value} (F : Fm g b L l fs s) (hm : ∀ x v, l.lookup x = some v → m x = some v) (F' : Fr h00 L h' m) (N' : News h00 L h' (allObjs s.heap L)) : Fm g b L l fs { s with heap := h', toks := n } :=
  F.ofFr (ns := []) hm F' N' (fun p hp => nomatch hp)
theorem Fm.ofFr1 {h' : Heap} {n : Nat} {m : Str → Option Value} {a : Addr} {o : Obj} (F : Fm g b L l fs s) (hm : ∀ x v, l.lookup x = some v → m x = some v) (F' : Fr h00 L h' m) (N' : News h00 L h' ((a, o) :: allObjs s.heap L)) (hn : NP o) : Fm g b L l ((a, o) :: fs) { s with heap := h', toks := n } :=
  F.ofFr (ns := [(a, o)]) hm F' N' (fun p hp => by rw [List.mem_singleton.mp hp]; exact hn)

abbrev tupOf (its : Array Value) : Obj := { cls := .type "tuple", data := .seq its }

theorem q_list {vs : List Value} (F : Fm g b L l fs s) (hsz : vs.length ≤ sizeLine) (h : ∀ a s', (∀ p ∈ fs, p.1 ≠ a) → b.heap.objs.size ≤ a → Fm g b L l ((a, listOf vs.toArray 0) :: fs) s' → Q (.ref a) s') : wpAny (model prog w) A (newList vs) Q E s :=
  wpAny_newList (h _ _ F.newNe F.size (F.push (n := s.toks) rfl)) hsz
theorem q_tuple {vs : List Value} (F : Fm g b L l fs s) (hsz : vs.length ≤ sizeLine) (h : ∀ a s', (∀ p ∈ fs, p.1 ≠ a) → b.heap.objs.size ≤ a → Fm g b L l ((a, tupOf vs.toArray) :: fs) s' → Q (.ref a) s') : wpAny (model prog w) A (newTuple vs) Q E s :=
  wpAny_newTuple (h _ _ F.newNe F.size (F.push (n := s.toks) rfl)) hsz
theorem e_list {es : List Expr} (hs : (es.all fun e => !isStarred e) = true) (h : argsW (model prog w) A env E es (fun vs s₁ => wpAny (model prog w) A (newList vs) Q E s₁) s) : wpAny (model prog w) A (eval (.List es pos) env) Q E s :=
  List_ (splW hs h)
theorem e_tuple {es : List Expr} {k : Nat} (hs : (es.all fun e => !isStarred e) = true) (h : argsW (model prog w) A env E es (fun vs s₁ => wpAny (model prog w) A (newTuple vs) Q E s₁) s) : wpAny (model prog w) A (eval (.Tuple es k pos) env) Q E s :=
  Tuple_ (splW hs h)

theorem IsL {a : Addr} {its : Array Value} {k : Nat} (F : Fm g b L l fs s) (h : (a, listOf its k) ∈ fs) : s.heap.IsList a its := ⟨_, (F.own _ h).1.1, rfl, k, rfl⟩

theorem IsLo {a : Addr} {o : Obj} {its : Array Value} {k : Nat} (F : Fm g b L l fs s) (h : (a, o) ∈ fs) (hc : o.cls = .type "list") (hd : o.data = .seq its k) : s.heap.IsList a its := ⟨_, (F.own _ h).1.1, hc, k, hd⟩
theorem o_addL {x y : Addr} {vs ws : List Value} (F : Fm g b L l fs s) (hx : s.heap.IsList x vs.toArray) (hy : s.heap.IsList y ws.toArray) (hsz : vs.length + ws.length ≤ sizeLine)
    (h : ∀ a s', (∀ p ∈ fs, p.1 ≠ a) → b.heap.objs.size ≤ a → Fm g b L l ((a, listOf (vs ++ ws).toArray 0) :: fs) s' → Q (.ref a) s') : wpAny (model prog w) A (binaryOp .Add (.ref x) (.ref y)) Q E s := by
  obtain ⟨m, F1, N1, hm⟩ := F.fr
  exact add_lists (hsz := hsz) F1 N1 hx hy fun h' F' N' => h _ _ F.newNe F.size (F.ofFr1 (n := s.toks) hm F' N' (NP.seq rfl))
theorem carried_ints : ∀ {vs : List Value} {ns : List Int}, IntsAre vs ns → CarriedAll vs (ns.map PyData.int)
  | _, _, h => by
    induction h with
    | nil => exact .nil
    | cons => exact .cons (.int _ _) ‹_›
theorem o_mulL {x : Addr} {vs : List Value} {ns : List Int} {i : Int} {u : Tok} (F : Fm g b L l fs s) (hx : s.heap.IsList x vs.toArray) (hi : IntsAre vs ns) (hlo : 0 ≤ i) (hhi : i < 2 ^ 20) (hsz : vs.length * i.toNat ≤ 2 ^ 24)
    (h : ∀ a o k s', o.cls = .type "list" → o.data = .seq (List.replicate i.toNat vs).flatten.toArray k → Fm g b L l ((a, o) :: fs) s' → Q (.ref a) s') : wpAny (model prog w) A (binaryOp .Mult (.ref x) (.int i u)) Q E s := by
  obtain ⟨m, F1, N1, hm⟩ := F.fr
  refine mul_list_is F1 N1 hx (carried_ints hi) (by omega) (by omega) hsz fun h' F' N' _ hl _ => ?_
  obtain ⟨o, ho, hc, k, hd⟩ := hl
  have F2 := F.ofFr0 (n := s.toks) hm F' N'
  exact h _ o k _ hc hd (F2.has (F2.td.pt ho (NP.seq hd)) F.newPt.2)
theorem u_ord {c : Nat} {t : Tok} (F : Fm g b L l fs s) (h : ∀ t s', Fm g b L l fs s' → Q (.int c t) s') : wpAny (model prog w) A (call (.builtin "ord") [.str ⟨#[c]⟩ t]) Q E s := P.ord_of_char (h _ _ F.toks)
end
end Mine
/- ME -/
namespace Mine
open PyProof.Rows PySem PySem.W
theorem preSum_take (ns : List Int) : ∀ j, j ≤ ns.length → preSum (fun i => ns.getD i 0) j = (ns.take j).sum
  | 0, _ => by simp [preSum]
  | j + 1, h => by
    have hj : j < ns.length := by omega
    have e : ns.take (j + 1) = ns.take j ++ [ns[j]] := by rw [List.take_add_one, List.getElem?_eq_getElem hj]; rfl
    have e2 : ns.getD j 0 = ns[j] := by rw [List.getD, List.getElem?_eq_getElem hj]; rfl
    rw [preSum, preSum_take ns j (by omega), e, List.sum_append, e2]; simp
section
variable {prog : Program} {w : World} {g : Heap} {A : Around} {b s : Shared} {l : List (Str × Value)} {fs : List (Addr × Obj)} {env : Env} {L : Addr} {pos : Pos} {Q : Value → Shared → Prop} {E : Value → Shared → Prop}

theorem o_mul {i j : Int} {t u : Tok} (hm : i.natAbs < 2 ^ 64 ∨ j.natAbs < 2 ^ 64) (F : Fm g b L l fs s) (h : ∀ t s', Fm g b L l fs s' → Q (.int (i * j) t) s') : wpAny (model prog w) A (binaryOp .Mult (.int i t) (.int j u)) Q E s :=
  P.mul_int (h _ _ F.toks) (hm.elim (fun h => IntMulOk.of_left (intBits_le_iff.mpr h)) fun h => IntMulOk.of_right (intBits_le_iff.mpr h))
theorem o_fdiv {i j : Int} {t u : Tok} (hj : j ≠ 0) (hp : j.natAbs < 2 ^ 200) (F : Fm g b L l fs s) (h : ∀ t s', Fm g b L l fs s' → Q (.int (i.fdiv j) t) s') : wpAny (model prog w) A (binaryOp .FloorDiv (.int i t) (.int j u)) Q E s :=
  floordiv_int hj (h _ _ F.toks) (.inl (PyProof.noPylong_of_log2 (by
    have h0 : j.natAbs ≠ 0 := by omega
    have := (Nat.log2_lt h0).mpr hp
    omega)))
theorem o_mod {i j : Int} {t u : Tok} (hj : j ≠ 0) (F : Fm g b L l fs s) (h : ∀ t s', Fm g b L l fs s' → Q (.int (i.fmod j) t) s') : wpAny (model prog w) A (binaryOp .Mod (.int i t) (.int j u)) Q E s :=
  mod_int' hj (h _ _ F.toks)
theorem o_pow {i j : Int} {t u : Tok} (hj : 0 ≤ j) (hj2 : j ≤ 1000) (hi : i.natAbs < 2 ^ 64) (F : Fm g b L l fs s) (h : ∀ t s', Fm g b L l fs s' → Q (.int (i ^ j.toNat) t) s') : wpAny (model prog w) A (binaryOp .Pow (.int i t) (.int j u)) Q E s :=
  pow_int_small hj (by omega) hi (h _ _ F.toks)
theorem o_neg {i : Int} {t : Tok} (F : Fm g b L l fs s) (h : ∀ t s', Fm g b L l fs s' → Q (.int (-i) t) s') : wpAny (model prog w) A (unaryOp .USub (.int i t)) Q E s := P.neg_int (h _ _ F.toks)
theorem u_len {x : Str} {t : Tok} (F : Fm g b L l fs s) (hx : x.cps.size < 2 ^ 62) (h : ∀ t s', Fm g b L l fs s' → Q (.int x.cps.size t) s') : wpAny (model prog w) A (call (.builtin "len") [.str x t]) Q E s :=
  PySem.P.len_str (by show ¬ ((x.cps.size : Nat) : Int) ≥ 2 ^ 63; omega) (h _ _ F.toks)
theorem u_lenL {a : Addr} {its : Array Value} (F : Fm g b L l fs s) (hl : s.heap.IsList a its) (hx : its.size < 2 ^ 62) (h : ∀ t s', Fm g b L l fs s' → Q (.int its.size t) s') : wpAny (model prog w) A (call (.builtin "len") [.ref a]) Q E s :=
  PySem.Calls.call_len_list hl (by omega) (h _ _ F.toks)
theorem u_abs {i : Int} {t : Tok} (F : Fm g b L l fs s) (h : ∀ t s', Fm g b L l fs s' → Q (.int (if i < 0 then -i else i) t) s') : wpAny (model prog w) A (call (.builtin "abs") [.int i t]) Q E s :=
  call_abs_int fun u tk => h _ _ F.toks
theorem u_chr {i : Int} {t : Tok} (h0 : 0 ≤ i) (h1 : i ≤ 1114111) (F : Fm g b L l fs s) (h : ∀ t s', Fm g b L l fs s' → Q (.str ⟨#[i.toNat]⟩ t) s') : wpAny (model prog w) A (call (.builtin "chr") [.int i t]) Q E s :=
  chr_of_range h0 h1 (h _ _ F.toks)
theorem u_sum {a : Addr} {vs : List Value} {ns : List Int} (hh : A.handled = none) (F : Fm g b L l fs s) (hl : s.heap.IsList a vs.toArray) (hi : IntsAre vs ns) (h : ∀ t s', Fm g b L l fs s' → Q (.int ns.sum t) s') : wpAny (model prog w) A (call (.builtin "sum") [.ref a]) Q E s := by
  refine call_sum_walkG ?_
  obtain ⟨o, ho, r⟩ := id hl
  have hne : a ≠ s.heap.objs.size := Nat.ne_of_lt (Heap.lt_size ho)
  refine wpAny_pyIter_list hl ⟨_, _, _, _, _, _, fun i => ns.getD i 0, rfl, Walks.list (A := A.in1) hh s.heap.objs.size a hne vs.toArray, ⟨⟨_, Heap.get?_push_size _ rfl, rfl, rfl⟩, hl.at fun o e => Heap.get?_push_of_some _ e⟩, fun y hy => ?_, fun i v hv => ?_, fun h' tk t' hk => ?_⟩
  · show y < (s.heap.push _).objs.size
    rw [Heap.size_push]
    rcases List.mem_cons.mp hy with rfl | hy
    · exact Nat.lt_succ_self _
    · rw [List.mem_singleton.mp hy]; exact Nat.lt_succ_of_lt (Heap.lt_size ho)
  · have hv' : vs[i]? = some v := by simpa using hv
    obtain ⟨t, e⟩ := hi.int_at i v hv'
    exact ⟨t, by simpa using e⟩
  · have e : preSum (fun i => ns.getD i 0) vs.toArray.size = ns.sum := by
      rw [List.size_toArray, hi.length, preSum_take ns _ (Nat.le_refl _), List.take_length]
    rw [e]
    refine h _ _ (F.keep fun b o e => hk b o ?_ (Heap.get?_push_of_some _ e))
    exact fun hm => absurd (Heap.lt_size e) (by rw [List.mem_singleton.mp hm]; exact Nat.lt_irrefl _)
theorem r_range2 {i n : Int} {t u : Tok} (F : Fm g b L l fs s)
    (h : ∀ r s' t u v, IsRange s'.heap r i n 1 t u v → Fm g b L l fs s' → Q (.ref r) s') : wpAny (model prog w) A (call (.type "range") [.int i t, .int n u]) Q E s :=
  call_range_2 (h _ _ _ _ _ (IsRange.new ..) F.pushQ)
theorem r_range3 {i n c : Int} {t u v : Tok} (hc : c ≠ 0) (hc' : c.natAbs < 100) (F : Fm g b L l fs s)
    (h : ∀ r s' t u v, IsRange s'.heap r i n c t u v → Fm g b L l fs s' → Q (.ref r) s') : wpAny (model prog w) A (call (.type "range") [.int i t, .int n u, .int c v]) Q E s := by
  obtain ⟨m, F1, N1, hm⟩ := F.fr
  exact range3_rows F1 N1 hc (fun h' tk t₁ u₁ v₁ hr F' N' _ => h _ _ _ _ _ hr (F.ofFr0 hm F' N')) (.inl (PyProof.noPylong_small (by omega)))
theorem j_eq {i j : Int} {t u : Tok} {Q : Value → Shared → Prop} (h : Q (.bool (i == j)) s) : wpAny (model prog w) A (compareOp .Eq (.int i t) (.int j u)) Q E s := P.eq_int h
theorem j_lt {i j : Int} {t u : Tok} {Q : Value → Shared → Prop} (h : Q (.bool (decide (i < j))) s) : wpAny (model prog w) A (compareOp .Lt (.int i t) (.int j u)) Q E s := P.lt_int h
theorem j_le {i j : Int} {t u : Tok} {Q : Value → Shared → Prop} (h : Q (.bool (decide (i ≤ j))) s) : wpAny (model prog w) A (compareOp .LtE (.int i t) (.int j u)) Q E s := P.le_int h
theorem j_ge {i j : Int} {t u : Tok} {Q : Value → Shared → Prop} (h : Q (.bool (decide (i ≥ j))) s) : wpAny (model prog w) A (compareOp .GtE (.int i t) (.int j u)) Q E s := P.ge_int h
theorem j_tr {c : Bool} {Q : Bool → Shared → Prop} (h : Q c s) : wpAny (model prog w) A (truthy (.bool c)) Q E s := wpAny_truthy_bool h
theorem i_cmp {lx r : Expr} {op : CmpOp} {whole : Sem Value} {Q : Bool → Shared → Prop} (hm : behindInMarks op r = false)
    (h : wpAny (model prog w) A (eval lx env) (fun x s₁ => wpAny (model prog w) A (eval r env) (fun y s₂ => wpAny (model prog w) A (compareOp op x y) (fun c s₃ => wpAny (model prog w) A (truthy c) Q E s₃) E s₂) E s₁) E s) :
    wpAny (model prog w) A (isTrue (.Compare lx [op] [r] pos) env whole) Q E s := wpAny_isTrue_Compare1 h hm
theorem e_cmp {lx r : Expr} {op : CmpOp} (hm : behindInMarks op r = false)
    (h : wpAny (model prog w) A (eval lx env) (fun x s₁ => wpAny (model prog w) A (eval r env) (fun y s₂ => wpAny (model prog w) A (compareOp op x y) Q E s₂) E s₁) E s) :
    wpAny (model prog w) A (eval (.Compare lx [op] [r] pos) env) Q E s := wpAny_Compare1 h hm

theorem IsT {a : Addr} {its : Array Value} (F : Fm g b L l fs s) (h : (a, tupOf its) ∈ fs) : s.heap.IsTuple a its := ⟨_, (F.own _ h).1.1, rfl, 0, rfl⟩
theorem unp2 {a : Addr} {v1 v2 : Value} {K : List Value → Shared → Prop} (hh : A.handled = none) (F : Fm g b L l fs s) (ht : s.heap.IsTuple a #[v1, v2]) (h : ∀ s', Fm g b L l fs s' → K [v1, v2] s') : wpAny (model prog w) A (unpackItems (.ref a) 2 none) K E s :=
  show wpAny (model prog w) A (unpackItems (.ref a) (#[v1, v2] : Array Value).size none) K E s from
  wpAny_unpackItems_tuple hh ht fun h' hk => h _ (F.keep (n := s.toks) fun b o e => hk b o (Nat.ne_of_lt (Heap.lt_size e)) e)
theorem ao_nil {K : Unit → Shared → Prop} {ts : List (Value → Sem Unit)} (h : K () s) : wpAny (model prog w) A (assignInOrder ts []) K E s := by
  cases ts <;> exact wpAny_pure h
theorem ao_name {x : Str} {ts : List (Value → Sem Unit)} {v : Value} {vs : List Value} {K : Unit → Shared → Prop} (h : wpAny (model prog w) A (storeName env x v) (fun _ s₁ => wpAny (model prog w) A (assignInOrder ts vs) K E s₁) E s) :
    wpAny (model prog w) A (assignInOrder ((fun v => bindName env x v) :: ts) (v :: vs)) K E s := wpAny_bind (wpAny_holding (wpAny_bindName h))
theorem ao_asg {x : Str} {px : Pos} {ts : List (Value → Sem Unit)} {v : Value} {vs : List Value} {K : Unit → Shared → Prop} (h : wpAny (model prog w) A (storeName env x v) (fun _ s₁ => wpAny (model prog w) A (assignInOrder ts vs) K E s₁) E s) :
    wpAny (model prog w) A (assignInOrder (assign (.Name x px) env :: ts) (v :: vs)) K E s := wpAny_bind (wpAny_holding (wpAny_assign_Name h))
/-- a, b = (.., ..) with the stores from behind -/
theorem x_tup2S {x y : Str} {px py tp : Pos} {k : Nat} {value : Expr} {Q : Flow → Shared → Prop} (hs : swapsWithSole [.Tuple [.Name x px, .Name y py] k tp] value pos.line env = pure false) (hw : swappedStores [.Tuple [.Name x px, .Name y py] k tp] value env = pure (some [x, y]))
    (h : wpAny (model prog w) A (eval value env) (fun v s₁ => wpAny (model prog w) A (unpackItems v 2 none) (fun items s₂ => wpAny (model prog w) A (assignInOrder [fun v => bindName env y v, fun v => bindName env x v] items.reverse) (fun _ => Q .next) E s₂) E s₁) E s) :
    wpAny (model prog w) A (exec (.Assign [.Tuple [.Name x px, .Name y py] k tp] value pos) env) Q E s := Assign_Tuple_swapped (names := [x, y]) h hs hw
/-- a, b = .. -/
theorem x_tup2 {x y : Str} {px py tp : Pos} {k : Nat} {value : Expr} {Q : Flow → Shared → Prop} (hs : swapsWithSole [.Tuple [.Name x px, .Name y py] k tp] value pos.line env = pure false) (hw : swappedStores [.Tuple [.Name x px, .Name y py] k tp] value env = pure none)
    (h : wpAny (model prog w) A (eval value env) (fun v s₁ => wpAny (model prog w) A (unpackItems v 2 none) (fun items s₂ => wpAny (model prog w) A (assignInOrder [assign (.Name x px) env, assign (.Name y py) env] items) (fun _ => Q .next) E s₂) E s₁) E s) :
    wpAny (model prog w) A (exec (.Assign [.Tuple [.Name x px, .Name y py] k tp] value pos) env) Q E s := by
  refine Assign_Tuple (wpAny_mono h (fun v s₁ h₁ => ?_) fun _ _ e => e) hs hw
  rw [arm_assign_Tuple]
  refine wpAny_bind (wpAny_standAt ?_)
  have e : unpack v (assignEach [.Name x px, .Name y py] env) = (holding [v] (unpackItems v 2 none) >>= fun items => assignInOrder [assign (.Name x px) env, assign (.Name y py) env] items) := by
    unfold unpack
    have e1 : assignEach [.Name x px, .Name y py] env = [(false, assign (.Name x px) env), (false, assign (.Name y py) env)] := rfl
    rw [e1]
    rfl
  rw [e]
  exact wpAny_bind (wpAny_holding h₁)
end
end Mine
/- MG -/
namespace Mine
open PyProof.Rows PySem PySem.W

/-- a cell that holds v -/
abbrev setC (o : Obj) (v : Value) : Obj := { o with data := .cell (some v) }
def SublF (m : Str → Option Value) : List (Str × Value) → Prop
  | [] => True
  | (k, v) :: r => m k = some v ∧ SublF m r
theorem SublF.get {m : Str → Option Value} : ∀ {l' : List (Str × Value)}, SublF m l' → ∀ x v, l'.lookup x = some v → m x = some v
  | [], _, _, _, e => by cases e
  | (k, u) :: r, ⟨h1, h2⟩, x, v, e => by
    rw [List.lookup_cons] at e
    cases hb : x == k with
    | true => rw [hb] at e; cases e; rw [eq_of_beq hb]; exact h1
    | false => rw [hb] at e; exact h2.get x v e
theorem lookup_nodup {α : Type} : ∀ {cs : List (Str × α)}, (cs.map (·.1)).Nodup → ∀ {n : Str} {c : α}, (n, c) ∈ cs → cs.lookup n = some c
  | (m, d) :: r, h, n, c, hm => by
    rw [List.map_cons, List.nodup_cons] at h
    rw [List.lookup_cons]
    rcases List.mem_cons.mp hm with e | hm
    · cases e; rw [beq_self_eq_true]
    · have : (n == m) = false := beq_eq_false_iff_ne.mpr fun q => h.1 (q ▸ List.mem_map_of_mem (f := (·.1)) hm)
      rw [this]; exact lookup_nodup h.2 hm
def CellsL (s : Shared) (cm : Str → Option Value) : List (Str × Addr) → List (Addr × Obj) → Prop
  | [], fs => fs = []
  | (n, c) :: r, fs => ∃ o fs', fs = (c, o) :: fs' ∧ o.data = .cell (cm n) ∧ s.heap.get? c = some o ∧ CellsL s cm r fs'
theorem cellsL_of {s₀ s : Shared} {L : Addr} {m cm : Str → Option Value} {cs : List (Str × Addr)} (h : InCallC s₀ L m cs cm s) : ∀ {cs' : List (Str × Addr)}, (∀ n c, (n, c) ∈ cs' → cs.lookup n = some c) → ∃ fs, CellsL s cm cs' fs
  | [], _ => ⟨[], rfl⟩
  | (n, c) :: r, hs => by
    obtain ⟨o, ho, hd⟩ := h.cell n c (hs n c (.head _))
    obtain ⟨fs, hf⟩ := cellsL_of h (cs' := r) fun n c hm => hs n c (.tail _ hm)
    exact ⟨(c, o) :: fs, o, fs, rfl, hd, ho, hf⟩
theorem CellsL.mem {s : Shared} {cm : Str → Option Value} : ∀ {cs : List (Str × Addr)} {fs : List (Addr × Obj)}, CellsL s cm cs fs → ∀ p ∈ fs, s.heap.get? p.1 = some p.2 ∧ (∃ n, (n, p.1) ∈ cs)
  | [], _, h, p, hp => by rw [h] at hp; cases hp
  | (n, c) :: r, fs, ⟨o, fs', h1, _, h3, h4⟩, p, hp => by
    subst h1
    rcases List.mem_cons.mp hp with rfl | hp
    · exact ⟨h3, n, .head _⟩
    · obtain ⟨a, n', b⟩ := h4.mem p hp
      exact ⟨a, n', .tail _ b⟩

section
variable {prog : Program} {w : World} {g : Heap} {A : Around} {b s : Shared} {l : List (Str × Value)} {fs : List (Addr × Obj)} {env : Env} {L : Addr} {pos : Pos} {Q : Value → Shared → Prop} {E : Value → Shared → Prop}

theorem enterC (G : Gs w g) (kg : Kg g s.heap) (td : Td s.heap) (gb : g.objs.size ≤ s.heap.objs.size) {d : Nat} (r : Room (d + 1) A) {a : Addr} {oc : Value} {od : Option Addr} {osl : Array (Option Value)} {fd : FuncData} {body : List Stmt} {args : List Value} {binds : List (Str × Value)} {Q : Value → Shared → Prop}
    (ho : (KF w).lookup a = some ⟨oc, od, .func fd, osl⟩) (hcd : codeIn (KF w) fd.code fd.qualname = true) (hbody : fd.body = .stmts body) (hbind : bindArgs fd ⟨args, []⟩ = pure binds) (hclo : fd.closure = [])
    (hkind : (binds.all fun y => fd.scope.names.lookup y.1 == some .local || fd.scope.names.lookup y.1 == some .cell) = true)
    (l : List (Str × Value)) (hl : ∀ L, SublF (bindL (callEnvC fd L a).kindOf binds fun _ => none) l)
    (cs : Addr → List (Str × Addr)) (hcs : ∀ L, cellsFrom (L + 1) fd.scope.names [] = cs L) (names : List Str) (hnm : ∀ L, (cs L).map (·.1) = names) (hnd : names.Nodup)
    (h : ∀ L s' fs, Fm g s L l fs s' → CellsL s' (bindC (callEnvC fd L a).kindOf binds fun _ => none) (cs L) fs → Room d (A.deeper (callEnvC fd L a)) →
      wpAny (model prog w) (A.deeper (callEnvC fd L a)) (execs body (callEnvC fd L a)) (fun f s'' => Q (match f with | .ret v => v | _ => .none) s'') NoE s')
    (hco : fd.scope.isCoroutine = false) (hgen : fd.scope.isGenerator = false) (hk : fd.scope.kind = .function) :
    wpAny (model prog w) A (call (.ref a) args) Q NoE s := by
  have X := G.K.keeps kg
  refine wpAny_call (codeAny_call_cells (fd := fd) (body := body) (binds := binds) (by have := r.dp; omega) (X _ _ ho) rfl (G.nolimit kg) (codeRec_of X hcd) hbody hbind hclo (kindsX hkind _) (fun s₁ hi => ?_) hco hgen hk)
  obtain ⟨⟨⟨h', tk, rfl⟩, hns, hkeep, hfr⟩, hcell, hap, hab⟩ := id hi
  have hcs' : (callEnvC fd s.heap.objs.size a).cells = cs s.heap.objs.size := hcs _
  rw [hcs'] at hi hab
  obtain ⟨fs, hfs⟩ := cellsL_of hi (cs' := cs s.heap.objs.size) (fun n c hm => lookup_nodup (by rw [hnm]; exact hnd) hm)
  refine wpAny_mono (h s.heap.objs.size _ fs ?_ hfs r.deeper) (fun f s' q => q) fun _ _ e => e.elim
  refine ⟨Le.heap hkeep, fun b o e => hkeep b o (kg b o e), td.keeps hkeep, ⟨_, hns, (hl _).get⟩, Nat.le_refl _, td.lt, gb, fun p hp => ?_⟩
  obtain ⟨h1, n, h2⟩ := hfs.mem p hp
  have hlt : s.heap.objs.size < p.1 := hab n p.1 h2
  exact ⟨⟨h1, ne2 (Nat.lt_trans td.lt hlt)⟩, Nat.ne_of_gt hlt⟩

theorem n_ldc {x : Str} {v : Value} {c : Addr} {o : Obj} (F : Fm g b L l fs s) (pe : PlainEnv env L) (hl : env.kindOf x = some .cell) (hc : env.cells.lookup x = some c) (hm : (c, setC o v) ∈ fs) (h : Q v s) (hd : (x == ("__debug__" : Str)) = false) :
    wpAny (model prog w) A (eval (.Name x pos) env) Q E s := wpAny_Name (wpAny_loadName_cell pe.k hl hc ⟨_, (F.own _ hm).1.1, rfl⟩ h) hd
theorem n_ldf {x : Str} {v : Value} {c : Addr} {o : Obj} (F : Fm g b L l fs s) (pe : PlainEnv env L) (hl : env.kindOf x = some .free) (hc : env.cells.lookup x = some c) (hm : (c, setC o v) ∈ fs) (h : Q v s) (hd : (x == ("__debug__" : Str)) = false) (hcd : (x == ("__classdict__" : Str)) = false) :
    wpAny (model prog w) A (eval (.Name x pos) env) Q E s := wpAny_Name (wpAny_loadName_free pe.k hl hc ⟨_, (F.own _ hm).1.1, rfl⟩ h hcd) hd
theorem Fm.upd {h' : Heap} {n : Nat} {a : Addr} {o o' : Obj} {fs' : List (Addr × Obj)} (F : Fm g b L l fs s) (U : Upd a o o' fs fs') (hn : NP o) (hnew : b.heap.objs.size ≤ a) (ho : h'.get? a = some o') (k : Heap.SameBut a s.heap h') :
    Fm g b L l fs' { s with heap := h', toks := n } := by
  obtain ⟨pre, post, rfl, rfl, h1, h2⟩ := U.split
  have F1 : Fm g b L l ((a, o) :: (pre ++ post)) s := F.sub fun p hp => by
    rcases List.mem_cons.mp hp with rfl | hp
    · exact List.mem_append_right _ (.head _)
    rcases List.mem_append.mp hp with hp | hp
    · exact List.mem_append_left _ hp
    · exact List.mem_append_right _ (.tail _ hp)
  have F2 := F1.chg (n := n) hn hnew ho k (fun p hp => (List.mem_append.mp hp).elim (h1 p) (h2 p))
  refine F2.sub fun p hp => ?_
  rcases List.mem_append.mp hp with hp | hp
  · exact .tail _ (List.mem_append_left _ hp)
  rcases List.mem_cons.mp hp with rfl | hp
  · exact .head _
  · exact .tail _ (List.mem_append_right _ hp)
theorem n_stc {x : Str} {v : Value} {c : Addr} {o : Obj} {v₀ : Option Value} {fs' : List (Addr × Obj)} {Q : Unit → Shared → Prop} (F : Fm g b L l fs s) (pe : PlainEnv env L) (hl : env.kindOf x = some .cell) (hc : env.cells.lookup x = some c)
    (ho : o.data = .cell v₀) (hLc : b.heap.objs.size ≤ c) (U : Upd c o (setC o v) fs fs') (h : ∀ s', Fm g b L l fs' s' → Q () s') : wpAny (model prog w) A (storeName env x v) Q E s := by
  have hm : (c, o) ∈ fs := by obtain ⟨pre, post, rfl, _⟩ := U.split; exact List.mem_append_right _ (.head _)
  unfold storeName
  simp only [hl, pe.k]
  refine wpAny_bind (wpAny_cellOf hc ?_)
  unfold cellSet
  refine wpAny_bind (wpAny_load (F.own _ hm).1.1 ?_)
  rw [ho]
  exact wpAny_update (F.own _ hm).1.1 (h _ (F.upd (n := s.toks) U (NP.cell ho) hLc (Heap.get?_update_self _ (F.own _ hm).1.1 rfl) (Heap.SameBut.update ..)))
end
end Mine
/- MH -/
namespace Mine
open PyProof.Rows PySem PySem.W
section
variable {prog : Program} {w : World} {g : Heap} {A : Around} {b s : Shared} {l : List (Str × Value)} {fs : List (Addr × Obj)} {env : Env} {L : Addr} {pos : Pos} {Q : Value → Shared → Prop} {E : Value → Shared → Prop}

theorem k_bi1 {T : String} {v : Value} {es : List Expr} (hs : (es.all fun e => !isStarred e) = true) (h : argsW (model prog w) A env E es (fun vs s₁ => wpAny (model prog w) A (call (.builtin T) (v :: vs)) Q E s₁) s) :
    wpAny (model prog w) A (callWith pos (.builtin T) [v] (backTo pos (starEach es env)) []) Q E s := k_bi hs h
theorem backTo_all {es : List Expr} (hs : (es.all fun e => !isStarred e) = true) : (backTo pos (starEach es env)).all (fun x => !x.1) = true := by
  have h := backTo_plain (pos := pos) (env := env) hs
  rw [List.all_eq_true]
  intro x hx
  have := List.any_eq_false.mp h x hx
  simpa using this
theorem m_meth {o : Expr} {name : Str} {apos : Pos} {es : List Expr} {T id : String} (hb : attributeBase o name env (eval o env) = eval o env) (hs : (es.all fun e => !isStarred e) = true) (hn : es.length < 20) (hline : (apos.endLine == pos.line) = true)
    (pa : PlainAttrs T) (slot : Slot T name id) (hty : typeOf (.builtin id) = pure (.type "method_descriptor"))
    (h : wpAny (model prog w) A (eval o env) (fun ov s₁ => s₁.TypeIs ov T ∧ (∀ a, ov = .ref a → ∃ ob, s₁.heap.get? a = some ob ∧ ob.dict = none) ∧ argsW (model prog w) A env E es (fun vs s₂ => wpAny (model prog w) A (call (.builtin id) (ov :: vs)) Q E s₂) s₁) E s) :
    wpAny (model prog w) A (eval (.Call (.Attribute o name apos) es [] pos) env) Q E s := by
  refine wpAny_Call_method hb ?_ hline pa slot hty (wpAny_mono h (fun ov s₁ h₁ => ⟨h₁.1, h₁.2.1, k_bi1 hs h₁.2.2⟩) fun _ _ e => e)
  rw [backTo_all hs]
  simp [keywordEach, backToKw]
  omega
theorem x_expr {e : Expr} {Q : Flow → Shared → Prop} (hi : interactive env = false) (hs : swapsWith e none pos.line env = pure false) (h : wpAny (model prog w) A (eval e env) (fun v s' => v = .none ∧ Q .next s') E s) : wpAny (model prog w) A (exec (.Expr e pos) env) Q E s :=
  wpAny_Expr (wpAny_mono h (fun v s' h => by obtain ⟨rfl, h⟩ := h; exact h) fun _ _ e => e) hi hs
theorem x_asub {o i : Expr} {pos' : Pos} {value : Expr} {Q : Flow → Shared → Prop} (hs : swapsWith value (some (.Subscript o i pos')) pos.line env = pure false)
    (h : wpAny (model prog w) A (eval value env) (fun v s₁ => wpAny (model prog w) A (eval o env) (fun ov s₂ => wpAny (model prog w) A (eval i env) (fun iv s₃ => wpAny (model prog w) A (setItem ov iv v) (fun _ => Q .next) E s₃) E s₂) E s₁) E s) :
    wpAny (model prog w) A (exec (.Assign [.Subscript o i pos'] value pos) env) Q E s := wpAny_Assign_Subscript h hs
theorem o_adds {x y : Str} {t u : Tok} (F : Fm g b L l fs s) (hsz : x.cps.size + y.cps.size ≤ sizeLine) (h : ∀ t s', Fm g b L l fs s' → Q (.str (x ++ y) t) s') : wpAny (model prog w) A (binaryOp .Add (.str x t) (.str y u)) Q E s :=
  PyProof.Rows.add_str (fun t' tk => h _ _ F.toks) hsz
/-- list.append on an own list -/
theorem u_append {a : Addr} {vs : List Value} {k : Nat} {v : Value} {fs' : Nat → List (Addr × Obj)} (F : Fm g b L l fs s) (hnew : b.heap.objs.size ≤ a) (hsz : vs.length ≤ sizeLine) (hm : (a, listOf vs.toArray k) ∈ fs)
    (U : ∀ k', Upd a (listOf vs.toArray k) (listOf (vs ++ [v]).toArray k') fs (fs' k')) (h : ∀ k' s', Fm g b L l (fs' k') s' → Q .none s') : wpAny (model prog w) A (call (.builtin "list.append") [.ref a, v]) Q E s := by
  refine wpAny_list_append_plain (hsz := by rw [List.size_toArray]; exact hsz) ⟨k, (F.own _ hm).1.1⟩ fun h' hl hs => ?_
  obtain ⟨k', hl⟩ := hl
  have e : vs.toArray.push v = (vs ++ [v]).toArray := by simp
  rw [e] at hl
  exact h k' _ (F.upd (n := s.toks) (U k') (NP.seq rfl) hnew hl hs)
theorem set_last {a : Addr} {items : Array Value} {k : Nat} {t : Tok} {v : Value} {K : Unit → Shared → Prop} (ho : s.heap.get? a = some (listOf items k)) (hn : 0 < items.size)
    (h : ∀ h', h'.get? a = some (listOf (items.setIfInBounds (items.size - 1) v) k) → Heap.SameBut a s.heap h' → K () { s with heap := h' }) : wpAny (model prog w) A (setItem (.ref a) (.int (-1) t) v) K E s := by
  have hl : s.heap.IsList a items := ⟨_, ho, rfl, k, rfl⟩
  have hlt : items.size - 1 < items.size := by omega
  have hidx : seqIndex? (-1) items.size = some (items.size - 1) := by
    rw [seqIndex_neg (by decide) (by omega)]; congr 1; omega
  have hx : items[items.size - 1]? = some items[items.size - 1] := Array.getElem?_eq_getElem hlt
  unfold setItem
  try with_reducible refine wpAny_holding ?_
  first | refine wpAny_bind (wpAny_pure ?_) | skip
  refine wpAny_bind (wpAny_sequenceKey hl.typeIs (by decide) ?_)
  refine wpAny_bind (wpAny_callSpecial?_slot (name := Str.ofString "__setitem__") hl.typeIs slot_list_setitem (wpAny_call_entry slot_list_setitem hl.typeIs entry_list_setitem ?_ (args_list_setitem _ _ _)))
  show wpAny _ _ (Builtin.List.listSubscript? (.int (-1) t) >>= _) _ _ s
  refine wpAny_bind (wpAny_listSubscript_int (fitsIndex_neg (by decide) (by decide)) ?_)
  show wpAny _ _ ((Builtin.List.listItems (.ref a) >>= fun xs => pure ((seqIndex? (-1) xs.size).bind fun i => xs[i]?.map (i, ·))) >>= _) _ _ s
  refine wpAny_bind (wpAny_bind ?_)
  show wpAny _ _ (seqItems? (.ref a) >>= _) _ _ s
  refine wpAny_bind (wpAny_seqItems ho rfl (wpAny_pure (wpAny_pure ?_)))
  rw [hidx]
  simp only [Option.bind_some, hx, Option.map_some]
  have hfin : (s.heap.update a (Obj.mapSeq (·.setIfInBounds (items.size - 1) v))).get? a = some (listOf (items.setIfInBounds (items.size - 1) v) k) := by
    refine (Heap.get?_update_self _ ho rfl).trans ?_
    simp [Obj.mapSeq]
  refine wpAny_bind (wpAny_setSeqItemAt ho rfl ?_)
  first
    | exact wpAny_bind (wpAny_pure (wpAny_pure ⟨.none, rfl, wpAny_pure (h _ hfin (Heap.SameBut.update ..))⟩))
    | exact wpAny_pure ⟨.none, rfl, wpAny_pure (h _ hfin (Heap.SameBut.update ..))⟩
theorem t_list {value slice : Expr} {a : Addr} {its : Array Value} {k : Int} {u : Tok} {v : Value} (hs : subscripted slice false (.ref a) (.int k u) = operate [.ref a, .int k u] (getItem (.ref a) (.int k u))) (hl : s.heap.IsList a its) (h0 : 0 ≤ k) (hk : k < 2 ^ 60) (hx : its[k.toNat]? = some v) (h : Q v s) :
    wpAny (model prog w) A (subscriptTail value slice (.ref a) (.int k u)) Q E s := tail_any hl.typeIs slot_list_getitem.lookup (wpAny_getItem_list hl h0 (by omega) hx h) hs
theorem t_last {value slice : Expr} {a : Addr} {its : Array Value} {u : Tok} {v : Value} (hs : subscripted slice false (.ref a) (.int (-1) u) = operate [.ref a, .int (-1) u] (getItem (.ref a) (.int (-1) u))) (hl : s.heap.IsList a its) (hx : its[its.size - 1]? = some v) (h : Q v s) :
    wpAny (model prog w) A (subscriptTail value slice (.ref a) (.int (-1) u)) Q E s := by
  have h0 : 0 < its.size := by
    rcases Nat.eq_zero_or_pos its.size with e | e
    · rw [e] at hx; simp [e] at hx
    · exact e
  refine tail_any hl.typeIs slot_list_getitem.lookup (wpAny_getItem_list_neg hl (by decide) (by omega) (by decide) ?_ h) hs
  rw [show ((-1 : Int) + (its.size : Int)).toNat = its.size - 1 from by omega]; exact hx
theorem t_listE {value slice : Expr} {a : Addr} {its : Array Value} {k : Int} {u : Tok} {y : Str} (hs : subscripted slice false (.ref a) (.int k u) = operate [.ref a, .int k u] (getItem (.ref a) (.int k u))) (hl : s.heap.IsList a its) (h0 : 0 ≤ k) (hk : k < 2 ^ 60) (hx : ∃ t, its[k.toNat]? = some (.str y t)) (h : ∀ t, Q (.str y t) s) :
    wpAny (model prog w) A (subscriptTail value slice (.ref a) (.int k u)) Q E s := let ⟨_, hx⟩ := hx; t_list hs hl h0 hk hx (h _)
end
end Mine
/- MK -/
namespace Mine

theorem testBit_div2 (n i : Nat) : n / 2 ^ i % 2 = (n.testBit i).toNat := by
  rw [Nat.testBit_eq_decide_div_mod_eq]
  rcases Nat.mod_two_eq_zero_or_one (n / 2 ^ i) with h | h <;> rw [h] <;> rfl

/-- the bits of x below j, the lowest first -/
def hor (x : Nat) : Nat → Nat
  | 0 => 0
  | j + 1 => 2 * hor x j + x / 2 ^ j % 2
theorem hor_testBit (x : Nat) : ∀ j i, (hor x j).testBit i = (decide (i < j) && x.testBit (j - 1 - i))
  | 0, i => by simp [hor]
  | j + 1, 0 => by
    rw [hor, testBit_div2, Nat.testBit_zero]
    have e : (2 * hor x j + (x.testBit j).toNat) % 2 = (x.testBit j).toNat := by
      have : (x.testBit j).toNat < 2 := by cases x.testBit j <;> decide
      omega
    rw [e]
    cases h : x.testBit j <;> simp [h]
  | j + 1, i + 1 => by
    rw [hor, Nat.testBit_succ, show (2 * hor x j + x / 2 ^ j % 2) / 2 = hor x j from by omega, hor_testBit x j i]
    rw [show j + 1 - 1 - (i + 1) = j - 1 - i from by omega]
    simp
theorem hor_lt (x : Nat) : ∀ j, hor x j < 2 ^ j
  | 0 => by simp [hor]
  | j + 1 => by have := hor_lt x j; rw [hor, Nat.pow_succ]; omega
theorem hor_eq {x y : Nat} (j : Nat) (h : ∀ i, i < j → x.testBit i = y.testBit i) : hor x j = hor y j := by
  refine Nat.eq_of_testBit_eq fun i => ?_
  rw [hor_testBit, hor_testBit]
  by_cases hi : i < j
  · rw [h (j - 1 - i) (by omega)]
  · simp [hi]
theorem hor_add (x a : Nat) : ∀ b, hor x (a + b) = hor x a * 2 ^ b + hor (x / 2 ^ a) b
  | 0 => by simp [hor]
  | b + 1 => by
    rw [← Nat.add_assoc, hor, hor_add x a b, hor, Nat.pow_succ, Nat.div_div_eq_div_mul, ← Nat.pow_add]
    have : hor x a * (2 ^ b * 2) = 2 * (hor x a * 2 ^ b) := by ac_rfl
    rw [this]
    generalize hor x a * 2 ^ b = p
    generalize x / 2 ^ (a + b) % 2 = q
    omega
theorem hor_hor (x : Nat) (h : x < 2 ^ 32) : hor (hor x 32) 32 = x := by
  refine Nat.eq_of_testBit_eq fun i => ?_
  rw [hor_testBit, hor_testBit]
  by_cases hi : i < 32
  · simp [hi, show 31 - i < 32 from by omega, show 31 - (31 - i) = i from by omega]
  · have : x.testBit i = false := Nat.testBit_lt_two_pow (Nat.lt_of_lt_of_le h (Nat.pow_le_pow_right (by decide) (by omega)))
    simp [hi, this]

/-- little end first -/
def leN : List Nat → Nat
  | [] => 0
  | c :: r => c + 256 * leN r
theorem leN_lt : ∀ ws : List Nat, (∀ c ∈ ws, c < 256) → leN ws < 2 ^ (8 * ws.length)
  | [], _ => by simp [leN]
  | c :: r, h => by
    have h1 := leN_lt r fun d hd => h d (.tail _ hd)
    have h2 := h c (.head _)
    have : 2 ^ (8 * (c :: r).length) = 256 * 2 ^ (8 * r.length) := by
      rw [List.length_cons, Nat.mul_add, Nat.pow_add]; omega
    rw [this, leN]; omega
theorem leN_snoc (c : Nat) : ∀ ws : List Nat, leN (ws ++ [c]) = leN ws + c * 2 ^ (8 * ws.length)
  | [] => by simp [leN]
  | d :: r => by
    have : 2 ^ (8 * (d :: r).length) = 256 * 2 ^ (8 * r.length) := by
      rw [List.length_cons, Nat.mul_add, Nat.pow_add]; omega
    rw [List.cons_append, leN, leN_snoc c r, leN, this, Nat.mul_add]
    have : 256 * (c * 2 ^ (8 * r.length)) = c * (256 * 2 ^ (8 * r.length)) := by ac_rfl
    omega
theorem xor_add256 (c m : Nat) (hc : c < 256) : c ^^^ (m * 2 ^ 8) = c + 256 * m := by
  have h := xor_and_add c (m * 2 ^ 8)
  have h0 : c &&& (m * 2 ^ 8) = 0 := by
    refine Nat.eq_of_testBit_eq fun i => ?_
    rw [Nat.testBit_and, Nat.testBit_mul_two_pow, Nat.zero_testBit]
    by_cases hi : i < 8
    · simp [Nat.not_le.mpr hi]
    · have : c.testBit i = false := Nat.testBit_lt_two_pow (Nat.lt_of_lt_of_le (show c < 2 ^ 8 from hc) (Nat.pow_le_pow_right (by decide) (by omega)))
      simp [this]
  rw [h0] at h
  omega
theorem crcFrom_le : ∀ (ws : List Nat) (t : Nat), (∀ c ∈ ws, c < 256) → crcFrom t ws = stepN (8 * ws.length) (t ^^^ leN ws)
  | [], t, _ => by simp [crcFrom, stepN, leN]
  | c :: r, t, h => by
    have hc := h c (.head _)
    show crcFrom (turn t c) r = _
    rw [crcFrom_le r _ fun d hd => h d (.tail _ hd), turn_eq _ _ hc, List.length_cons, show 8 * (r.length + 1) = 8 * r.length + 8 from by omega, stepN_add, leN, ← xor_add256 c (leN r) hc]
    rw [show t ^^^ (c ^^^ leN r * 2 ^ 8) = (t ^^^ c) ^^^ (leN r * 2 ^ 8) from by ac_rfl, stepN_xor 8 (t ^^^ c) (leN r * 2 ^ 8), stepN_shift]
theorem crc_le (ws : List Nat) (h : ∀ c ∈ ws, c < 256) : crc ws = stepN (8 * ws.length) (leN ws) := by
  rw [crc, crcFrom_le ws 0 h, Nat.zero_xor]

theorem stepC_lt {x : Nat} (h : x < 2 ^ 32) : stepC x < 2 ^ 32 := by
  unfold stepC
  split
  · exact Nat.xor_lt_two_pow (by omega) (by decide)
  · omega
theorem stepN_lt {x : Nat} (h : x < 2 ^ 32) : ∀ n, stepN n x < 2 ^ 32
  | 0 => h
  | n + 1 => stepC_lt (stepN_lt h n)
theorem stepC_inj {x y : Nat} (hx : x < 2 ^ 32) (hy : y < 2 ^ 32) (h : stepC x = stepC y) : x = y := by
  have top : ∀ z, z < 2 ^ 32 → (stepC z).testBit 31 = decide (z % 2 = 1) := fun z hz => by
    have h0 : (z / 2).testBit 31 = false := Nat.testBit_lt_two_pow (by omega)
    unfold stepC
    split
    · rename_i h1
      rw [Nat.testBit_xor, h0, h1, show Nat.testBit 3988292384 31 = true from by decide]; rfl
    · rename_i h1
      rw [h0]; simp [h1]
  have e := top x hx
  rw [h, top y hy] at e
  have e' : (x % 2 = 1) ↔ (y % 2 = 1) := by
    constructor <;> intro q <;> simpa [q] using e
  unfold stepC at h
  by_cases hx1 : x % 2 = 1
  · have hy1 := e'.mp hx1
    rw [if_pos hx1, if_pos hy1] at h
    have h2 : x / 2 = y / 2 := by
      have := congrArg (· ^^^ 3988292384) h
      simpa [Nat.xor_assoc] using this
    omega
  · have hy1 : ¬ y % 2 = 1 := fun q => hx1 (e'.mpr q)
    rw [if_neg hx1, if_neg hy1] at h
    omega
theorem stepN_inj {x y : Nat} (hx : x < 2 ^ 32) (hy : y < 2 ^ 32) : ∀ n, stepN n x = stepN n y → x = y
  | 0, h => h
  | n + 1, h => stepN_inj hx hy n (stepC_inj (stepN_lt hx n) (stepN_lt hy n) h)
theorem leN_inj : ∀ {u v : List Nat}, u.length = v.length → (∀ c ∈ u, c < 256) → (∀ c ∈ v, c < 256) → leN u = leN v → u = v
  | [], [], _, _, _, _ => rfl
  | c :: u, d :: v, hl, hu, hv, h => by
    have hc := hu c (.head _)
    have hd := hv d (.head _)
    simp only [leN] at h
    have e1 : c = d := by omega
    have e2 : leN u = leN v := by omega
    rw [e1, leN_inj (Nat.succ.inj hl) (fun x hx => hu x (.tail _ hx)) (fun x hx => hv x (.tail _ hx)) e2]
/-- up to four signs the sum tells the word -/
theorem crc_inj {u v : List Nat} (hl : u.length = v.length) (h4 : u.length ≤ 4) (hu : ∀ c ∈ u, c < 256) (hv : ∀ c ∈ v, c < 256) (h : crc u = crc v) : u = v := by
  rw [crc_le u hu, crc_le v hv, ← hl] at h
  have b32 : ∀ ws : List Nat, ws.length ≤ 4 → (∀ c ∈ ws, c < 256) → leN ws < 2 ^ 32 := fun ws h h' => Nat.lt_of_lt_of_le (leN_lt ws h') (Nat.pow_le_pow_right (by decide) (by omega))
  exact leN_inj hl hu hv (stepN_inj (b32 u h4 hu) (b32 v (hl ▸ h4) hv) _ h)

/-- one more sign's bits -/
def inner (n c : Nat) : Nat → Nat
  | 0 => n
  | j + 1 => inner n c j * 2 + c / 2 ^ j % 2
theorem inner_hor (n c : Nat) : ∀ j, inner n c j = n * 2 ^ j + hor c j
  | 0 => by simp [inner, hor]
  | j + 1 => by
    rw [inner, inner_hor n c j, hor, Nat.pow_succ]
    have : n * (2 ^ j * 2) = (n * 2 ^ j) * 2 := by ac_rfl
    omega
def wordNum (ws : List Nat) : Nat := ws.foldl (fun n c => inner n c 8) 0
theorem wordNum_snoc (ws : List Nat) (c : Nat) : wordNum (ws ++ [c]) = inner (wordNum ws) c 8 := by
  unfold wordNum; rw [List.foldl_append]; rfl
theorem wordNum_hor (ws : List Nat) (h : ∀ c ∈ ws, c < 256) : wordNum ws = hor (leN ws) (8 * ws.length) := by
  suffices H : ∀ n, n ≤ ws.length → wordNum (ws.take n) = hor (leN (ws.take n)) (8 * n) by
    have := H ws.length (Nat.le_refl _)
    rwa [List.take_length] at this
  intro n
  induction n with
  | zero => intro _; rfl
  | succ n ih =>
    intro hn
    have hn' : n < ws.length := hn
    have e : ws.take (n + 1) = ws.take n ++ [ws[n]] := by rw [List.take_add_one, List.getElem?_eq_getElem hn']; rfl
    have hlen : (ws.take n).length = n := by rw [List.length_take]; omega
    have hlt : leN (ws.take n) < 2 ^ (8 * n) := by
      have := leN_lt (ws.take n) fun c hc => h c (List.mem_of_mem_take hc)
      rwa [hlen] at this
    rw [e, wordNum_snoc, ih (by omega), inner_hor, leN_snoc, hlen, show 8 * (n + 1) = 8 * n + 8 from by omega, hor_add]
    congr 1
    · congr 1
      refine hor_eq _ fun i hi => ?_
      rw [Nat.mul_comm, Nat.add_comm, Nat.testBit_two_pow_mul_add _ hlt]
      simp [hi]
    · congr 1
      rw [Nat.add_mul_div_right _ _ (Nat.two_pow_pos _), Nat.div_eq_of_lt hlt, Nat.zero_add]

/-- one turn of the division -/
def redStep (N k : Nat) : Nat := if N / 2 ^ k % 2 = 1 then N ^^^ (4374732215 * 2 ^ (k - 32)) else N
def red (N sz : Nat) : Nat → Nat
  | 0 => N
  | i + 1 => redStep (red N sz i) (sz - 1 - i)

theorem polyBits : ∀ i, i < 32 → Nat.testBit 4374732215 i = Nat.testBit 3988292384 (31 - i) := by decide
theorem redStep_hor (x m : Nat) (hx : x < 2 ^ 32) : redStep (hor x 32 * 2 ^ (m + 1)) (m + 32) = hor (stepC x) 32 * 2 ^ m := by
  have hb : (hor x 32 * 2 ^ (m + 1)) / 2 ^ (m + 32) % 2 = x % 2 := by
    rw [testBit_div2, Nat.testBit_mul_two_pow, hor_testBit]
    simp only [show m + 1 ≤ m + 32 from by omega, show m + 32 - (m + 1) = 31 from by omega, decide_true, Bool.true_and, show (31 < 32) from by decide, show 32 - 1 - 31 = 0 from rfl]
    rw [Nat.testBit_zero]
    rcases Nat.mod_two_eq_zero_or_one x with p | p <;> rw [p] <;> rfl
  have key : hor x 32 * 2 ^^^ (if x % 2 = 1 then 4374732215 else 0) = hor (stepC x) 32 := by
    refine Nat.eq_of_testBit_eq fun i => ?_
    have hP : (if x % 2 = 1 then 4374732215 else 0 : Nat).testBit i = (decide (x % 2 = 1) && Nat.testBit 4374732215 i) := by
      split <;> simp [*]
    have hC : ∀ j, (stepC x).testBit j = (x.testBit (j + 1) ^^ (decide (x % 2 = 1) && Nat.testBit 3988292384 j)) := fun j => by
      unfold stepC
      split
      · rw [Nat.testBit_xor, Nat.testBit_succ]; simp [*]
      · rw [Nat.testBit_succ]; simp [*]
    rw [Nat.testBit_xor, hP, hor_testBit, hC]
    have hx32 : x.testBit 32 = false := Nat.testBit_lt_two_pow hx
    have h2 : (hor x 32 * 2).testBit i = (decide (1 ≤ i) && (decide (i - 1 < 32) && x.testBit (31 - (i - 1)))) := by
      have := Nat.testBit_mul_two_pow (hor x 32) (i := 1) (j := i)
      rw [Nat.pow_one] at this
      rw [this, hor_testBit]
    rw [h2]
    by_cases h0 : i = 0
    · subst h0
      simp [hx32]
      exact fun _ => by decide
    · by_cases h32 : i < 32
      · rw [polyBits i h32]
        simp [show 1 ≤ i from by omega, show i - 1 < 32 from by omega, h32, show 31 - (i - 1) = 32 - 1 - i + 1 from by omega]
      · by_cases h33 : i = 32
        · subst h33
          simp [Nat.testBit_zero]
          exact fun _ => by decide
        · have hp : Nat.testBit 4374732215 i = false := Nat.testBit_lt_two_pow (Nat.lt_of_lt_of_le (show 4374732215 < 2 ^ 33 from by decide) (Nat.pow_le_pow_right (by decide) (by omega)))
          simp [hp, show ¬ i < 32 from h32, show ¬ i - 1 < 32 from by omega]
  have shl : ∀ a c : Nat, a * 2 ^ m ^^^ c * 2 ^ m = (a ^^^ c) * 2 ^ m := fun a c => by
    refine Nat.eq_of_testBit_eq fun i => ?_
    rw [Nat.testBit_xor, Nat.testBit_mul_two_pow, Nat.testBit_mul_two_pow, Nat.testBit_mul_two_pow, Nat.testBit_xor]
    cases decide (m ≤ i) <;> simp
  have e1 : hor x 32 * 2 ^ (m + 1) = (hor x 32 * 2) * 2 ^ m := by rw [Nat.pow_succ]; ac_rfl
  unfold redStep
  rw [hb, show m + 32 - 32 = m from by omega]
  by_cases h1 : x % 2 = 1
  · rw [if_pos h1, e1, shl]
    rw [if_pos h1] at key
    rw [key]
  · rw [if_neg h1, e1]
    rw [if_neg h1, Nat.xor_zero] at key
    rw [key]
theorem red_hor (x n : Nat) (hx : x < 2 ^ 32) : ∀ i, i ≤ n → red (hor x 32 * 2 ^ n) (n + 32) i = hor (stepN i x) 32 * 2 ^ (n - i)
  | 0, _ => rfl
  | i + 1, h => by
    rw [red, red_hor x n hx i (by omega), show n - i = (n - (i + 1)) + 1 from by omega, show n + 32 - 1 - i = (n - (i + 1)) + 32 from by omega, redStep_hor _ _ (stepN_lt hx i)]
    rfl
/-- the law's own sum of a word is the rolled one -/
theorem known_crc (ws : List Nat) (h : ∀ c ∈ ws, c < 256) (h4 : ws.length ≤ 4) : hor (red (wordNum ws * 2 ^ 32) (8 * ws.length + 32) (8 * ws.length)) 32 = crc ws := by
  have hlt : leN ws < 2 ^ 32 := Nat.lt_of_lt_of_le (leN_lt ws h) (Nat.pow_le_pow_right (by decide) (by omega))
  have e : wordNum ws * 2 ^ 32 = hor (leN ws) 32 * 2 ^ (8 * ws.length) := by
    have h1 := hor_add (leN ws) (8 * ws.length) (32 - 8 * ws.length)
    rw [show 8 * ws.length + (32 - 8 * ws.length) = 32 from by omega, Nat.div_eq_of_lt (leN_lt ws h)] at h1
    have h0 : ∀ j, hor 0 j = 0 := fun j => by
      induction j with
      | zero => rfl
      | succ j ih => rw [hor, ih]; simp
    rw [h0, Nat.add_zero, ← wordNum_hor ws h] at h1
    rw [h1, Nat.mul_assoc, ← Nat.pow_add, show 32 - 8 * ws.length + 8 * ws.length = 32 from by omega]
  rw [e, red_hor _ _ hlt _ (Nat.le_refl _), Nat.sub_self, Nat.pow_zero, Nat.mul_one, hor_hor _ (stepN_lt hlt _), crc_le ws h]
end Mine
namespace Mine
theorem fdiv_nat (a b : Nat) : ((a : Nat) : Int).fdiv (b : Nat) = ((a / b : Nat) : Int) := by rw [Int.ofNat_fdiv]
theorem fmod_nat (a b : Nat) : ((a : Nat) : Int).fmod (b : Nat) = ((a % b : Nat) : Int) := by rw [Int.ofNat_fmod]
theorem pow_nat (a b : Nat) : ((a : Nat) : Int) ^ ((b : Nat) : Int).toNat = ((a ^ b : Nat) : Int) := by rw [Int.toNat_natCast]; simp
theorem hor_sum (N : Nat) : ∀ m, m ≤ 32 → (((List.range m).map fun j => ((N / 2 ^ j % 2 * 2 ^ (31 - j) : Nat) : Int)).sum) = ((hor N m * 2 ^ (32 - m) : Nat) : Int)
  | 0, _ => by simp [hor]
  | m + 1, h => by
    rw [List.range_succ, List.map_append, List.sum_append, hor_sum N m (by omega), hor]
    have e : 2 ^ (32 - m) = 2 ^ (32 - (m + 1)) * 2 := by rw [← Nat.pow_succ]; congr 1; omega
    rw [e]
    simp only [List.map_cons, List.map_nil, List.sum_cons, List.sum_nil, Int.add_zero]
    rw [show 31 - m = 32 - (m + 1) from by omega]
    rw [← Int.natCast_add]
    congr 1
    generalize 2 ^ (32 - (m + 1)) = p
    generalize N / 2 ^ m % 2 = q
    rw [Nat.add_mul]
    congr 1
    rw [show 2 * hor N m * p = hor N m * (p * 2) from by ac_rfl]
end Mine
/- MP -/
namespace Mine
open PyProof.Rows PySem PySem.W
def signOf (x : Int) : Nat := if x.fmod 4 = 0 then 97 else if x.fmod 4 = 1 then 98 else ((x.fdiv 4).fmod 256).toNat
def pageStep (rows : List (List Nat)) (x : Int) : List (List Nat) := if x.fmod 4 = 3 then rows ++ [[]] else rows.dropLast ++ [rows.getLastD [] ++ [signOf x]]
def page (xs : List Int) : List (List Nat) := xs.foldl pageStep [[]]

/-- values that are texts -/
inductive RowsAre : List Value → List (List Nat) → Prop
  | nil : RowsAre [] []
  | cons (r : List Nat) (t : Tok) {vs rs} : RowsAre vs rs → RowsAre (.str ⟨r.toArray⟩ t :: vs) (r :: rs)
theorem RowsAre.append {vs ws : List Value} {rs qs : List (List Nat)} (h : RowsAre vs rs) (h' : RowsAre ws qs) : RowsAre (vs ++ ws) (rs ++ qs) := by
  induction h with
  | nil => exact h'
  | cons r t _ ih => exact .cons r t ih
theorem RowsAre.length {vs : List Value} {rs : List (List Nat)} (h : RowsAre vs rs) : vs.length = rs.length := by
  induction h with
  | nil => rfl
  | cons r t _ ih => simp [ih]
theorem RowsAre.dropLast {vs : List Value} {rs : List (List Nat)} (h : RowsAre vs rs) : RowsAre vs.dropLast rs.dropLast := by
  induction h with
  | nil => exact .nil
  | @cons r t vs rs h' ih =>
    cases h' with
    | nil => exact .nil
    | cons r' t' h'' => exact .cons r t ih
theorem RowsAre.get {vs : List Value} {rs : List (List Nat)} (h : RowsAre vs rs) : ∀ {i : Nat} {r : List Nat}, rs[i]? = some r → ∃ t, vs[i]? = some (.str ⟨r.toArray⟩ t) := by
  induction h with
  | nil => intro i r e; simp at e
  | @cons r' t vs rs h' ih =>
    intro i r e
    cases i with
    | zero => simp at e; subst e; exact ⟨t, rfl⟩
    | succ i => exact ih (by simpa using e)
theorem RowsAre.last {vs : List Value} {rs : List (List Nat)} (h : RowsAre vs rs) (hne : rs ≠ []) : ∃ t, vs[vs.length - 1]? = some (.str ⟨(rs.getLastD []).toArray⟩ t) := by
  rw [h.length]
  refine h.get ?_
  rw [← List.getLast?_eq_getElem?, List.getLastD_eq_getLast?]
  cases e : rs.getLast? with
  | none => exact absurd (List.getLast?_eq_none_iff.mp e) hne
  | some r => rfl
theorem setLast_eq {α : Type} (vs : List α) (v : α) (hne : vs ≠ []) : (vs.toArray.setIfInBounds (vs.toArray.size - 1) v) = (vs.dropLast ++ [v]).toArray := by
  have h : vs.set (vs.length - 1) v = vs.dropLast ++ [v] := by
    obtain ⟨ys, y, rfl⟩ : ∃ ys y, vs = ys ++ [y] := ⟨vs.dropLast, vs.getLast hne, (List.dropLast_concat_getLast hne).symm⟩
    simp
  rw [List.size_toArray]
  simp [h]
theorem pageStep_ne (rows : List (List Nat)) (x : Int) : pageStep rows x ≠ [] := by
  unfold pageStep; split <;> simp
theorem page_ne (xs : List Int) : page xs ≠ [] := by
  unfold page
  suffices H : ∀ (xs : List Int) (r : List (List Nat)), r ≠ [] → xs.foldl pageStep r ≠ [] from H xs _ (by simp)
  intro xs
  induction xs with
  | nil => intro r h; exact h
  | cons x xs ih => intro r _; exact ih _ (pageStep_ne r x)
theorem page_snoc (xs : List Int) (x : Int) : page (xs ++ [x]) = pageStep (page xs) x := by unfold page; rw [List.foldl_append]; rfl
/-- the page's signs and rows are few -/
theorem page_size (xs : List Int) : (page xs).length ≤ xs.length + 1 ∧ ∀ r ∈ page xs, r.length ≤ xs.length := by
  suffices H : ∀ n, n ≤ xs.length → (page (xs.take n)).length ≤ n + 1 ∧ ∀ r ∈ page (xs.take n), r.length ≤ n by
    have := H xs.length (Nat.le_refl _); rwa [List.take_length] at this
  intro n
  induction n with
  | zero => intro _; exact ⟨by simp [page], by simp [page]⟩
  | succ n ih =>
    intro hn
    obtain ⟨h1, h2⟩ := ih (by omega)
    have e : xs.take (n + 1) = xs.take n ++ [xs[n]] := by rw [List.take_add_one, List.getElem?_eq_getElem (show n < xs.length by omega)]; rfl
    rw [e, page_snoc]
    generalize page (xs.take n) = rows at *
    unfold pageStep
    split
    · refine ⟨by simp; omega, fun r hr => ?_⟩
      rcases List.mem_append.mp hr with hr | hr
      · exact Nat.le_succ_of_le (h2 r hr)
      · rw [List.mem_singleton.mp hr]; simp
    · refine ⟨by simp; omega, fun r hr => ?_⟩
      rcases List.mem_append.mp hr with hr | hr
      · exact Nat.le_succ_of_le (h2 r ((List.dropLast_sublist _).subset hr))
      · rw [List.mem_singleton.mp hr]
        rw [List.length_append, List.length_singleton, List.getLastD_eq_getLast?]
        cases hq : rows.getLast? with
        | none => simp
        | some q => have := h2 q (List.mem_of_getLast? hq); simpa using this
theorem signOf_lt (x : Int) : signOf x < 256 := by
  unfold signOf
  split
  · decide
  split
  · decide
  · have := Int.fmod_lt_of_pos (x.fdiv 4) (show (0 : Int) < 256 by decide)
    have := Int.fmod_nonneg_of_pos (x.fdiv 4) (show (0 : Int) < 256 by decide)
    omega
theorem page_lt (xs : List Int) : ∀ r ∈ page xs, ∀ c ∈ r, c < 256 := by
  suffices H : ∀ (xs : List Int) (rows : List (List Nat)), (∀ r ∈ rows, ∀ c ∈ r, c < 256) → ∀ r ∈ xs.foldl pageStep rows, ∀ c ∈ r, c < 256 from H xs _ (by simp)
  intro xs
  induction xs with
  | nil => intro rows h; exact h
  | cons x xs ih =>
    intro rows h
    refine ih _ fun r hr => ?_
    unfold pageStep at hr
    split at hr
    · rcases List.mem_append.mp hr with hr | hr
      · exact h r hr
      · rw [List.mem_singleton.mp hr]; simp
    · rcases List.mem_append.mp hr with hr | hr
      · exact h r ((List.dropLast_sublist _).subset hr)
      · rw [List.mem_singleton.mp hr]
        intro c hc
        rcases List.mem_append.mp hc with hc | hc
        · rw [List.getLastD_eq_getLast?] at hc
          cases hq : rows.getLast? with
          | none => rw [hq] at hc; cases hc
          | some q => rw [hq] at hc; exact h q (List.mem_of_getLast? hq) c hc
        · rw [List.mem_singleton.mp hc]; exact signOf_lt x
section
variable {w : World} {g : Heap} {b s s' : Shared} {l l' : List (Str × Value)} {fs fs' ns : List (Addr × Obj)} {L L' : Addr}
theorem Fm.base (F : Fm g b L l fs s) {a : Addr} {o : Obj} (h : Pt b.heap a o) : Pt s.heap a o ∧ a ≠ L := ⟨h.kp F.le.kp, Nat.ne_of_lt (Nat.lt_of_lt_of_le (Heap.lt_size h.1) F.nL)⟩
/-- what a callee hands back -/
theorem Fm.ret (G : Gs w g) (F : Fm g b L l fs s) (F' : Fm g s L' l' fs' s') (h : ∀ p ∈ ns, p ∈ fs' ∧ s.heap.objs.size ≤ p.1) : Fm g b L l (ns ++ fs) s' :=
  (F.call G F'.le F'.td).add fun p hp => ⟨(F'.own p (h p hp).1).1, Nat.ne_of_gt (Nat.lt_of_lt_of_le F.Llt (h p hp).2)⟩
theorem Fm.neOf (F : Fm g b L l fs s) {a : Addr} (h : s.heap.objs.size ≤ a) : ∀ p ∈ fs, p.1 ≠ a := F.fresh (Heap.get?_none_of_le h)
end
end Mine
/- F35 -/
namespace Mine
open PyProof.Rows PySem PySem.W
local macro_rules | `(tactic| walk_at "mem") => `(tactic| first | exact List.Mem.head _ | (refine List.Mem.tail _ ?_; walk_at "mem"))
local macro_rules | `(tactic| walk_at "m") => `(tactic| first
  | (with_reducible refine wpAny_execs_cons ?_)
  | (with_reducible refine wpAny_execs_nil ?_)
  | ((with_reducible refine x_assign ?hs ?_); (case hs => rfl))
  | (with_reducible refine wpAny_AugAssign_Name ?_)
  | (with_reducible refine wpAny_If ?_)
  | (with_reducible refine wpAny_Return_some ?_)
  | (with_reducible refine a_cons ?_)
  | (with_reducible refine a_nil ?_)
  | ((with_reducible refine k_type0 ?hs ?_); (case hs => rfl))
  | ((with_reducible refine k_bi0 ?hs ?_); (case hs => rfl))
  | ((with_reducible refine' k_def0 (by assumption) ?hk ?hs ?_); (case hk => rfl); (case hs => rfl))
  | (with_reducible refine wpAny_Call_NameR ?_)
  | (with_reducible refine wpAny_BinOp ?_)
  | (with_reducible refine wpAny_UnaryOp ?_)
  | ((with_reducible refine e_list ?hs ?_); (case hs => rfl))
  | ((with_reducible refine e_tuple ?hs ?_); (case hs => rfl))
  | ((with_reducible refine' e_comp ?hc ?hk ?hn ?hs ?_); (case hc => rfl); (case hk => rfl); (case hn => rfl); (case hs => intro _; rfl))
  | ((with_reducible refine u_ord (by assumption) ?_); intro _ _ _)
  | ((with_reducible refine i_plain ?hs ?_); (case hs => rfl))
  | ((with_reducible refine' n_ld (by assumption) (by assumption) ?h1 ?h2 ?_ ?h3); (case h1 => rfl); (case h2 => rfl); (case h3 => decide))
  | ((with_reducible refine' n_ldn (by assumption) (by assumption) ?h1 ?h2 ?_); (case h1 => rfl); (case h2 => rfl))
  | ((with_reducible refine' n_ldc (by assumption) (by assumption) ?h1 ?h2 ?h4 ?_ ?h3); (case h1 => rfl); (case h2 => rfl); (case h4 => walk_at "mem"); (case h3 => decide))
  | ((with_reducible refine' n_ldf (by assumption) (by assumption) ?h1 ?h2 ?h4 ?_ ?h3 ?h5); (case h1 => rfl); (case h2 => rfl); (case h4 => walk_at "mem"); (case h3 => decide); (case h5 => decide))
  | ((with_reducible refine n_st (by assumption) (by assumption) ?h1 ?_); (case h1 => rfl); intro _ _)
  | (with_reducible refine wpAny_Constant_none ?_)
  | (with_reducible refine wpAny_Break ?_)
  | (with_reducible refine truthy_none ?_)
  | (with_reducible refine wpAny_isTrue_Not ?_)
  | (with_reducible refine wpAny_isTrue_BoolOp ?_)
  | (with_reducible refine wpAny_allTrue_And_cons ?_)
  | (with_reducible refine wpAny_allTrue_And_nil ?_)
  | ((with_reducible refine c_int (by assumption) ?_); intro _ _ _)
  | ((with_reducible refine c_str (by assumption) ?_); intro _ _ _)
  | ((with_reducible refine o_add (by assumption) ?_); intro _ _ _)
  | ((with_reducible refine o_sub (by assumption) ?_); intro _ _ _)
  | ((with_reducible refine o_and (by assumption) ?_); intro _ _ _)
  | ((with_reducible refine o_xor (by assumption) ?_); intro _ _ _)
  | ((with_reducible refine o_shr (by decide) (by assumption) ?_); intro _ _ _)
  | ((with_reducible refine o_ishr (by decide) (by assumption) ?_); intro _ _ _)
  | ((with_reducible refine o_mul (Or.inr (by decide)) (by assumption) ?_); intro _ _ _)
  | ((with_reducible refine o_mul (Or.inl (by decide)) (by assumption) ?_); intro _ _ _)
  | ((with_reducible refine o_fdiv (by decide) (by decide) (by assumption) ?_); intro _ _ _)
  | ((with_reducible refine o_mod (by decide) (by assumption) ?_); intro _ _ _)
  | ((with_reducible refine o_pow (by decide) (by decide) (by decide) (by assumption) ?_); intro _ _ _)
  | ((with_reducible refine o_neg (by assumption) ?_); intro _ _ _)
  | ((with_reducible refine u_len (by assumption) (by omega) ?_); intro _ _ _)
  | (with_reducible refine j_eq ?_)
  | (with_reducible refine j_lt ?_)
  | (with_reducible refine j_le ?_)
  | (with_reducible refine j_ge ?_)
  | (with_reducible refine j_tr ?_)
  | ((with_reducible refine i_cmp ?hs ?_); (case hs => rfl))
  | ((with_reducible refine e_cmp ?hs ?_); (case hs => rfl))
  | ((with_reducible refine x_tup2S ?hs ?hw ?_); (case hs => rfl); (case hw => rfl))
  | ((with_reducible refine x_tup2 ?hs ?hw ?_); (case hs => rfl); (case hw => rfl))
  | ((with_reducible refine x_asub ?hs ?_); (case hs => rfl))
  | ((with_reducible refine x_expr ?hi ?hs ?_); (case hi => rfl); (case hs => rfl))
  | ((with_reducible refine Subscript_Slice ?_ ?ht); (case ht => intro _ _; rfl))
  | (with_reducible refine wpAny_Slice ?_)
  | (with_reducible refine evalPart_some_step ?_)
  | (with_reducible refine evalPart_none_step ?_)
  | (with_reducible refine Subscript_ ?_)
  | (with_reducible refine ao_name ?_)
  | (with_reducible refine ao_asg ?_)
  | (with_reducible refine ao_nil ?_)
  | (with_reducible refine truthy_int ?_)
  | ((with_reducible refine b_range (by assumption) (by assumption) (by assumption) ?h1 ?_); (case h1 => rfl))
  | ((with_reducible refine b_len (by assumption) (by assumption) (by assumption) ?h1 ?_); (case h1 => rfl))
  | ((with_reducible refine b_ord (by assumption) (by assumption) (by assumption) ?h1 ?_); (case h1 => rfl))
  | ((with_reducible refine b_chr (by assumption) (by assumption) (by assumption) ?h1 ?_); (case h1 => rfl))
  | ((with_reducible refine b_sum (by assumption) (by assumption) (by assumption) ?h1 ?_); (case h1 => rfl))
  | ((with_reducible refine b_abs (by assumption) (by assumption) (by assumption) ?h1 ?_); (case h1 => rfl))
  | ((with_reducible refine b_map (by assumption) (by assumption) (by assumption) ?h1 ?_); (case h1 => rfl))
  | ((with_reducible refine b_int (by assumption) (by assumption) (by assumption) ?h1 ?_); (case h1 => rfl))
  | ((with_reducible refine b_list (by assumption) (by assumption) (by assumption) ?h1 ?_); (case h1 => rfl))
  | ((with_reducible refine g_search_reverse (by assumption) (by assumption) (by assumption) ?h1 ?_); (case h1 => rfl))
  | ((with_reducible refine g_get_line_col (by assumption) (by assumption) (by assumption) ?h1 ?_); (case h1 => rfl))
  | ((with_reducible refine g_gen (by assumption) (by assumption) (by assumption) ?h1 ?_); (case h1 => rfl))
  | ((with_reducible refine g_page (by assumption) (by assumption) (by assumption) ?h1 ?_); (case h1 => rfl))
  | ((with_reducible refine g_turn (by assumption) (by assumption) (by assumption) ?h1 ?_); (case h1 => rfl))
  | ((with_reducible refine g_sum (by assumption) (by assumption) (by assumption) ?h1 ?_); (case h1 => rfl))
  | ((with_reducible refine g_known (by assumption) (by assumption) (by assumption) ?h1 ?_); (case h1 => rfl))
  | ((with_reducible refine g_hit (by assumption) (by assumption) (by assumption) ?h1 ?_); (case h1 => rfl))
  | ((with_reducible refine g_prog (by assumption) (by assumption) (by assumption) ?h1 ?_); (case h1 => rfl))
  | ((with_reducible refine g_found (by assumption) (by assumption) (by assumption) ?h1 ?_); (case h1 => rfl))
  | ((with_reducible refine g_firsts (by assumption) (by assumption) (by assumption) ?h1 ?_); (case h1 => rfl))
  | ((with_reducible refine g_due (by assumption) (by assumption) (by assumption) ?h1 ?_); (case h1 => rfl)))
section
variable {prog : Program} {w : World} {g : Heap} {A : Around} {b s : Shared} {L : Addr} {l : List (Str × Value)} {fs : List (Addr × Obj)} {Q : Value → Shared → Prop}
theorem d_gen (G : Gs w g) (F : Fm g b L l fs s) (r : Room 1 A) {c : Nat} {t : Tok}
    (h : ∀ t s', Fm g b L l fs s' → Q (.int (genCrc c) t) s') : wpAny (model prog w) A (call (.ref 35) [.int c t]) Q NoE s := by
  refine enter (fd := fdAt w 35) (body := bdAt w 35) (binds := [("crc", .int c t)]) G F.kg F.td (Nat.le_trans F.gb F.size) r rfl (by kernel_rfl) rfl rfl (by kernel_rfl) (by kernel_rfl) (fun L s₁ F₁ R => ?_) rfl rfl rfl
  have pe : PlainEnv (callEnv (fdAt w 35) L 35) L := ⟨rfl, rfl, rfl, rfl⟩
  refine wpAny_execs_cons (wpAny_For ?_)
  iterate 6 walk_at "m"
  refine r_range1 (by assumption) ?_
  intro rr s₂ _ _ _ hr F₂
  refine iterRange (n := 8) F₂ hr (by decide) (by decide) ?_
  refine forL (l := [(Str.ofString "crc", .int c t)]) (env := callEnv (fdAt w 35) L 35) R.hh (fun i l => ∃ t, l = [(Str.ofString "crc", Value.int (stepN i c) t)]) ⟨t, rfl⟩ pe rfl ?_ ?_
  · rintro i v l₁ fs₁ s₁ hi hv ⟨t, rfl⟩ _ F₃
    repeat walk_at "m"
    have e0 : Builtin.bitAnd (stepN i c : Int) 1 = ((stepN i c % 2 : Nat) : Int) := by rw [bitAnd_m1]; rfl
    have e1 : ((stepN i c : Nat) : Int).fdiv (2 ^ (1 : Int).toNat) = ((stepN i c / 2 : Nat) : Int) := shr_nat _ 1
    split
    · rename_i hc
      repeat walk_at "m"
      have hc' : stepN i c % 2 = 1 := by rw [e0] at hc; simp at hc; omega
      have e2 : Builtin.bitXor (((stepN i c : Nat) : Int).fdiv (2 ^ (1 : Int).toNat)) 3988292384 = ((stepN (i + 1) c : Nat) : Int) := by
        rw [e1]
        refine (bitXor_nat (stepN i c / 2) 3988292384).trans ?_
        rw [stepN, stepC, if_pos hc']
      rename_i F9
      exact ⟨_, ⟨_, rfl⟩, F9.weak ⟨iEq rfl e2, trivial⟩⟩
    · rename_i hc
      repeat walk_at "m"
      have hc' : ¬ stepN i c % 2 = 1 := by rw [e0] at hc; simp at hc; omega
      have e2 : (((stepN i c : Nat) : Int).fdiv (2 ^ (1 : Int).toNat)) = ((stepN (i + 1) c : Nat) : Int) := by rw [e1, stepN, stepC, if_neg hc']
      rename_i F9
      exact ⟨_, ⟨_, rfl⟩, F9.weak ⟨iEq rfl e2, trivial⟩⟩
  · rintro l₁ s₁ ⟨t, rfl⟩ F₃
    repeat walk_at "m"
    exact h _ _ (F.call G F₃.le F₃.td)

theorem d_turn (G : Gs w g) (F : Fm g b L l fs s) (r : Room 2 A) {c o : Nat} {t u : Tok}
    (h : ∀ t s', Fm g b L l fs s' → Q (.int (turn c o) t) s') : wpAny (model prog w) A (call (.ref 49) [.int c t, .int o u]) Q NoE s := by
  refine enter (fd := fdAt w 49) (body := bdAt w 49) (binds := [("total", .int c t), ("octet", .int o u)]) G F.kg F.td (Nat.le_trans F.gb F.size) r rfl (by kernel_rfl) rfl rfl (by kernel_rfl) (by kernel_rfl) (fun L s₁ F₁ R => ?_) rfl rfl rfl
  have pe : PlainEnv (callEnv (fdAt w 49) L 49) L := ⟨rfl, rfl, rfl, rfl⟩
  have F₂ : Fm g s L [(Str.ofString "octet", .int o u), (Str.ofString "total", .int c t)] [] s₁ := F₁
  refine wpAny_execs_cons ?_
  repeat walk_at "m"
  have e1 : Builtin.bitAnd (Builtin.bitXor (c : Int) o) 255 = (((c ^^^ o) % 256 : Nat) : Int) := by rw [bitXor_nat, bitAnd_m8]; rfl
  refine ⟨Fm.kg (by assumption), ?_⟩
  rw [e1]
  refine d_gen G (by assumption) R fun t s₃ F₃ => ?_
  repeat walk_at "m"
  have e2 : Builtin.bitXor ((c : Int).fdiv (2 ^ (8 : Int).toNat)) (genCrc ((c ^^^ o) % 256) : Int) = (turn c o : Nat) := by
    rw [show ((c : Nat) : Int).fdiv (2 ^ (8 : Int).toNat) = ((c / 256 : Nat) : Int) from shr_nat c 8, bitXor_nat]; rfl
  rw [e2]
  rename_i F9
  exact h _ _ (F.call G F9.le F9.td)
end
end Mine
/- F54 -/
namespace Mine
open PyProof.Rows PySem PySem.W
local macro_rules | `(tactic| walk_at "mem") => `(tactic| first | exact List.Mem.head _ | (refine List.Mem.tail _ ?_; walk_at "mem"))
local macro_rules | `(tactic| walk_at "m") => `(tactic| first
  | (with_reducible refine wpAny_execs_cons ?_)
  | (with_reducible refine wpAny_execs_nil ?_)
  | ((with_reducible refine x_assign ?hs ?_); (case hs => rfl))
  | (with_reducible refine wpAny_AugAssign_Name ?_)
  | (with_reducible refine wpAny_If ?_)
  | (with_reducible refine wpAny_Return_some ?_)
  | (with_reducible refine a_cons ?_)
  | (with_reducible refine a_nil ?_)
  | ((with_reducible refine k_type0 ?hs ?_); (case hs => rfl))
  | ((with_reducible refine k_bi0 ?hs ?_); (case hs => rfl))
  | ((with_reducible refine' k_def0 (by assumption) ?hk ?hs ?_); (case hk => rfl); (case hs => rfl))
  | (with_reducible refine wpAny_Call_NameR ?_)
  | (with_reducible refine wpAny_BinOp ?_)
  | (with_reducible refine wpAny_UnaryOp ?_)
  | ((with_reducible refine e_list ?hs ?_); (case hs => rfl))
  | ((with_reducible refine e_tuple ?hs ?_); (case hs => rfl))
  | ((with_reducible refine' e_comp ?hc ?hk ?hn ?hs ?_); (case hc => rfl); (case hk => rfl); (case hn => rfl); (case hs => intro _; rfl))
  | ((with_reducible refine u_ord (by assumption) ?_); intro _ _ _)
  | ((with_reducible refine i_plain ?hs ?_); (case hs => rfl))
  | ((with_reducible refine' n_ld (by assumption) (by assumption) ?h1 ?h2 ?_ ?h3); (case h1 => rfl); (case h2 => rfl); (case h3 => decide))
  | ((with_reducible refine' n_ldn (by assumption) (by assumption) ?h1 ?h2 ?_); (case h1 => rfl); (case h2 => rfl))
  | ((with_reducible refine' n_ldc (by assumption) (by assumption) ?h1 ?h2 ?h4 ?_ ?h3); (case h1 => rfl); (case h2 => rfl); (case h4 => walk_at "mem"); (case h3 => decide))
  | ((with_reducible refine' n_ldf (by assumption) (by assumption) ?h1 ?h2 ?h4 ?_ ?h3 ?h5); (case h1 => rfl); (case h2 => rfl); (case h4 => walk_at "mem"); (case h3 => decide); (case h5 => decide))
  | ((with_reducible refine n_st (by assumption) (by assumption) ?h1 ?_); (case h1 => rfl); intro _ _)
  | (with_reducible refine wpAny_Constant_none ?_)
  | (with_reducible refine wpAny_Break ?_)
  | (with_reducible refine truthy_none ?_)
  | (with_reducible refine wpAny_isTrue_Not ?_)
  | (with_reducible refine wpAny_isTrue_BoolOp ?_)
  | (with_reducible refine wpAny_allTrue_And_cons ?_)
  | (with_reducible refine wpAny_allTrue_And_nil ?_)
  | ((with_reducible refine c_int (by assumption) ?_); intro _ _ _)
  | ((with_reducible refine c_str (by assumption) ?_); intro _ _ _)
  | ((with_reducible refine o_add (by assumption) ?_); intro _ _ _)
  | ((with_reducible refine o_sub (by assumption) ?_); intro _ _ _)
  | ((with_reducible refine o_and (by assumption) ?_); intro _ _ _)
  | ((with_reducible refine o_xor (by assumption) ?_); intro _ _ _)
  | ((with_reducible refine o_shr (by decide) (by assumption) ?_); intro _ _ _)
  | ((with_reducible refine o_ishr (by decide) (by assumption) ?_); intro _ _ _)
  | ((with_reducible refine o_mul (Or.inr (by decide)) (by assumption) ?_); intro _ _ _)
  | ((with_reducible refine o_mul (Or.inl (by decide)) (by assumption) ?_); intro _ _ _)
  | ((with_reducible refine o_fdiv (by decide) (by decide) (by assumption) ?_); intro _ _ _)
  | ((with_reducible refine o_mod (by decide) (by assumption) ?_); intro _ _ _)
  | ((with_reducible refine o_pow (by decide) (by decide) (by decide) (by assumption) ?_); intro _ _ _)
  | ((with_reducible refine o_neg (by assumption) ?_); intro _ _ _)
  | ((with_reducible refine u_len (by assumption) (by omega) ?_); intro _ _ _)
  | (with_reducible refine j_eq ?_)
  | (with_reducible refine j_lt ?_)
  | (with_reducible refine j_le ?_)
  | (with_reducible refine j_ge ?_)
  | (with_reducible refine j_tr ?_)
  | ((with_reducible refine i_cmp ?hs ?_); (case hs => rfl))
  | ((with_reducible refine e_cmp ?hs ?_); (case hs => rfl))
  | ((with_reducible refine x_tup2S ?hs ?hw ?_); (case hs => rfl); (case hw => rfl))
  | ((with_reducible refine x_tup2 ?hs ?hw ?_); (case hs => rfl); (case hw => rfl))
  | ((with_reducible refine x_asub ?hs ?_); (case hs => rfl))
  | ((with_reducible refine x_expr ?hi ?hs ?_); (case hi => rfl); (case hs => rfl))
  | ((with_reducible refine Subscript_Slice ?_ ?ht); (case ht => intro _ _; rfl))
  | (with_reducible refine wpAny_Slice ?_)
  | (with_reducible refine evalPart_some_step ?_)
  | (with_reducible refine evalPart_none_step ?_)
  | (with_reducible refine Subscript_ ?_)
  | (with_reducible refine ao_name ?_)
  | (with_reducible refine ao_asg ?_)
  | (with_reducible refine ao_nil ?_)
  | (with_reducible refine truthy_int ?_)
  | ((with_reducible refine b_range (by assumption) (by assumption) (by assumption) ?h1 ?_); (case h1 => rfl))
  | ((with_reducible refine b_len (by assumption) (by assumption) (by assumption) ?h1 ?_); (case h1 => rfl))
  | ((with_reducible refine b_ord (by assumption) (by assumption) (by assumption) ?h1 ?_); (case h1 => rfl))
  | ((with_reducible refine b_chr (by assumption) (by assumption) (by assumption) ?h1 ?_); (case h1 => rfl))
  | ((with_reducible refine b_sum (by assumption) (by assumption) (by assumption) ?h1 ?_); (case h1 => rfl))
  | ((with_reducible refine b_abs (by assumption) (by assumption) (by assumption) ?h1 ?_); (case h1 => rfl))
  | ((with_reducible refine b_map (by assumption) (by assumption) (by assumption) ?h1 ?_); (case h1 => rfl))
  | ((with_reducible refine b_int (by assumption) (by assumption) (by assumption) ?h1 ?_); (case h1 => rfl))
  | ((with_reducible refine b_list (by assumption) (by assumption) (by assumption) ?h1 ?_); (case h1 => rfl))
  | ((with_reducible refine g_search_reverse (by assumption) (by assumption) (by assumption) ?h1 ?_); (case h1 => rfl))
  | ((with_reducible refine g_get_line_col (by assumption) (by assumption) (by assumption) ?h1 ?_); (case h1 => rfl))
  | ((with_reducible refine g_gen (by assumption) (by assumption) (by assumption) ?h1 ?_); (case h1 => rfl))
  | ((with_reducible refine g_page (by assumption) (by assumption) (by assumption) ?h1 ?_); (case h1 => rfl))
  | ((with_reducible refine g_turn (by assumption) (by assumption) (by assumption) ?h1 ?_); (case h1 => rfl))
  | ((with_reducible refine g_sum (by assumption) (by assumption) (by assumption) ?h1 ?_); (case h1 => rfl))
  | ((with_reducible refine g_known (by assumption) (by assumption) (by assumption) ?h1 ?_); (case h1 => rfl))
  | ((with_reducible refine g_hit (by assumption) (by assumption) (by assumption) ?h1 ?_); (case h1 => rfl))
  | ((with_reducible refine g_prog (by assumption) (by assumption) (by assumption) ?h1 ?_); (case h1 => rfl))
  | ((with_reducible refine g_found (by assumption) (by assumption) (by assumption) ?h1 ?_); (case h1 => rfl))
  | ((with_reducible refine g_firsts (by assumption) (by assumption) (by assumption) ?h1 ?_); (case h1 => rfl))
  | ((with_reducible refine g_due (by assumption) (by assumption) (by assumption) ?h1 ?_); (case h1 => rfl)))
theorem ints_take {x : Str} {i c : Nat} {vs : List Value} {t : Tok} (hv : IntsAre vs ((x.cps.toList.take i).map Int.ofNat)) (hc : x.cps[i]? = some c) : IntsAre (vs ++ [.int c t]) ((x.cps.toList.take (i + 1)).map Int.ofNat) := by
  have : x.cps.toList[i]? = some c := by simpa using hc
  rw [List.take_add_one, this, List.map_append]
  exact hv.append (.cons _ _ .nil)
section
variable {prog : Program} {w : World} {g : Heap} {A : Around} {b s : Shared} {L : Addr} {l : List (Str × Value)} {fs : List (Addr × Obj)} {Q : Value → Shared → Prop}
theorem d_sum (G : Gs w g) (F : Fm g b L l fs s) (r : Room 3 A) {x : Str} {n : Nat} {t u : Tok} (hx : x.cps.size + n ≤ 1000)
    (h : ∀ t s', Fm g b L l fs s' → Q (.int (crc (x.cps.toList ++ List.replicate n 0)) t) s') : wpAny (model prog w) A (call (.ref 54) [.str x t, .int n u]) Q NoE s := by
  have hsl := sizeLine_eq
  refine enter (fd := fdAt w 54) (body := bdAt w 54) (binds := [("text", .str x t), ("noughts", .int n u)]) G F.kg F.td (Nat.le_trans F.gb F.size) r rfl (by kernel_rfl) rfl rfl (by kernel_rfl) (by kernel_rfl) (fun L s₁ F₁ R => ?_) rfl rfl rfl
  have pe : PlainEnv (callEnv (fdAt w 54) L 54) L := ⟨rfl, rfl, rfl, rfl⟩
  have F₂ : Fm g s L [(Str.ofString "noughts", .int n u), (Str.ofString "text", .str x t)] [] s₁ := F₁
  refine wpAny_execs_cons ?_
  iterate 4 walk_at "m"
  refine wpAny_For ?_
  repeat walk_at "m"
  refine iterStr (by assumption) ?_
  refine compV R.hh rfl rfl rfl (by omega) pe (fun i vs => IntsAre vs ((x.cps.toList.take i).map Int.ofNat)) .nil ?_ ?_
  · rintro C i v vs fs' s₂ hi ⟨c, u, hc, rfl⟩ hvl hJ _ pe' F'
    repeat walk_at "m"
    rename_i F9
    exact ⟨_, ints_take hJ hc, F9⟩
  · intro D vs k s₂ hJ hvl _ _ F₃
    rw [List.take_of_length_le (by simp)] at hJ
    repeat walk_at "m"
    rename_i tz s₀ F₀
    refine q_list F₀ (by show 1 ≤ sizeLine; omega) fun a₁ s₃ hne₁ _ F₄ => ?_
    repeat walk_at "m"
    refine o_mulL F₄ (IsL F₄ (.head _)) (.cons 0 _ .nil) (by omega) (by omega) (by simp; omega) fun a₂ o₂ k₂ s₄ hc₂ hd₂ F₅ => ?_
    have hrep : (List.replicate (n : Int).toNat [Value.int 0 tz]).flatten = List.replicate n (Value.int 0 tz) := by simp
    rw [hrep] at hd₂
    have hiz : ∀ n, IntsAre (List.replicate n (Value.int 0 tz)) ((List.replicate n 0).map Int.ofNat) := fun n => by
      induction n with
      | zero => exact .nil
      | succ n ih => exact .cons _ _ ih
    refine o_addL F₅ (IsL F₅ (.tail _ (.tail _ (.head _)))) (IsLo F₅ (.head _) hc₂ hd₂) (by simp; omega) fun a₃ s₅ _ _ F₆ => ?_
    have hI := hJ.append (hiz n)
    rw [← List.map_append] at hI
    have hsz : (vs ++ List.replicate n (Value.int 0 tz)).toArray.size = (x.cps.toList ++ List.replicate n 0).length := by simp [hvl]
    have F₇ := F₆.weak (l' := [(Str.ofString "total", _)]) ⟨rfl, trivial⟩
    refine iterList F₇ (IsL F₆ (.head _)) ⟨(F₆.own _ (.head _)).1.2, (F₆.own _ (.head _)).2⟩ ?_
    refine forL (env := callEnv (fdAt w 54) L 54) R.hh (fun i l => ∃ t, l = [(Str.ofString "total", Value.int (crc ((x.cps.toList ++ List.replicate n 0).take i)) t)]) ⟨_, rfl⟩ pe rfl ?_ ?_
    · rintro i v l₁ fs₁ s₁ hi hv ⟨t, rfl⟩ _ F₈
      have hlt : i < (x.cps.toList ++ List.replicate n 0).length := hsz ▸ hi
      obtain ⟨c, hc⟩ : ∃ c, (x.cps.toList ++ List.replicate n 0)[i]? = some c := ⟨_, List.getElem?_eq_getElem hlt⟩
      obtain ⟨tv, hx⟩ := hI.get i (Int.ofNat c) (by rw [List.getElem?_map, hc]; rfl)
      have hv' : v = .int c tv := by
        have : (vs ++ List.replicate n (Value.int 0 tz))[i]? = some v := by simpa using hv
        rw [hx] at this; exact (Option.some.inj this).symm
      subst hv'
      repeat walk_at "m"
      refine ⟨Fm.kg (by assumption), ?_⟩
      refine d_turn G (by assumption) R fun t' s' F' => ?_
      repeat walk_at "m"
      rename_i F9
      refine ⟨_, ⟨_, rfl⟩, F9.weak ⟨iEq rfl ?_, trivial⟩⟩
      rw [List.take_add_one, hc]
      show ((turn _ c : Nat) : Int) = ((crcFrom 0 (_ ++ [c]) : Nat) : Int)
      rw [crcFrom_append]; rfl
    · rintro l₁ s₁ ⟨t, rfl⟩ F₈
      repeat walk_at "m"
      rw [hsz, List.take_length]
      exact h _ _ (F.call G F₈.le F₈.td)
end
end Mine
/- F59 -/
namespace Mine
open PyProof.Rows PySem PySem.W
local macro_rules | `(tactic| walk_at "mem") => `(tactic| first | exact List.Mem.head _ | (refine List.Mem.tail _ ?_; walk_at "mem"))
local macro_rules | `(tactic| walk_at "m") => `(tactic| first
  | (with_reducible refine wpAny_execs_cons ?_)
  | (with_reducible refine wpAny_execs_nil ?_)
  | ((with_reducible refine x_assign ?hs ?_); (case hs => rfl))
  | (with_reducible refine wpAny_AugAssign_Name ?_)
  | (with_reducible refine wpAny_If ?_)
  | (with_reducible refine wpAny_Return_some ?_)
  | (with_reducible refine a_cons ?_)
  | (with_reducible refine a_nil ?_)
  | ((with_reducible refine k_type0 ?hs ?_); (case hs => rfl))
  | ((with_reducible refine k_bi0 ?hs ?_); (case hs => rfl))
  | ((with_reducible refine' k_def0 (by assumption) ?hk ?hs ?_); (case hk => rfl); (case hs => rfl))
  | (with_reducible refine wpAny_Call_NameR ?_)
  | (with_reducible refine wpAny_BinOp ?_)
  | (with_reducible refine wpAny_UnaryOp ?_)
  | ((with_reducible refine e_list ?hs ?_); (case hs => rfl))
  | ((with_reducible refine e_tuple ?hs ?_); (case hs => rfl))
  | ((with_reducible refine' e_comp ?hc ?hk ?hn ?hs ?_); (case hc => rfl); (case hk => rfl); (case hn => rfl); (case hs => intro _; rfl))
  | ((with_reducible refine u_ord (by assumption) ?_); intro _ _ _)
  | ((with_reducible refine i_plain ?hs ?_); (case hs => rfl))
  | ((with_reducible refine' n_ld (by assumption) (by assumption) ?h1 ?h2 ?_ ?h3); (case h1 => rfl); (case h2 => rfl); (case h3 => decide))
  | ((with_reducible refine' n_ldn (by assumption) (by assumption) ?h1 ?h2 ?_); (case h1 => rfl); (case h2 => rfl))
  | ((with_reducible refine' n_ldc (by assumption) (by assumption) ?h1 ?h2 ?h4 ?_ ?h3); (case h1 => rfl); (case h2 => rfl); (case h4 => walk_at "mem"); (case h3 => decide))
  | ((with_reducible refine' n_ldf (by assumption) (by assumption) ?h1 ?h2 ?h4 ?_ ?h3 ?h5); (case h1 => rfl); (case h2 => rfl); (case h4 => walk_at "mem"); (case h3 => decide); (case h5 => decide))
  | ((with_reducible refine n_st (by assumption) (by assumption) ?h1 ?_); (case h1 => rfl); intro _ _)
  | (with_reducible refine wpAny_Constant_none ?_)
  | (with_reducible refine wpAny_Break ?_)
  | (with_reducible refine truthy_none ?_)
  | (with_reducible refine wpAny_isTrue_Not ?_)
  | (with_reducible refine wpAny_isTrue_BoolOp ?_)
  | (with_reducible refine wpAny_allTrue_And_cons ?_)
  | (with_reducible refine wpAny_allTrue_And_nil ?_)
  | ((with_reducible refine c_int (by assumption) ?_); intro _ _ _)
  | ((with_reducible refine c_str (by assumption) ?_); intro _ _ _)
  | ((with_reducible refine o_add (by assumption) ?_); intro _ _ _)
  | ((with_reducible refine o_sub (by assumption) ?_); intro _ _ _)
  | ((with_reducible refine o_and (by assumption) ?_); intro _ _ _)
  | ((with_reducible refine o_xor (by assumption) ?_); intro _ _ _)
  | ((with_reducible refine o_shr (by decide) (by assumption) ?_); intro _ _ _)
  | ((with_reducible refine o_ishr (by decide) (by assumption) ?_); intro _ _ _)
  | ((with_reducible refine o_mul (Or.inr (by decide)) (by assumption) ?_); intro _ _ _)
  | ((with_reducible refine o_mul (Or.inl (by decide)) (by assumption) ?_); intro _ _ _)
  | ((with_reducible refine o_fdiv (by decide) (by decide) (by assumption) ?_); intro _ _ _)
  | ((with_reducible refine o_mod (by decide) (by assumption) ?_); intro _ _ _)
  | ((with_reducible refine o_pow (by decide) (by decide) (by decide) (by assumption) ?_); intro _ _ _)
  | ((with_reducible refine o_neg (by assumption) ?_); intro _ _ _)
  | ((with_reducible refine u_len (by assumption) (by omega) ?_); intro _ _ _)
  | (with_reducible refine j_eq ?_)
  | (with_reducible refine j_lt ?_)
  | (with_reducible refine j_le ?_)
  | (with_reducible refine j_ge ?_)
  | (with_reducible refine j_tr ?_)
  | ((with_reducible refine i_cmp ?hs ?_); (case hs => rfl))
  | ((with_reducible refine e_cmp ?hs ?_); (case hs => rfl))
  | ((with_reducible refine x_tup2S ?hs ?hw ?_); (case hs => rfl); (case hw => rfl))
  | ((with_reducible refine x_tup2 ?hs ?hw ?_); (case hs => rfl); (case hw => rfl))
  | ((with_reducible refine x_asub ?hs ?_); (case hs => rfl))
  | ((with_reducible refine x_expr ?hi ?hs ?_); (case hi => rfl); (case hs => rfl))
  | ((with_reducible refine Subscript_Slice ?_ ?ht); (case ht => intro _ _; rfl))
  | (with_reducible refine wpAny_Slice ?_)
  | (with_reducible refine evalPart_some_step ?_)
  | (with_reducible refine evalPart_none_step ?_)
  | (with_reducible refine Subscript_ ?_)
  | (with_reducible refine ao_name ?_)
  | (with_reducible refine ao_asg ?_)
  | (with_reducible refine ao_nil ?_)
  | (with_reducible refine truthy_int ?_)
  | ((with_reducible refine b_range (by assumption) (by assumption) (by assumption) ?h1 ?_); (case h1 => rfl))
  | ((with_reducible refine b_len (by assumption) (by assumption) (by assumption) ?h1 ?_); (case h1 => rfl))
  | ((with_reducible refine b_ord (by assumption) (by assumption) (by assumption) ?h1 ?_); (case h1 => rfl))
  | ((with_reducible refine b_chr (by assumption) (by assumption) (by assumption) ?h1 ?_); (case h1 => rfl))
  | ((with_reducible refine b_sum (by assumption) (by assumption) (by assumption) ?h1 ?_); (case h1 => rfl))
  | ((with_reducible refine b_abs (by assumption) (by assumption) (by assumption) ?h1 ?_); (case h1 => rfl))
  | ((with_reducible refine b_map (by assumption) (by assumption) (by assumption) ?h1 ?_); (case h1 => rfl))
  | ((with_reducible refine b_int (by assumption) (by assumption) (by assumption) ?h1 ?_); (case h1 => rfl))
  | ((with_reducible refine b_list (by assumption) (by assumption) (by assumption) ?h1 ?_); (case h1 => rfl))
  | ((with_reducible refine g_search_reverse (by assumption) (by assumption) (by assumption) ?h1 ?_); (case h1 => rfl))
  | ((with_reducible refine g_get_line_col (by assumption) (by assumption) (by assumption) ?h1 ?_); (case h1 => rfl))
  | ((with_reducible refine g_gen (by assumption) (by assumption) (by assumption) ?h1 ?_); (case h1 => rfl))
  | ((with_reducible refine g_page (by assumption) (by assumption) (by assumption) ?h1 ?_); (case h1 => rfl))
  | ((with_reducible refine g_turn (by assumption) (by assumption) (by assumption) ?h1 ?_); (case h1 => rfl))
  | ((with_reducible refine g_sum (by assumption) (by assumption) (by assumption) ?h1 ?_); (case h1 => rfl))
  | ((with_reducible refine g_known (by assumption) (by assumption) (by assumption) ?h1 ?_); (case h1 => rfl))
  | ((with_reducible refine g_hit (by assumption) (by assumption) (by assumption) ?h1 ?_); (case h1 => rfl))
  | ((with_reducible refine g_prog (by assumption) (by assumption) (by assumption) ?h1 ?_); (case h1 => rfl))
  | ((with_reducible refine g_found (by assumption) (by assumption) (by assumption) ?h1 ?_); (case h1 => rfl))
  | ((with_reducible refine g_firsts (by assumption) (by assumption) (by assumption) ?h1 ?_); (case h1 => rfl))
  | ((with_reducible refine g_due (by assumption) (by assumption) (by assumption) ?h1 ?_); (case h1 => rfl)))
section
variable {prog : Program} {w : World} {g : Heap} {A : Around} {b s : Shared} {L : Addr} {l : List (Str × Value)} {fs : List (Addr × Obj)} {Q : Value → Shared → Prop}
theorem d_known (G : Gs w g) (F : Fm g b L l fs s) (r : Room 1 A) {x : Str} {t : Tok} (hx : x.cps.size ≤ 4) (h256 : ∀ c ∈ x.cps.toList, c < 256)
    (h : ∀ t s', Fm g b L l fs s' → Q (.int (crc x.cps.toList) t) s') : wpAny (model prog w) A (call (.ref 59) [.str x t]) Q NoE s := by
  have hsl := sizeLine_eq
  refine enterC (fd := fdAt w 59) (body := bdAt w 59) (binds := [("word", .str x t)]) G F.kg F.td (Nat.le_trans F.gb F.size) r rfl (by kernel_rfl) rfl rfl rfl (by kernel_rfl)
    [(Str.ofString "word", .str x t)] (fun L => ⟨rfl, trivial⟩) (fun L => [(Str.ofString "number", L + 1)]) (fun L => rfl) [Str.ofString "number"] (fun L => rfl) (by decide) (fun L s₁ fs₁ F₁ hcs R => ?_) rfl rfl rfl
  obtain ⟨o₀, fs', rfl, ho₀, _, rfl⟩ := hcs
  have pe : PlainEnv (callEnvC (fdAt w 59) L 59) L := ⟨rfl, rfl, rfl, rfl⟩
  have hbc : s.heap.objs.size ≤ L + 1 := Nat.le_succ_of_le F₁.nL
  refine wpAny_execs_cons ?_
  repeat walk_at "m"
  rename_i tsz s₂ F₂
  refine q_tuple F₂ (by show 2 ≤ sizeLine; omega) fun a₁ s₃ hne₁ _ F₃ => ?_
  refine unp2 R.hh F₃ (IsT F₃ (.head _)) fun s₄ F₄ => ?_
  repeat walk_at "m"
  refine n_stc (o := o₀) F₄ pe rfl rfl ho₀ hbc (.tail (Ne.symm (hne₁ _ (.head _))) (.head fun p hp => nomatch hp)) fun s₅ F₅ => ?_
  repeat walk_at "m"
  rename_i s₆ F₆
  refine wpAny_For ?_
  walk_at "m"
  have F₇ : Fm g s L [(Str.ofString "size", _)] [(L + 1, setC o₀ _)] s₆ := (F₆.weak (l' := [(Str.ofString "size", _)]) ⟨rfl, trivial⟩).sub fun p hp => .tail _ hp
  refine iterStr F₇ ?_
  refine forIt (env := callEnvC (fdAt w 59) L 59) R.hh (fun i l fs => ∃ t, l = [(Str.ofString "size", .int (8 * (x.cps.size : Int) + 32) tsz)] ∧ fs = [(L + 1, setC o₀ (.int (wordNum (x.cps.toList.take i)) t))]) (fun i l₁ fs₁ ⟨t, _, e⟩ p hp => ⟨_, .head _, by rw [e] at hp; rw [List.mem_singleton.mp hp]⟩) ⟨_, rfl, rfl⟩ pe rfl ?_ ?_
  · rintro i v l₁ fs₁ itr s₁ hi ⟨c, u, hc, rfl⟩ ⟨t, rfl, rfl⟩ hitr F₈
    refine wpAny_execs_cons (wpAny_For ?_)
    iterate 6 walk_at "m"
    rename_i F₉
    refine r_range1 F₉ ?_
    intro rr s₂ _ _ _ hr F₁₀
    refine iterRange0 (n := 8) F₁₀ hr (by decide) ?_
    refine forIt (env := callEnvC (fdAt w 59) L 59) R.hh (fun j l fs => l = [(Str.ofString "sign", .str ⟨#[c]⟩ u), (Str.ofString "size", .int (8 * (x.cps.size : Int) + 32) tsz)] ∧ ∃ t, fs = (L + 1, setC o₀ (.int (inner (wordNum (x.cps.toList.take i)) c j) t)) :: itr)
      (fun i l₁ fs₁ ⟨_, t, e⟩ p hp => by
        rw [e] at hp
        rcases List.mem_cons.mp hp with rfl | hp
        · exact ⟨_, .head _, rfl⟩
        · exact ⟨p, .tail _ hp, rfl⟩) ⟨rfl, _, rfl⟩ pe rfl ?_ ?_
    · rintro j v l₁ fs₁ itr₂ s₃ hj ⟨tj, rfl⟩ ⟨rfl, t₂, rfl⟩ hitr₂ F₁₁
      repeat walk_at "m"
      rename_i F₁₂
      refine o_pow (by omega) (by omega) (by decide) F₁₂ fun t₃ s₄ F₁₃ => ?_
      rw [show (2 : Int) ^ ((j : Nat) : Int).toNat = ((2 ^ j : Nat) : Int) from pow_nat 2 j]
      have hp2 : 0 < 2 ^ j := Nat.two_pow_pos j
      have hp3 : 2 ^ j < 2 ^ 200 := Nat.pow_lt_pow_right (by decide) (by omega)
      refine o_fdiv (by omega) (by rw [Int.natAbs_natCast]; exact hp3) F₁₃ fun t₄ s₅ F₁₄ => ?_
      repeat walk_at "m"
      rename_i F₁₅
      have e : (inner (wordNum (x.cps.toList.take i)) c j : Int) * 2 + ((c : Int).fdiv ((2 ^ j : Nat) : Int)).fmod 2 = ((inner (wordNum (x.cps.toList.take i)) c (j + 1) : Nat) : Int) := by
        rw [fdiv_nat, show (2 : Int) = ((2 : Nat) : Int) from rfl, fmod_nat, inner]; omega
      rw [e]
      have hne : ∀ p ∈ itr, p.1 ≠ L + 1 := fun p hp => (hitr p hp).elim (fun e => nomatch e) fun e => Ne.symm (e _ (.head _))
      have hne₂ : ∀ p ∈ itr₂, p.1 ≠ L + 1 := fun p hp => (hitr₂ p hp).elim (fun e => nomatch e) fun e => Ne.symm (e _ (.head _))
      refine n_stc (o := setC o₀ _) F₁₅ pe rfl rfl rfl hbc (.head fun p hp => (List.mem_append.mp hp).elim (hne p) (hne₂ p)) fun s₆ F₁₆ => ?_
      repeat walk_at "m"
      exact ⟨_, _, ⟨rfl, _, rfl⟩, F₁₆.weak ⟨rfl, rfl, trivial⟩⟩
    · rintro l₁ fs₁ s₃ ⟨rfl, t₂, rfl⟩ F₁₁
      repeat walk_at "m"
      have hc' : x.cps.toList[i]? = some c := by simpa using hc
      have e : inner (wordNum (x.cps.toList.take i)) c 8 = wordNum (x.cps.toList.take (i + 1)) := by
        rw [List.take_add_one, hc']; exact (wordNum_snoc _ _).symm
      rw [e] at F₁₁
      exact ⟨_, _, ⟨_, rfl, rfl⟩, F₁₁.weak ⟨rfl, trivial⟩⟩
  · rintro l₁ fs₁ s₁ ⟨t, rfl, rfl⟩ F₈
    repeat walk_at "m"
    rename_i tn s₂ F₉
    rw [show x.cps.size = x.cps.toList.length from by simp, List.take_length]
    have e1 : ((wordNum x.cps.toList : Nat) : Int) * 2 ^ (32 : Int).toNat = ((wordNum x.cps.toList * 2 ^ 32 : Nat) : Int) := by rw [Int.natCast_mul]; rfl
    rw [e1]
    refine n_stc (o := setC o₀ _) F₉ pe rfl rfl rfl hbc (.head fun p hp => nomatch hp) fun s₃ F₁₀ => ?_
    repeat walk_at "m"
    refine wpAny_For ?_
    have F₁₁ : Fm g s L [(Str.ofString "size", .int (8 * (x.cps.size : Int) + 32) tsz)] [(L + 1, setC o₀ (.int ((wordNum x.cps.toList * 2 ^ 32 : Nat) : Int) tn))] s₃ := F₁₀
    clear F₁₀
    repeat walk_at "m"
    rename_i F₁₂
    refine r_range3 (by decide) (by decide) F₁₂ ?_
    intro rr s₄ _ _ _ hr F₁₃
    obtain ⟨n, hn⟩ : ∃ n, n = x.cps.size := ⟨_, rfl⟩
    rw [← hn] at hr F₁₃ hx
    have F₁₄ := F₁₃.weak (l' := []) trivial
    generalize hN : wordNum x.cps.toList * 2 ^ 32 = N at *
    refine iterRange (n := 8 * n) F₁₄ hr (small_ok (by omega) (by omega) (by decide) (by decide) (.inr rfl)) ?_ ?_
    · unfold Builtin.Range.rangeSize
      simp only [show ¬ (-1 : Int) > 0 by decide, if_false, Int.neg_neg]
      split <;> omega
    refine forIt (env := callEnvC (fdAt w 59) L 59) R.hh (fun i l fs => l = [] ∧ ∃ t, fs = [(L + 1, setC o₀ (.int (red N (8 * n + 32) i) t))])
      (fun i l₁ fs₁ ⟨_, t, e⟩ p hp => ⟨_, .head _, by rw [e] at hp; rw [List.mem_singleton.mp hp]⟩) ⟨rfl, _, rfl⟩ pe rfl ?_ ?_
    · rintro i v l₁ fs₁ itr s₅ hi ⟨tk, rfl⟩ ⟨rfl, t₂, rfl⟩ hitr F₁₅
      have hne : ∀ p ∈ itr, p.1 ≠ L + 1 := fun p hp => (hitr p hp).elim (fun e => nomatch e) fun e => Ne.symm (e _ (.head _))
      have ek : 8 * (n : Int) + 32 - 1 + (i : Int) * -1 = ((8 * n + 32 - 1 - i : Nat) : Int) := by omega
      rw [ek] at F₁₅
      have hk32 : 32 ≤ 8 * n + 32 - 1 - i := by omega
      have hk64 : 8 * n + 32 - 1 - i < 64 := by omega
      rw [red] at *
      generalize red N (8 * n + 32) i = M at *
      generalize 8 * n + 32 - 1 - i = k at *
      repeat walk_at "m"
      rename_i F₁₆
      refine o_pow (by omega) (by omega) (by decide) F₁₆ fun t₃ s₆ F₁₇ => ?_
      rw [show (2 : Int) ^ ((k : Nat) : Int).toNat = ((2 ^ k : Nat) : Int) from pow_nat 2 k]
      have hp2 : 0 < 2 ^ k := Nat.two_pow_pos k
      have hp3 : 2 ^ k < 2 ^ 200 := Nat.pow_lt_pow_right (by decide) (by omega)
      refine o_fdiv (by omega) (by rw [Int.natAbs_natCast]; exact hp3) F₁₇ fun t₄ s₇ F₁₈ => ?_
      repeat walk_at "m"
      have e2 : ((M : Int).fdiv ((2 ^ k : Nat) : Int)).fmod 2 = ((M / 2 ^ k % 2 : Nat) : Int) := by rw [fdiv_nat, show (2 : Int) = ((2 : Nat) : Int) from rfl, fmod_nat]
      rw [e2]
      split
      · rename_i hc
        have hc' : M / 2 ^ k % 2 = 1 := Int.ofNat.inj (eq_of_beq hc)
        repeat walk_at "m"
        rename_i F₁₉
        refine o_pow (by omega) (by omega) (by decide) F₁₉ fun t₅ s₈ F₂₀ => ?_
        rw [show ((k : Int) - 32) = ((k - 32 : Nat) : Int) from by omega, show (2 : Int) ^ ((k - 32 : Nat) : Int).toNat = ((2 ^ (k - 32) : Nat) : Int) from pow_nat 2 (k - 32)]
        repeat walk_at "m"
        rename_i F₂₁
        have e3 : Builtin.bitXor (M : Int) (4374732215 * ((2 ^ (k - 32) : Nat) : Int)) = ((redStep M k : Nat) : Int) := by
          rw [redStep, if_pos hc']; exact bitXor_nat M (4374732215 * 2 ^ (k - 32))
        rw [e3]
        refine n_stc (o := setC o₀ _) F₂₁ pe rfl rfl rfl hbc (.head hne) fun s₉ F₂₂ => ?_
        repeat walk_at "m"
        exact ⟨_, _, ⟨rfl, _, rfl⟩, F₂₂.weak trivial⟩
      · rename_i hc
        have hc' : ¬ M / 2 ^ k % 2 = 1 := fun q => hc (by rw [q]; rfl)
        repeat walk_at "m"
        rename_i F₁₉
        rw [redStep, if_neg hc']
        exact ⟨_, _, ⟨rfl, _, rfl⟩, F₁₉.weak trivial⟩
    · rintro l₁ fs₁ s₅ ⟨rfl, t₂, rfl⟩ F₁₅
      have hM : hor (red N (8 * n + 32) (8 * n)) 32 = crc x.cps.toList := by
        have := known_crc x.cps.toList h256 (by simp; omega)
        rw [hN] at this
        rw [hn, ← this]; simp
      generalize red N (8 * n + 32) (8 * n) = M at *
      repeat walk_at "m"
      rename_i F₁₆
      refine r_range1 F₁₆ ?_
      intro rr₂ s₆ _ _ _ hr₂ F₁₇
      refine iterRange0 (n := 32) F₁₇ hr₂ (by decide) ?_
      refine compV R.hh rfl rfl rfl (by omega) pe (fun i vs => IntsAre vs ((List.range i).map fun j => ((M / 2 ^ j % 2 * 2 ^ (31 - j) : Nat) : Int))) .nil ?_ ?_
      · rintro C j v vs fs' s₇ hj ⟨tj, rfl⟩ hvl hJ hsub pe' F'
        have hm := hsub _ (.head _)
        have F'' := F'.has (a := L + 1) (F'.own _ hm).1 (F'.own _ hm).2
        clear F'
        repeat walk_at "m"
        rename_i F₁₈
        refine o_pow (by omega) (by omega) (by decide) F₁₈ fun t₃ s₈ F₁₉ => ?_
        rw [show (2 : Int) ^ ((j : Nat) : Int).toNat = ((2 ^ j : Nat) : Int) from pow_nat 2 j]
        have hp2 : 0 < 2 ^ j := Nat.two_pow_pos j
        have hp3 : 2 ^ j < 2 ^ 200 := Nat.pow_lt_pow_right (by decide) (by omega)
        refine o_fdiv (by omega) (by rw [Int.natAbs_natCast]; exact hp3) F₁₉ fun t₄ s₉ F₂₀ => ?_
        repeat walk_at "m"
        rename_i F₂₁
        refine o_pow (by omega) (by omega) (by decide) F₂₁ fun t₅ s₁₀ F₂₂ => ?_
        have e2 : ((M : Int).fdiv ((2 ^ j : Nat) : Int)).fmod 2 = ((M / 2 ^ j % 2 : Nat) : Int) := by rw [fdiv_nat, show (2 : Int) = ((2 : Nat) : Int) from rfl, fmod_nat]
        rw [e2, show (31 - (j : Int)) = ((31 - j : Nat) : Int) from by omega, show (2 : Int) ^ ((31 - j : Nat) : Int).toNat = ((2 ^ (31 - j) : Nat) : Int) from pow_nat 2 (31 - j)]
        have hlt2 : M / 2 ^ j % 2 < 2 ^ 64 := Nat.lt_trans (Nat.mod_lt _ (by decide)) (by decide)
        refine o_mul (.inl (by rw [Int.natAbs_natCast]; exact hlt2)) F₂₂ fun t₆ s₁₁ F₂₃ => ?_
        refine ⟨_, ?_, F₂₃.sub fun p hp => .tail _ hp⟩
        rw [List.range_succ, List.map_append]
        exact hJ.append (.cons _ _ .nil)
      · intro D vs k s₇ hJ hvl _ _ F₁₈
        repeat walk_at "m"
        refine u_sum R.hh F₁₈ (IsL F₁₈ (.head _)) hJ fun t₉ s₈ F₁₉ => ?_
        rw [hor_sum M 32 (by decide), Nat.sub_self, Nat.pow_zero, Nat.mul_one, hM]
        exact h _ _ (F.call G F₁₉.le F₁₉.td)
end
end Mine
/- F42 -/
namespace Mine
open PyProof.Rows PySem PySem.W
local macro_rules | `(tactic| walk_at "mem") => `(tactic| first | exact List.Mem.head _ | (refine List.Mem.tail _ ?_; walk_at "mem"))
local macro_rules | `(tactic| walk_at "m") => `(tactic| first
  | (with_reducible refine wpAny_execs_cons ?_)
  | (with_reducible refine wpAny_execs_nil ?_)
  | ((with_reducible refine x_assign ?hs ?_); (case hs => rfl))
  | (with_reducible refine wpAny_AugAssign_Name ?_)
  | (with_reducible refine wpAny_If ?_)
  | (with_reducible refine wpAny_Return_some ?_)
  | (with_reducible refine a_cons ?_)
  | (with_reducible refine a_nil ?_)
  | ((with_reducible refine k_type0 ?hs ?_); (case hs => rfl))
  | ((with_reducible refine k_bi0 ?hs ?_); (case hs => rfl))
  | ((with_reducible refine' k_def0 (by assumption) ?hk ?hs ?_); (case hk => rfl); (case hs => rfl))
  | (with_reducible refine wpAny_Call_NameR ?_)
  | (with_reducible refine wpAny_BinOp ?_)
  | (with_reducible refine wpAny_UnaryOp ?_)
  | ((with_reducible refine e_list ?hs ?_); (case hs => rfl))
  | ((with_reducible refine e_tuple ?hs ?_); (case hs => rfl))
  | ((with_reducible refine' e_comp ?hc ?hk ?hn ?hs ?_); (case hc => rfl); (case hk => rfl); (case hn => rfl); (case hs => intro _; rfl))
  | ((with_reducible refine u_ord (by assumption) ?_); intro _ _ _)
  | ((with_reducible refine i_plain ?hs ?_); (case hs => rfl))
  | ((with_reducible refine' n_ld (by assumption) (by assumption) ?h1 ?h2 ?_ ?h3); (case h1 => rfl); (case h2 => rfl); (case h3 => decide))
  | ((with_reducible refine' n_ldn (by assumption) (by assumption) ?h1 ?h2 ?_); (case h1 => rfl); (case h2 => rfl))
  | ((with_reducible refine' n_ldc (by assumption) (by assumption) ?h1 ?h2 ?h4 ?_ ?h3); (case h1 => rfl); (case h2 => rfl); (case h4 => walk_at "mem"); (case h3 => decide))
  | ((with_reducible refine' n_ldf (by assumption) (by assumption) ?h1 ?h2 ?h4 ?_ ?h3 ?h5); (case h1 => rfl); (case h2 => rfl); (case h4 => walk_at "mem"); (case h3 => decide); (case h5 => decide))
  | ((with_reducible refine n_st (by assumption) (by assumption) ?h1 ?_); (case h1 => rfl); intro _ _)
  | (with_reducible refine wpAny_Constant_none ?_)
  | (with_reducible refine wpAny_Break ?_)
  | (with_reducible refine truthy_none ?_)
  | (with_reducible refine wpAny_isTrue_Not ?_)
  | (with_reducible refine wpAny_isTrue_BoolOp ?_)
  | (with_reducible refine wpAny_allTrue_And_cons ?_)
  | (with_reducible refine wpAny_allTrue_And_nil ?_)
  | ((with_reducible refine c_int (by assumption) ?_); intro _ _ _)
  | ((with_reducible refine c_str (by assumption) ?_); intro _ _ _)
  | ((with_reducible refine o_add (by assumption) ?_); intro _ _ _)
  | ((with_reducible refine o_sub (by assumption) ?_); intro _ _ _)
  | ((with_reducible refine o_and (by assumption) ?_); intro _ _ _)
  | ((with_reducible refine o_xor (by assumption) ?_); intro _ _ _)
  | ((with_reducible refine o_shr (by decide) (by assumption) ?_); intro _ _ _)
  | ((with_reducible refine o_ishr (by decide) (by assumption) ?_); intro _ _ _)
  | ((with_reducible refine o_mul (Or.inr (by decide)) (by assumption) ?_); intro _ _ _)
  | ((with_reducible refine o_mul (Or.inl (by decide)) (by assumption) ?_); intro _ _ _)
  | ((with_reducible refine o_fdiv (by decide) (by decide) (by assumption) ?_); intro _ _ _)
  | ((with_reducible refine o_mod (by decide) (by assumption) ?_); intro _ _ _)
  | ((with_reducible refine o_pow (by decide) (by decide) (by decide) (by assumption) ?_); intro _ _ _)
  | ((with_reducible refine o_neg (by assumption) ?_); intro _ _ _)
  | ((with_reducible refine u_len (by assumption) (by omega) ?_); intro _ _ _)
  | (with_reducible refine j_eq ?_)
  | (with_reducible refine j_lt ?_)
  | (with_reducible refine j_le ?_)
  | (with_reducible refine j_ge ?_)
  | (with_reducible refine j_tr ?_)
  | ((with_reducible refine i_cmp ?hs ?_); (case hs => rfl))
  | ((with_reducible refine e_cmp ?hs ?_); (case hs => rfl))
  | ((with_reducible refine x_tup2S ?hs ?hw ?_); (case hs => rfl); (case hw => rfl))
  | ((with_reducible refine x_tup2 ?hs ?hw ?_); (case hs => rfl); (case hw => rfl))
  | ((with_reducible refine x_asub ?hs ?_); (case hs => rfl))
  | ((with_reducible refine x_expr ?hi ?hs ?_); (case hi => rfl); (case hs => rfl))
  | ((with_reducible refine Subscript_Slice ?_ ?ht); (case ht => intro _ _; rfl))
  | (with_reducible refine wpAny_Slice ?_)
  | (with_reducible refine evalPart_some_step ?_)
  | (with_reducible refine evalPart_none_step ?_)
  | (with_reducible refine Subscript_ ?_)
  | (with_reducible refine ao_name ?_)
  | (with_reducible refine ao_asg ?_)
  | (with_reducible refine ao_nil ?_)
  | (with_reducible refine truthy_int ?_)
  | ((with_reducible refine b_range (by assumption) (by assumption) (by assumption) ?h1 ?_); (case h1 => rfl))
  | ((with_reducible refine b_len (by assumption) (by assumption) (by assumption) ?h1 ?_); (case h1 => rfl))
  | ((with_reducible refine b_ord (by assumption) (by assumption) (by assumption) ?h1 ?_); (case h1 => rfl))
  | ((with_reducible refine b_chr (by assumption) (by assumption) (by assumption) ?h1 ?_); (case h1 => rfl))
  | ((with_reducible refine b_sum (by assumption) (by assumption) (by assumption) ?h1 ?_); (case h1 => rfl))
  | ((with_reducible refine b_abs (by assumption) (by assumption) (by assumption) ?h1 ?_); (case h1 => rfl))
  | ((with_reducible refine b_map (by assumption) (by assumption) (by assumption) ?h1 ?_); (case h1 => rfl))
  | ((with_reducible refine b_int (by assumption) (by assumption) (by assumption) ?h1 ?_); (case h1 => rfl))
  | ((with_reducible refine b_list (by assumption) (by assumption) (by assumption) ?h1 ?_); (case h1 => rfl))
  | ((with_reducible refine g_search_reverse (by assumption) (by assumption) (by assumption) ?h1 ?_); (case h1 => rfl))
  | ((with_reducible refine g_get_line_col (by assumption) (by assumption) (by assumption) ?h1 ?_); (case h1 => rfl))
  | ((with_reducible refine g_gen (by assumption) (by assumption) (by assumption) ?h1 ?_); (case h1 => rfl))
  | ((with_reducible refine g_page (by assumption) (by assumption) (by assumption) ?h1 ?_); (case h1 => rfl))
  | ((with_reducible refine g_turn (by assumption) (by assumption) (by assumption) ?h1 ?_); (case h1 => rfl))
  | ((with_reducible refine g_sum (by assumption) (by assumption) (by assumption) ?h1 ?_); (case h1 => rfl))
  | ((with_reducible refine g_known (by assumption) (by assumption) (by assumption) ?h1 ?_); (case h1 => rfl))
  | ((with_reducible refine g_hit (by assumption) (by assumption) (by assumption) ?h1 ?_); (case h1 => rfl))
  | ((with_reducible refine g_prog (by assumption) (by assumption) (by assumption) ?h1 ?_); (case h1 => rfl))
  | ((with_reducible refine g_found (by assumption) (by assumption) (by assumption) ?h1 ?_); (case h1 => rfl))
  | ((with_reducible refine g_firsts (by assumption) (by assumption) (by assumption) ?h1 ?_); (case h1 => rfl))
  | ((with_reducible refine g_due (by assumption) (by assumption) (by assumption) ?h1 ?_); (case h1 => rfl)))
theorem menu3 {x : Int} {ta tb tc : Tok} (h0 : 0 ≤ x.fmod 4) (h1 : x.fmod 4 < 4) (h3 : ¬ x.fmod 4 = 3) :
    ∃ t, ([Value.str (Str.ofString "a") ta, .str (Str.ofString "b") tb, .str ⟨#[((x.fdiv 4).fmod 256).toNat]⟩ tc].toArray)[(x.fmod 4).toNat]? = some (.str ⟨#[signOf x]⟩ t) := by
  unfold signOf
  by_cases a0 : x.fmod 4 = 0
  · rw [if_pos a0, a0]; exact ⟨ta, rfl⟩
  rw [if_neg a0]
  by_cases a1 : x.fmod 4 = 1
  · rw [if_pos a1, a1]; exact ⟨tb, rfl⟩
  rw [if_neg a1]
  have a2 : x.fmod 4 = 2 := by omega
  rw [a2]; exact ⟨tc, rfl⟩
section
variable {prog : Program} {w : World} {g : Heap} {A : Around} {b s : Shared} {L : Addr} {l : List (Str × Value)} {fs : List (Addr × Obj)} {Q : Value → Shared → Prop}
theorem d_page (G : Gs w g) (F : Fm g b L l fs s) (r : Room 1 A) {a : Addr} {vs : List Value} {ns : List Int} {k : Nat} (hp : Pt s.heap a (listOf vs.toArray k)) (hi : IntsAre vs ns) (hlen : ns.length ≤ 1000)
    (h : ∀ R vs k s', (∀ p ∈ fs, p.1 ≠ R) → b.heap.objs.size ≤ R → RowsAre vs (page ns) → Fm g b L l ((R, listOf vs.toArray k) :: fs) s' → Q (.ref R) s') : wpAny (model prog w) A (call (.ref 42) [.ref a]) Q NoE s := by
  have hsl := sizeLine_eq
  refine enter (fd := fdAt w 42) (body := bdAt w 42) (binds := [("numbers", .ref a)]) G F.kg F.td (Nat.le_trans F.gb F.size) r rfl (by kernel_rfl) rfl rfl (by kernel_rfl) (by kernel_rfl) (fun L s₁ F₁ R => ?_) rfl rfl rfl
  have pe : PlainEnv (callEnv (fdAt w 42) L 42) L := ⟨rfl, rfl, rfl, rfl⟩
  have F₂ : Fm g s L [(Str.ofString "numbers", .ref a)] [] s₁ := F₁
  refine wpAny_execs_cons ?_
  repeat walk_at "m"
  rename_i t0 s₂ F₃
  refine q_list F₃ (by show 1 ≤ sizeLine; omega) fun R₀ s₃ _ hR F₄ => ?_
  repeat walk_at "m"
  rename_i s₄ F₅
  refine wpAny_For ?_
  repeat walk_at "m"
  have F₆ := F₅.weak (l' := [(Str.ofString "rows", .ref R₀)]) ⟨rfl, trivial⟩
  have hb := F₅.base hp
  refine iterList F₆ ⟨_, hb.1.1, rfl, k, rfl⟩ ⟨hb.1.2, hb.2⟩ ?_
  refine forIt (env := callEnv (fdAt w 42) L 42) R.hh (fun i l fs => l = [(Str.ofString "rows", .ref R₀)] ∧ ∃ vs k, RowsAre vs (page (ns.take i)) ∧ fs = [(R₀, listOf vs.toArray k)])
    (fun i l₁ fs₁ ⟨_, _, _, _, e⟩ p hp => ⟨_, .head _, by rw [e] at hp; rw [List.mem_singleton.mp hp]⟩) ⟨rfl, _, _, .cons [] t0 .nil, rfl⟩ pe rfl ?_ ?_
  · rintro i v l₁ fs₁ itr s₅ hi' hv ⟨rfl, rs, k₁, hrs, rfl⟩ hitr F₇
    have hRa : R₀ ≠ a := fun q => absurd (Heap.lt_size hp.1) (Nat.not_lt.mpr (q ▸ hR))
    have hne : ∀ p ∈ itr, p.1 ≠ R₀ := fun p hp => (hitr p hp).elim (fun e => by rw [List.mem_singleton.mp e]; exact Ne.symm hRa) fun e => Ne.symm (e _ (.head _))
    have hlt : i < ns.length := by rw [← hi.length]; simpa using hi'
    obtain ⟨tv, hx⟩ := hi.get i ns[i] (List.getElem?_eq_getElem hlt)
    have hv' : v = .int ns[i] tv := by
      have : vs[i]? = some v := by simpa using hv
      rw [hx] at this; exact (Option.some.inj this).symm
    subst hv'
    have hpg : page (ns.take (i + 1)) = pageStep (page (ns.take i)) ns[i] := by
      rw [List.take_add_one, List.getElem?_eq_getElem hlt]; exact page_snoc _ _
    have hsz := page_size (ns.take i)
    rw [List.length_take, Nat.min_eq_left (Nat.le_of_lt hlt)] at hsz
    have hpn := page_ne (ns.take i)
    rw [hpg]
    generalize page (ns.take i) = rows at *
    generalize ns[i] = x at *
    repeat walk_at "m"
    split
    · rename_i hc
      have hc' : x.fmod 4 = 3 := eq_of_beq hc
      repeat walk_at "m"
      refine m_meth rfl rfl (by decide) rfl PySem.F.plainAttrs_list PySem.F.slot_list_append PySem.F.type_list_append ?_
      walk_at "m"
      rename_i F₈
      refine ⟨(IsL F₈ (.head _)).typeIs, fun a e => by cases e; exact ⟨_, (F₈.own _ (.head _)).1.1, rfl⟩, ?_⟩
      repeat walk_at "m"
      rename_i te s₆ F₉
      refine u_append (fs' := fun k' => (R₀, listOf (rs ++ [Value.str (Str.ofString "") te]).toArray k') :: itr) F₉ hR (by rw [hrs.length]; omega) (.head _) (fun k' => .head hne) fun k' s₇ F₁₀ => ?_
      refine ⟨rfl, ?_⟩
      repeat walk_at "m"
      refine ⟨[(Str.ofString "rows", .ref R₀)], _, ⟨rfl, rs ++ [Value.str (Str.ofString "") te], k', ?_, rfl⟩, F₁₀.weak (l' := [(Str.ofString "rows", .ref R₀)]) ⟨rfl, trivial⟩⟩
      rw [pageStep, if_pos hc']
      exact hrs.append (.cons [] te .nil)
    · rename_i hc
      have hc' : ¬ x.fmod 4 = 3 := fun q => hc (by rw [q]; rfl)
      have hf0 := Int.fmod_nonneg_of_pos x (show (0 : Int) < 4 by decide)
      have hf1 := Int.fmod_lt_of_pos x (show (0 : Int) < 4 by decide)
      have hg0 := Int.fmod_nonneg_of_pos (x.fdiv 4) (show (0 : Int) < 256 by decide)
      have hg1 := Int.fmod_lt_of_pos (x.fdiv 4) (show (0 : Int) < 256 by decide)
      obtain ⟨tl, hlast⟩ := hrs.last hpn
      have hlast' : rs.toArray[rs.toArray.size - 1]? = some (.str ⟨(rows.getLastD []).toArray⟩ tl) := by rw [List.size_toArray, List.getElem?_toArray]; exact hlast
      repeat walk_at "m"
      rename_i F₈
      refine t_last rfl (IsL F₈ (.head _)) hlast' ?_
      repeat walk_at "m"
      rename_i F₉
      refine u_chr hg0 (by omega) F₉ fun tc s₆ F₁₀ => ?_
      repeat walk_at "m"
      refine q_list F₁₀ (by show 3 ≤ sizeLine; omega) fun m₁ s₇ _ _ F₁₁ => ?_
      repeat walk_at "m"
      rename_i F₁₂
      refine t_listE rfl (IsL F₁₂ (.head _)) hf0 (by omega) (menu3 hf0 hf1 hc') fun tq => ?_
      have hll : (rows.getLastD []).length ≤ i := by
        rw [List.getLastD_eq_getLast?]
        cases hq : rows.getLast? with
        | none => simp
        | some q => exact hsz.2 q (List.mem_of_getLast? hq)
      refine o_adds F₁₂ (by show (rows.getLastD []).toArray.size + 1 ≤ sizeLine; rw [List.size_toArray]; omega) fun ts s₈ F₁₃ => ?_
      repeat walk_at "m"
      rename_i s₉ F₁₄
      have hvn : rs ≠ [] := fun q => hpn (List.eq_nil_of_length_eq_zero (by rw [← hrs.length, q]; rfl))
      refine set_last (F₁₄.own (R₀, listOf rs.toArray k₁) (.tail _ (.head _))).1.1 (by rw [List.size_toArray]; exact List.length_pos_iff.mpr hvn) fun h' hg hs => ?_
      rw [setLast_eq rs _ hvn] at hg
      have F₁₅ := (F₁₄.sub (fs' := (R₀, listOf rs.toArray k₁) :: itr) fun p hp => .tail _ hp).upd (n := s₉.toks) (.head hne) (NP.seq rfl) hR hg hs
      repeat walk_at "m"
      refine ⟨[(Str.ofString "rows", .ref R₀)], _, ⟨rfl, _, k₁, ?_, rfl⟩, F₁₅.weak (l' := [(Str.ofString "rows", .ref R₀)]) ⟨rfl, trivial⟩⟩
      rw [pageStep, if_neg hc']
      refine hrs.dropLast.append ?_
      have e : (⟨(rows.getLastD []).toArray⟩ ++ ⟨#[signOf x]⟩ : Str) = ⟨(rows.getLastD [] ++ [signOf x]).toArray⟩ := by
        exact Str.ext' (by rw [Str.cps_append]; simp)
      rw [e]
      exact .cons _ _ .nil
  · rintro l₁ fs₁ s₅ ⟨rfl, rs, k₁, hrs, rfl⟩ F₇
    rw [show vs.toArray.size = ns.length from by simp [hi.length], List.take_length] at hrs
    repeat walk_at "m"
    exact h R₀ rs k₁ _ (F.neOf hR) (Nat.le_trans F.size hR) hrs (F.ret G F₇ (ns := [_]) fun p hp => ⟨hp, by rw [List.mem_singleton.mp hp]; exact hR⟩)
end
end Mine
/- MI -/
namespace Mine
open PyProof.Rows PySem PySem.W

theorem codeAmong_app (pos : Pos) (a b : Int) (ta tb : Tok) (c : Value) : ∀ l : List Value, TriplesOk l →
    codeAmong pos (l ++ [.int a ta, .int b tb, c]) = (codeAmong pos l).or (if a == pos.line && b == pos.col then some c else none)
  | [], _ => rfl
  | .int x tx :: .int y ty :: d :: r, h => by
    show (if x == pos.line && y == pos.col then some d else codeAmong pos (r ++ _)) = (if x == pos.line && y == pos.col then some d else codeAmong pos r).or _
    rw [codeAmong_app pos a b ta tb c r h]
    split <;> simp
theorem triples_app (a b : Int) (ta tb : Tok) (c : Value) : ∀ l : List Value, TriplesOk l → TriplesOk (l ++ [.int a ta, .int b tb, c])
  | [], _ => trivial
  | .int x tx :: .int y ty :: d :: r, h => triples_app a b ta tb c r h
theorem triples_one : ∀ {l : List Value} {q : Str} {t : Tok}, TriplesOk l → l[1]? ≠ some (.str q t)
  | [], _, _, _, e => by cases e
  | .int x tx :: .int y ty :: d :: r, q, t, _, e => by cases e

/-- which code, which table -/
def CP (c P : Addr) : Prop := (c = 65 ∧ P = 61) ∨ (c = 72 ∧ P = 68)
theorem Gs.hd {w : World} {g : Heap} {c P : Addr} (G : Gs w g) (h : CP c P) : CodeHd g c P := by
  rcases h with ⟨rfl, rfl⟩ | ⟨rfl, rfl⟩
  · exact G.C1
  · exact G.C2
theorem Gs.none {w : World} {g : Heap} {c P : Addr} (G : Gs w g) (h : CP c P) : g.get? P = none := by
  rcases h with ⟨rfl, rfl⟩ | ⟨rfl, rfl⟩
  · exact G.n1
  · exact G.n2
theorem Td.at {h : Heap} {c P : Addr} (x : Td h) (hc : CP c P) : TabOk h P := by
  rcases hc with ⟨rfl, rfl⟩ | ⟨rfl, rfl⟩
  · exact x.1
  · exact x.2
theorem TabOk.ext {h h' : Heap} {P P' : Addr} {ps : Array Value} (x : TabOk h P') (hne : P' ≠ P) (hP : h.get? P = some (tabObj ps)) (ht : TriplesOk ps.toList) (k : Heap.ExtBut P h h') : TabOk h' P' := by
  obtain ⟨qs, e, t, r⟩ := x
  refine ⟨qs, k _ _ hne e, t, fun pos cv hc => ?_⟩
  obtain ⟨c, o, vs, tq, e1, e2, e3, e4⟩ := r pos cv hc
  refine ⟨c, o, vs, tq, e1, k c o (fun q => ?_) e2, e3, e4⟩
  rw [q, hP] at e2; cases e2; cases e3
  rw [← Array.getElem?_toList] at e4
  exact triples_one ht e4
theorem Td.grow {h h' : Heap} {c P : Addr} {ps : Array Value} {pos : Pos} {c' : Addr} {qual : Str} (x : Td h) (hc : CP c P) (hP : h.get? P = some (tabObj ps)) (ht : TriplesOk ps.toList) (hq : qual = qualAt pos.line) (k : Heap.ExtBut P h h')
    (hr : h'.CodeRec (.ref c') qual) (hP' : h'.get? P = some (tabObj (ps ++ #[rawInt pos.line, rawInt pos.col, .ref c']))) : Td h' := by
  have hat := x.at hc
  have new : TabOk h' P := by
    obtain ⟨qs, e, t, r⟩ := hat
    rw [hP] at e; cases e
    have e2 : (ps ++ #[rawInt pos.line, rawInt pos.col, .ref c']).toList = ps.toList ++ [.int pos.line 0, .int pos.col 0, .ref c'] := by simp [rawInt]
    refine ⟨_, hP', by rw [e2]; exact triples_app _ _ _ _ _ _ ht, fun pos' cv hcv => ?_⟩
    rw [e2, codeAmong_app _ _ _ _ _ _ _ ht] at hcv
    cases hf : codeAmong pos' ps.toList with
    | some cv' =>
      rw [hf] at hcv
      obtain rfl : cv' = cv := by simpa using hcv
      obtain ⟨c, o, vs, tq, e1, e2, e3, e4⟩ := r pos' cv' hf
      refine ⟨c, o, vs, tq, e1, k c o (fun q => ?_) e2, e3, e4⟩
      rw [q, hP] at e2; cases e2; cases e3
      rw [← Array.getElem?_toList] at e4
      exact triples_one ht e4
    | none =>
      rw [hf] at hcv
      simp only [Option.none_or] at hcv
      split at hcv
      · rename_i hl
        obtain rfl := Option.some.inj hcv
        have : pos.line = pos'.line := by
          have := (Bool.and_eq_true_iff.mp hl).1
          have := eq_of_beq this
          omega
        rw [← this, ← hq]; exact hr
      · cases hcv
  rcases hc with ⟨_, rfl⟩ | ⟨_, rfl⟩
  · exact ⟨new, x.2.ext (by decide) hP ht k⟩
  · exact ⟨x.1.ext (by decide) hP ht k, new⟩

section
variable {prog : Program} {w : World} {g : Heap} {A : Around} {b s : Shared} {l : List (Str × Value)} {fs : List (Addr × Obj)} {env : Env} {L : Addr} {pos : Pos} {Q : Value → Shared → Prop}

/-- what is needed of the top where a function is made -/
theorem Fm.made (G : Gs w g) (F : Fm g b L l fs s) {c P : Addr} (hc : CP c P) : ∃ mg ps, s.heap.Ns mainGlobals mg ∧ CodeHd s.heap c P ∧ s.heap.get? P = some (tabObj ps) ∧ TriplesOk ps.toList ∧ mainGlobals ≠ P ∧ s.heap.BuiltinsAt mg P ∧
    (∀ pos cv, codeAmong pos ps.toList = some cv → s.heap.CodeRec cv (qualAt pos.line)) := by
  obtain ⟨loose, mean, mg, mb, T⟩ := G.T
  obtain ⟨ps, hP, ht, hr⟩ := F.td.at hc
  obtain ⟨bm, ob, b1, b2, b3, b4, b5, b6⟩ := T.bmain
  have hgP : mainGlobals ≠ P := fun q => by
    obtain ⟨o, es, ep, e, hd, _⟩ := T.g
    rw [q, G.none hc] at e; cases e
  have hbP : bm ≠ P := fun q => by rw [q, G.none hc] at b3; cases b3
  have hbG : bm ≠ mainGlobals := fun q => by
    obtain ⟨o, es, ep, e, hd, _⟩ := T.g
    rw [q, e] at b3; cases b3; rw [hd] at b6; cases b6
  exact ⟨mg, ps, T.g.keeps F.kg, (G.hd hc).keeps F.kg, hP, ht, hgP, ⟨bm, ob, b1, b2, hbG, hbP, F.kg _ _ b3, b4, b5, b6⟩, hr⟩
theorem Fm.grow (G : Gs w g) (F : Fm g b L l fs s) {c P : Addr} {h' : Heap} {n : Nat} (hc : CP c P) (k : Heap.ExtBut P s.heap h') (td : Td h') : Fm g b L l fs { s with heap := h', toks := n } := by
  have hP : ∀ a, a ≠ 61 → a ≠ 68 → a ≠ P := fun a h1 h2 => by rcases hc with ⟨_, rfl⟩ | ⟨_, rfl⟩ <;> assumption
  refine F.call G ⟨rfl, rfl, rfl, fun a o h1 h2 e => k a o (hP a h1 h2) e⟩ td
/-- a new function stands in the frame, its code with it -/
theorem Fm.fn (G : Gs w g) (F : Fm g b L l fs s) {h' : Heap} {fo : Obj} {fd : FuncData} {cv : Value} {qual : Str} {n : Nat} (F' : Fm g b L l fs { s with heap := h', toks := n }) (hsz : s.heap.objs.size ≤ h'.objs.size) (hfo : fo.data = .func fd) (hr : h'.CodeRec cv qual) :
    ∃ c oc vs t, cv = .ref c ∧ oc.data = .fields vs ∧ vs[1]? = some (.str qual t) ∧ (∀ p ∈ fs, p.1 ≠ h'.objs.size) ∧ b.heap.objs.size ≤ h'.objs.size ∧ c ≠ h'.objs.size ∧ Fm g b L l ((h'.objs.size, fo) :: (c, oc) :: fs) { s with heap := h'.push fo, toks := n } := by
  obtain ⟨c, oc, vs, t, e1, e2, e3, e4⟩ := hr
  have hne : c ≠ 61 ∧ c ≠ 68 := by
    obtain ⟨⟨ps, hp, htp, _⟩, ⟨qs, hq, htq, _⟩⟩ := F'.td
    refine ⟨fun q => ?_, fun q => ?_⟩
    · rw [q] at e2; rw [show ({ s with heap := h', toks := n } : Shared).heap = h' from rfl] at hp; rw [hp] at e2; cases e2; cases e3
      rw [← Array.getElem?_toList] at e4; exact triples_one htp e4
    · rw [q] at e2; rw [show ({ s with heap := h', toks := n } : Shared).heap = h' from rfl] at hq; rw [hq] at e2; cases e2; cases e3
      rw [← Array.getElem?_toList] at e4; exact triples_one htq e4
  have hcL : c ≠ L := fun q => by
    obtain ⟨m, ⟨o, es, ep, ho, hd, _⟩, _⟩ := F'.ns
    rw [← q] at ho
    rw [show ({ s with heap := h', toks := n } : Shared).heap = h' from rfl, e2] at ho; cases ho; rw [e3] at hd; cases hd
  have F₂ := (F'.has (a := c) (o := oc) ⟨e2, hne⟩ hcL).push (o := fo) (n := n) (by obtain ⟨x, y, z, u⟩ := fo; simp only at hfo; subst hfo; rfl)
  exact ⟨c, oc, vs, t, e1, e3, e4, fun p hp => Nat.ne_of_lt (Heap.lt_size (F'.own p hp).1.1), F'.size, Nat.ne_of_lt (Heap.lt_size e2), F₂⟩
end
end Mine
/- MJ -/
namespace Mine
open PyProof.Rows PySem PySem.W

/-- a function object -/
abbrev fnO (fd : FuncData) (d : Option Addr) : Obj := { cls := .type "function", dict := d, data := .func fd }
theorem store_fn : StoreFacts "function" [.type "function", .type "object"] "object.__setattr__" "object" where
  mro := by kernel_rfl
  slot := .of (owner := "object") (n := "__setattr__") (by rw [typeLookup_type, builtinLookup_eq_fast]; kernel_rfl) (by decide +kernel) (by decide +kernel) (by decide +kernel)
    (by first | exact .inl (by decide +kernel) | exact .inr (by decide +kernel)) (by rw [isSubtype_type]; kernel_rfl)
  entry := PySem.F.entry_object_sa
  kind := by decide +kernel
  split := by decide +kernel
  hasOwner := by decide +kernel
  args := fun a b c => by unfold argsOk; kernel_rfl
  passes := fun self => by kernel_rfl
theorem fn_span : typeLookup (.type "function") "span" = pure none := by rw [typeLookup_type, builtinLookup_eq_fast]; kernel_rfl
theorem fn_search : typeLookup (.type "function") "search" = pure none := by rw [typeLookup_type, builtinLookup_eq_fast]; kernel_rfl
theorem fn_bool : typeLookup (.type "function") "__bool__" = pure none := by rw [typeLookup_type, builtinLookup_eq_fast]; kernel_rfl
theorem fn_len : typeLookup (.type "function") "__len__" = pure none := by rw [typeLookup_type, builtinLookup_eq_fast]; kernel_rfl
theorem fn_getattr : typeLookup (.type "function") "__getattr__" = pure none := by rw [typeLookup_type, builtinLookup_eq_fast]; kernel_rfl
theorem fn_ga : Slot "function" "__getattribute__" "object.__getattribute__" :=
  .of (owner := "object") (n := "__getattribute__") (by rw [typeLookup_type, builtinLookup_eq_fast]; kernel_rfl) (by decide +kernel) (by decide +kernel) (by decide +kernel)
    (by first | exact .inl (by decide +kernel) | exact .inr (by decide +kernel)) (by rw [isSubtype_type]; kernel_rfl)
section
variable {prog : Program} {w : World} {g : Heap} {A : Around} {b s : Shared} {l : List (Str × Value)} {fs : List (Addr × Obj)} {env : Env} {L : Addr} {pos : Pos} {Q : Value → Shared → Prop}

theorem fn_set {f : Addr} {fd : FuncData} {name : Str} {v : Value} {K : Unit → Shared → Prop} (hl : typeLookup (.type "function") name = pure none) (F : Fm g b L l ((f, fnO fd none) :: fs) s) (hnew : b.heap.objs.size ≤ f) (hne : ∀ p ∈ fs, p.1 ≠ f)
    (h : ∀ d od es ep s', od.data = .dict es ep → StrKeys es → nsFind es name = some v → (∀ p ∈ fs, p.1 ≠ d) → f ≠ d → b.heap.objs.size ≤ d → Fm g b L l ((d, od) :: (f, fnO fd (some d)) :: fs) s' → K () s') : wpAny (model prog w) A (setAttr (.ref f) name v) K NoE s := by
  have hf := (F.own _ (.head _)).1.1
  have hT : ({ s with toks := s.toks + 1 } : Shared).TypeIs (.ref f) "function" := ⟨_, hf, rfl⟩
  unfold setAttr
  refine wpAny_bind (wpAny_mkText (wpAny_bind (wpAny_callSpecial?_slot hT store_fn.slot (wpAny_call_entry store_fn.slot hT store_fn.entry ?_ (store_fn.args _ _ _)))))
  rw [osa_eq, refuse_eq]
  refine wpAny_bind (wpAny_bind (wpAny_typeOf hT (wpAny_bind (wpAny_of_eq store_fn.mro ?_))))
  rw [store_fn.passes]
  refine wpAny_pure (wpAny_bind (wpAny_typeOf hT (wpAny_bind (wpAny_of_eq hl (wpAny_bind (wpAny_pure ?_))))))
  show wpAny _ _ (Builtin.ObjectAttr.storeInOwnDict (.ref f) (.type "function") (.str name s.toks) name v false) _ _ _
  unfold Builtin.ObjectAttr.storeInOwnDict
  have e1 : ownStreamTells (.ref f) (.type "function") = pure () := rfl
  rw [e1]
  refine wpAny_bind (wpAny_pure ?_)
  have e2 : ((Value.type "function") == Value.type "module") = false := by decide
  rw [e2]
  refine wpAny_bind ?_
  show wpAny _ _ (instanceDict f true) _ _ _
  unfold instanceDict
  refine wpAny_bind (wpAny_loadPart hf ?_)
  have e3 : typeHasDict (.type "function") = true := by kernel_rfl
  have e4 : finalisedInACycleAlone "function" = false := by kernel_rfl
  show wpAny _ _ (if (!true || !typeHasDict (.type "function")) = true then pure none else (alloc { cls := .type "dict", data := .dict #[] } >>= fun d => update f (fun o => { o with dict := some d }) >>= fun _ => dictMade (.type "function") f d)) _ _ _
  rw [e3]
  refine wpAny_bind (wpAny_alloc (wpAny_bind (wpAny_update (Heap.get?_push_of_some _ hf) ?_)))
  show wpAny _ _ ((if finalisedInACycleAlone "function" then register f else pure ()) >>= fun _ => pure (some s.heap.objs.size)) _ _ _
  rw [e4]
  refine wpAny_bind (wpAny_pure (wpAny_pure ?_))
  show wpAny _ _ (Builtin.ObjectAttr.storeInDict s.heap.objs.size (.str name s.toks) name v) _ _ _
  have hfd : f ≠ s.heap.objs.size := Nat.ne_of_lt (Heap.lt_size hf)
  have F1 := F.push (o := dictOf [] 0) (n := s.toks + 1) rfl
  have F2 := F1.upd (h' := (s.heap.push (dictOf [] 0)).update f fun o => { o with dict := some s.heap.objs.size }) (n := s.toks + 1) (a := f) (o := fnO fd none) (o' := fnO fd (some s.heap.objs.size))
    (.tail (Ne.symm hfd) (.head hne)) (NP.func rfl) hnew (Heap.get?_update_self _ (Heap.get?_push_of_some _ hf) rfl) (Heap.SameBut.update ..)
  have D := (F2.own _ (.head _)).1.1
  unfold Builtin.ObjectAttr.storeInDict
  refine wpAny_bind (wpAny_pure ?_)
  refine wpAny_bind ?_
  unfold nsSet
  refine wpAny_bind (wpAny_bind (wpAny_askSetting (wpAny_pure (wpAny_bind (wpAny_mkText (wpAny_bind (wpAny_loadPart D ?_)))))))
  have c : aRefKeyMayBeTheName name #[] = false := by rw [aRefKeyMayBeTheName_at]; simp
  dsimp only
  rw [c]
  refine wpAny_updatePart D ?_
  have e5 := putName_dict name (PyData.keyHash w.params name) (.str name (s.toks + 1)) v [] 0
  have D' := Heap.get?_update_self (Obj.putName name (PyData.keyHash w.params name) (.str name (s.toks + 1)) v) D (by rw [e5]; rfl)
  have D'' := D'
  rw [e5] at D''
  have F3 := F2.upd (n := s.toks + 1 + 1) (.head fun p hp => by
    rcases List.mem_cons.mp hp with rfl | hp
    · exact hfd
    · exact F.newNe p (.tail _ hp)) (NP.dict rfl) F.size D'' (Heap.SameBut.update ..)
  refine wpAny_bind (wpAny_lookBehind D'' (by rfl) ?_)
  refine wpAny_pure ⟨_, rfl, wpAny_pure ?_⟩
  refine h _ _ _ _ _ rfl ?_ ?_ (fun p hp => F.newNe p (.tail _ hp)) hfd F.size F3
  · intro e he
    have he' : e ∈ [(⟨PyData.keyHash w.params name, .str name (s.toks + 1), v⟩ : DictEntry)] := by simpa [putL] using he
    rw [List.mem_singleton.mp he']
    exact ⟨_, _, rfl⟩
  · unfold nsFind findBy
    simp [putL, Value.isStr]
theorem args_ga (a c : Value) : argsOk "object.__getattribute__" ⟨[a, c], []⟩ := by unfold argsOk; kernel_rfl
theorem fn_get {E : Value → Shared → Prop} {f d r : Addr} {fd : FuncData} {od : Obj} {es : Array DictEntry} {ep : Nat} {name : Str} {expr : Bool} (hl : typeLookup (.type "function") name = pure none) (hf : s.heap.get? f = some (fnO fd (some d))) (hd : s.heap.get? d = some od)
    (hdd : od.data = .dict es ep) (hk : StrKeys es) (hv : nsFind es name = some (.ref r)) (h : Q (.ref r) { s with toks := s.toks + 1 }) : wpAny (model prog w) A (getAttr (.ref f) name expr) Q E s := by
  have hT : ({ s with toks := s.toks + 1 } : Shared).TypeIs (.ref f) "function" := ⟨_, hf, rfl⟩
  unfold getAttr
  refine wpAny_bind (wpAny_mkText ?_)
  unfold getAttrBy
  refine wpAny_holding (wpAny_bind (wpAny_typeOf hT (wpAny_bind (wpAny_of_eq fn_ga.lookup ?_))))
  show wpAny _ _ (getAttrByItsOwn (.ref f) (.str name s.toks) (.type "function") (.builtin "object.__getattribute__") true expr) _ _ _
  unfold getAttrByItsOwn
  refine wpAny_bind (wpAny_pure ?_)
  refine wpAny_bind (wpAny_attempt (wpAny_holding ?_))
  have e0 : callGetattribute (.ref f) (.str name s.toks) (.builtin "object.__getattribute__") expr = boundAndCalled (.builtin "object.__getattribute__") (.ref f) (.str name s.toks) := by
    unfold callGetattribute
    cases expr <;> rfl
  rw [e0]
  unfold boundAndCalled
  refine wpAny_bind (wpAny_of_eq (fn_ga.bind _) ?_)
  refine wpAny_call_entry fn_ga hT PySem.F.entry_object_getattribute ?_ (args_ga _ _)
  show wpAny _ _ (typeOf (.ref f) >>= _) _ _ _
  refine wpAny_bind (wpAny_typeOf hT (wpAny_bind ?_))
  unfold Builtin.ObjectAttr.find
  refine wpAny_bind (wpAny_of_eq hl (wpAny_bind (wpAny_pure (wpAny_bind (wpAny_pure ?_)))))
  show wpAny _ _ (Builtin.ObjectAttr.ownThenClass (.ref f) name none none) _ _ _
  unfold Builtin.ObjectAttr.ownThenClass
  refine wpAny_bind ?_
  show wpAny _ _ (Builtin.ObjectAttr.ownDict f >>= fun d => Builtin.ObjectAttr.inDict name d) _ _ _
  unfold Builtin.ObjectAttr.ownDict
  refine wpAny_bind (wpAny_bind (wpAny_loadPart hf ?_))
  show wpAny _ _ (instanceDict f false) _ _ _
  unfold instanceDict
  refine wpAny_bind (wpAny_loadPart hf ?_)
  refine wpAny_pure (a := some d) ?_
  show wpAny _ _ (nsGet d name) _ _ _
  refine wpAny_nsGet (m := fun x => nsFind es x) ⟨od, es, ep, hd, hdd, hk, fun _ => rfl⟩ ?_
  rw [hv]
  refine wpAny_bind (wpAny_rule (wpAny_pure ?_))
  exact wpAny_pure ⟨_, rfl, wpAny_pure h⟩
theorem fn_truthy {E : Value → Shared → Prop} {f : Addr} {fd : FuncData} {d : Option Addr} {K : Bool → Shared → Prop} (hf : s.heap.get? f = some (fnO fd d)) (h : K true s) : wpAny (model prog w) A (truthy (.ref f)) K E s := by
  have hT : s.TypeIs (.ref f) "function" := ⟨_, hf, rfl⟩
  unfold truthy
  refine wpAny_bind (m := callSpecial? (.ref f) "__bool__") ?_
  unfold callSpecial?
  refine wpAny_bind (wpAny_specialOf hT fn_bool (wpAny_pure ?_))
  exact wpAny_bind (wpAny_specialOf hT fn_len (wpAny_pure h))
/-- o.name(..) of a function's own attribute -/
theorem fn_meth {E : Value → Shared → Prop} {o : Expr} {name : Str} {apos : Pos} {es : List Expr} (hb : attributeBase o name env (eval o env) = eval o env) (hs : (es.all fun e => !isStarred e) = true) (hn : es.length < 20) (hline : (apos.endLine == pos.line) = true) (hl : typeLookup (.type "function") name = pure none)
    (h : wpAny (model prog w) A (eval o env) (fun ov s₁ => ∃ f d r fd od es' ep, ov = .ref f ∧ s₁.heap.get? f = some (fnO fd (some d)) ∧ s₁.heap.get? d = some od ∧ od.data = .dict es' ep ∧ StrKeys es' ∧ nsFind es' name = some (.ref r) ∧
      wpAny (model prog w) A (callWith pos (.ref r) [] (backTo pos (starEach es env)) []) Q E { s₁ with toks := s₁.toks + 1 }) E s) :
    wpAny (model prog w) A (eval (.Call (.Attribute o name apos) es [] pos) env) Q E s := by
  rw [arm_eval_Call, hb]
  refine wpAny_bind (wpAny_mono h (fun ov s₁ h₁ => ?_) fun _ _ e => e)
  obtain ⟨f, d, r, fd, od, es', ep, rfl, hf, hd, hdd, hk, hv, hc⟩ := h₁
  refine wpAny_bind (wpAny_standAt ?_)
  have hT : s₁.TypeIs (.ref f) "function" := ⟨_, hf, rfl⟩
  unfold methodCall
  have hfew : methodCallForm (es.length + ([] : List Keyword).length) (backTo pos (starEach es env)) (backToKw pos (keywordEach [] env)) = true := by
    unfold methodCallForm
    rw [backTo_all hs]
    simp [keywordEach, backToKw]
    omega
  rw [hfew]
  refine wpAny_bind (wpAny_holding ?_)
  show wpAny _ _ (getMethod (.ref f) name _) _ _ _
  unfold getMethod
  refine wpAny_bind (wpAny_specialOf hT fn_ga.lookup ?_)
  have e1 : (Manifest.canonical "object.__getattribute__" != "object.__getattribute__") = false := by decide +kernel
  show wpAny _ _ (if (Manifest.canonical "object.__getattribute__" != "object.__getattribute__") = true then _ else _) _ _ _
  rw [e1]
  refine wpAny_bind (wpAny_specialOf hT fn_getattr ?_)
  refine wpAny_bind (wpAny_specialOf hT hl ?_)
  refine wpAny_bind (fn_get hl hf hd hdd hk hv ?_)
  refine wpAny_pure ?_
  refine wpAny_bind ?_
  have e2 : methodCallPos true o env apos pos = pure pos := by
    unfold methodCallPos
    rw [hline]; rfl
  rw [e2]
  exact wpAny_pure hc
end
end Mine
/- ML -/
namespace Mine
open PyProof.Rows PySem PySem.W
/-- newer than the base, or no dict -/
def NewO (b : Shared) (p : Addr × Obj) : Prop := b.heap.objs.size ≤ p.1 ∨ ∀ es n, p.2.data ≠ .dict es n
theorem NewO.le {b s : Shared} {p : Addr × Obj} (h : NewO s p) (k : b.heap.objs.size ≤ s.heap.objs.size) : NewO b p := h.imp (Nat.le_trans k) id
section
variable {prog : Program} {w : World} {g : Heap} {A : Around} {b s : Shared} {l : List (Str × Value)} {fs : List (Addr × Obj)} {env : Env} {L : Addr} {pos : Pos} {Q : Value → Shared → Prop}

/-- a lambda is made -/
theorem e_lam {args : Arguments} {body : Expr} {scope : Scope} {clos : List (Str × Addr)} {c P : Addr} (G : Gs w g) (F : Fm g b L l fs s) (hc : CP c P) (hcode : env.code = .ref c) (hcl : closureFor scope env = pure clos) (hge : env.globals = mainGlobals)
    (hd : defaultsOf args env = ([], [])) (hq : env.qual ++ "<lambda>" = qualAt pos.line)
    (h : ∀ f cc oc vs t pm ctv s', oc.data = .fields vs → vs[1]? = some (.str (env.qual ++ "<lambda>") t) → (∀ p ∈ fs, p.1 ≠ f) → b.heap.objs.size ≤ f → cc ≠ f →
      Fm g b L l ((f, fnO (kla_fn "<lambda>" (env.qual ++ "<lambda>") args body scope clos pm (.ref cc) ctv) none) :: (cc, oc) :: fs) s' → Q (.ref f) s') : wpAny (model prog w) A (eval (.Lambda args body scope pos) env) Q NoE s := by
  rw [arm_eval_Lambda, hd]
  refine wpAny_bind (wpAny_evalAll_nil (wpAny_bind (wpAny_holding (wpAny_pure ?_))))
  obtain ⟨mg, ps, hg, C, hP, ht, hgP, hb, hr⟩ := F.made G hc
  cases hf : codeAmong pos ps.toList with
  | none =>
    refine kla_makeFunction hcl hge hg hcode C hP ht hf hgP hb fun c' ctv h' tk hx hsz hlt hrec hP' => ?_
    have td := F.td.grow hc hP ht hq hx hrec hP'
    have F' := F.grow G (n := tk) hc hx td
    obtain ⟨cc, oc, vs, t, e1, e2, e3, e4, e5, e6, F''⟩ := F.fn G (fo := kla_obj "<lambda>" (env.qual ++ "<lambda>") args body scope clos ((mg "__name__").getD .none) c' ctv) F' (Nat.le_trans hsz (Nat.le_of_lt hlt)) rfl hrec
    cases e1
    exact h _ _ oc vs t _ _ _ e2 e3 e4 e5 e6 F''
  | some cv =>
    refine kla_makeFunctionHit hcl hge hg hcode C hP ht hf hb fun ctv h' tk hx hsz => ?_
    have F' := F.keep (n := tk) hx
    have hrec := (hr pos cv hf).keeps hx
    rw [← hq] at hrec
    obtain ⟨cc, oc, vs, t, e1, e2, e3, e4, e5, e6, F''⟩ := F.fn G (fo := { cls := .type "function", data := .func (kla_fn "<lambda>" (env.qual ++ "<lambda>") args body scope clos ((mg "__name__").getD .none) cv ctv) }) F' hsz rfl hrec
    subst e1
    exact h _ _ oc vs t _ _ _ e2 e3 e4 e5 e6 F''
/-- a lambda without parameters is called -/
theorem enterE (G : Gs w g) (F : Fm g b L l fs s) {d : Nat} (r : Room (d + 1) A) {a cc : Addr} {dd : Option Addr} {name qual : Str} {args : Arguments} {body : Expr} {scope : Scope} {clos : List (Str × Addr)} {pm ctv : Value} {oc : Obj} {vs : Array Value} {t : Tok}
    (ho : s.heap.get? a = some (fnO (kla_fn name qual args body scope clos pm (.ref cc) ctv) dd)) (hcc : s.heap.get? cc = some oc) (hoc : oc.data = .fields vs) (hv : vs[1]? = some (.str qual t))
    (hbind : bindArgs (kla_fn name qual args body scope clos pm (.ref cc) ctv) ⟨[], []⟩ = pure []) (hcell : (scope.names.all fun x => x.2 != .cell) = true)
    (h : ∀ L' s', Fm g s L' [] [] s' → Room d (A.deeper (callEnv (kla_fn name qual args body scope clos pm (.ref cc) ctv) L' a)) →
      wpAny (model prog w) (A.deeper (callEnv (kla_fn name qual args body scope clos pm (.ref cc) ctv) L' a)) (eval body (callEnv (kla_fn name qual args body scope clos pm (.ref cc) ctv) L' a)) Q NoE s')
    (hco : scope.isCoroutine = false) (hgen : scope.isGenerator = false) (hk : scope.kind = .function) : wpAny (model prog w) A (call (.ref a) []) Q NoE s := by
  refine wpAny_call (kla_callFunE (body := body) (by have := r.dp; omega) ho rfl hco hgen rfl ⟨cc, oc, vs, t, rfl, hcc, hoc, hv⟩ ?_)
  rw [hbind]
  refine wpAny_pure (wpAny_newFunctionEnv (fun x hx => by simpa using List.all_eq_true.mp hcell x hx) (by intro y hy; simp at hy) (fun h₁ hns hsb => ⟨(G.nolimit F.kg).fresh _ hsb, ?_⟩) hk)
  have keep : ∀ b o, s.heap.get? b = some o → h₁.get? b = some o := fun b o e => hsb.extBut b o (Nat.ne_of_lt (Heap.lt_size e)) (Heap.get?_push_of_some _ e)
  refine kla_codeExpr (wpAny_mono (h s.heap.objs.size _ ⟨Le.heap keep, fun b o e => keep b o (F.kg b o e), F.td.keeps keep, ⟨_, hns, fun x v e => by cases e⟩, Nat.le_refl _, F.td.lt, Nat.le_trans F.gb F.size, fun p hp => nomatch hp⟩ r.deeper) (fun _ _ q => q) fun _ _ e => e.elim)
theorem Fm.neL (F : Fm g b L l fs s) {a : Addr} {o : Obj} (h : s.heap.get? a = some o) (hd : ∀ es n, o.data ≠ .dict es n) : a ≠ L := fun q => by
  obtain ⟨m, ⟨o', es, ep, ho, hdd, _⟩, _⟩ := F.ns
  rw [← q, h] at ho; cases ho; exact hd _ _ hdd
theorem Fm.neO (F : Fm g b L l fs s) {a c : Addr} {o o' : Obj} (h : (a, o) ∈ fs) (h' : (c, o') ∈ fs) (hne : o.data ≠ o'.data) : a ≠ c := fun q => by
  have e1 : s.heap.get? a = some o := (F.own _ h).1.1
  have e2 : s.heap.get? c = some o' := (F.own _ h').1.1
  rw [q, e2] at e1; cases e1; exact hne rfl
theorem Fm.retN {L' : Addr} {l' : List (Str × Value)} {fs' ns : List (Addr × Obj)} {s' : Shared} (G : Gs w g) (F : Fm g b L l fs s) (F' : Fm g s L' l' fs' s') (h : ∀ p ∈ ns, p ∈ fs' ∧ NewO s p) : Fm g b L l (ns ++ fs) s' :=
  (F.call G F'.le F'.td).add fun p hp => ⟨(F'.own p (h p hp).1).1, (h p hp).2.elim (fun q => Nat.ne_of_gt (Nat.lt_of_lt_of_le F.Llt q)) fun q => (F.call G F'.le F'.td).neL (F'.own p (h p hp).1).1.1 q⟩
end
end Mine
/- F66 -/
namespace Mine
open PyProof.Rows PySem PySem.W
local macro_rules | `(tactic| walk_at "mem") => `(tactic| first | exact List.Mem.head _ | (refine List.Mem.tail _ ?_; walk_at "mem"))
local macro_rules | `(tactic| walk_at "m") => `(tactic| first
  | (with_reducible refine wpAny_execs_cons ?_)
  | (with_reducible refine wpAny_execs_nil ?_)
  | ((with_reducible refine x_assign ?hs ?_); (case hs => rfl))
  | (with_reducible refine wpAny_AugAssign_Name ?_)
  | (with_reducible refine wpAny_If ?_)
  | (with_reducible refine wpAny_Return_some ?_)
  | (with_reducible refine a_cons ?_)
  | (with_reducible refine a_nil ?_)
  | ((with_reducible refine k_type0 ?hs ?_); (case hs => rfl))
  | ((with_reducible refine k_bi0 ?hs ?_); (case hs => rfl))
  | ((with_reducible refine' k_def0 (by assumption) ?hk ?hs ?_); (case hk => rfl); (case hs => rfl))
  | (with_reducible refine wpAny_Call_NameR ?_)
  | (with_reducible refine wpAny_BinOp ?_)
  | (with_reducible refine wpAny_UnaryOp ?_)
  | ((with_reducible refine e_list ?hs ?_); (case hs => rfl))
  | ((with_reducible refine e_tuple ?hs ?_); (case hs => rfl))
  | ((with_reducible refine' e_comp ?hc ?hk ?hn ?hs ?_); (case hc => rfl); (case hk => rfl); (case hn => rfl); (case hs => intro _; rfl))
  | ((with_reducible refine u_ord (by assumption) ?_); intro _ _ _)
  | ((with_reducible refine i_plain ?hs ?_); (case hs => rfl))
  | ((with_reducible refine' n_ld (by assumption) (by assumption) ?h1 ?h2 ?_ ?h3); (case h1 => rfl); (case h2 => rfl); (case h3 => decide))
  | ((with_reducible refine' n_ldn (by assumption) (by assumption) ?h1 ?h2 ?_); (case h1 => rfl); (case h2 => rfl))
  | ((with_reducible refine' n_ldc (by assumption) (by assumption) ?h1 ?h2 ?h4 ?_ ?h3); (case h1 => rfl); (case h2 => rfl); (case h4 => walk_at "mem"); (case h3 => decide))
  | ((with_reducible refine' n_ldf (by assumption) (by assumption) ?h1 ?h2 ?h4 ?_ ?h3 ?h5); (case h1 => rfl); (case h2 => rfl); (case h4 => walk_at "mem"); (case h3 => decide); (case h5 => decide))
  | ((with_reducible refine n_st (by assumption) (by assumption) ?h1 ?_); (case h1 => rfl); intro _ _)
  | (with_reducible refine wpAny_Constant_none ?_)
  | (with_reducible refine wpAny_Break ?_)
  | (with_reducible refine truthy_none ?_)
  | (with_reducible refine wpAny_isTrue_Not ?_)
  | (with_reducible refine wpAny_isTrue_BoolOp ?_)
  | (with_reducible refine wpAny_allTrue_And_cons ?_)
  | (with_reducible refine wpAny_allTrue_And_nil ?_)
  | ((with_reducible refine c_int (by assumption) ?_); intro _ _ _)
  | ((with_reducible refine c_str (by assumption) ?_); intro _ _ _)
  | ((with_reducible refine o_add (by assumption) ?_); intro _ _ _)
  | ((with_reducible refine o_sub (by assumption) ?_); intro _ _ _)
  | ((with_reducible refine o_and (by assumption) ?_); intro _ _ _)
  | ((with_reducible refine o_xor (by assumption) ?_); intro _ _ _)
  | ((with_reducible refine o_shr (by decide) (by assumption) ?_); intro _ _ _)
  | ((with_reducible refine o_ishr (by decide) (by assumption) ?_); intro _ _ _)
  | ((with_reducible refine o_mul (Or.inr (by decide)) (by assumption) ?_); intro _ _ _)
  | ((with_reducible refine o_mul (Or.inl (by decide)) (by assumption) ?_); intro _ _ _)
  | ((with_reducible refine o_fdiv (by decide) (by decide) (by assumption) ?_); intro _ _ _)
  | ((with_reducible refine o_mod (by decide) (by assumption) ?_); intro _ _ _)
  | ((with_reducible refine o_pow (by decide) (by decide) (by decide) (by assumption) ?_); intro _ _ _)
  | ((with_reducible refine o_neg (by assumption) ?_); intro _ _ _)
  | ((with_reducible refine u_len (by assumption) (by omega) ?_); intro _ _ _)
  | (with_reducible refine j_eq ?_)
  | (with_reducible refine j_lt ?_)
  | (with_reducible refine j_le ?_)
  | (with_reducible refine j_ge ?_)
  | (with_reducible refine j_tr ?_)
  | ((with_reducible refine i_cmp ?hs ?_); (case hs => rfl))
  | ((with_reducible refine e_cmp ?hs ?_); (case hs => rfl))
  | ((with_reducible refine x_tup2S ?hs ?hw ?_); (case hs => rfl); (case hw => rfl))
  | ((with_reducible refine x_tup2 ?hs ?hw ?_); (case hs => rfl); (case hw => rfl))
  | ((with_reducible refine x_asub ?hs ?_); (case hs => rfl))
  | ((with_reducible refine x_expr ?hi ?hs ?_); (case hi => rfl); (case hs => rfl))
  | ((with_reducible refine Subscript_Slice ?_ ?ht); (case ht => intro _ _; rfl))
  | (with_reducible refine wpAny_Slice ?_)
  | (with_reducible refine evalPart_some_step ?_)
  | (with_reducible refine evalPart_none_step ?_)
  | (with_reducible refine Subscript_ ?_)
  | (with_reducible refine ao_name ?_)
  | (with_reducible refine ao_asg ?_)
  | (with_reducible refine ao_nil ?_)
  | (with_reducible refine truthy_int ?_)
  | ((with_reducible refine b_range (by assumption) (by assumption) (by assumption) ?h1 ?_); (case h1 => rfl))
  | ((with_reducible refine b_len (by assumption) (by assumption) (by assumption) ?h1 ?_); (case h1 => rfl))
  | ((with_reducible refine b_ord (by assumption) (by assumption) (by assumption) ?h1 ?_); (case h1 => rfl))
  | ((with_reducible refine b_chr (by assumption) (by assumption) (by assumption) ?h1 ?_); (case h1 => rfl))
  | ((with_reducible refine b_sum (by assumption) (by assumption) (by assumption) ?h1 ?_); (case h1 => rfl))
  | ((with_reducible refine b_abs (by assumption) (by assumption) (by assumption) ?h1 ?_); (case h1 => rfl))
  | ((with_reducible refine b_map (by assumption) (by assumption) (by assumption) ?h1 ?_); (case h1 => rfl))
  | ((with_reducible refine b_int (by assumption) (by assumption) (by assumption) ?h1 ?_); (case h1 => rfl))
  | ((with_reducible refine b_list (by assumption) (by assumption) (by assumption) ?h1 ?_); (case h1 => rfl))
  | ((with_reducible refine g_search_reverse (by assumption) (by assumption) (by assumption) ?h1 ?_); (case h1 => rfl))
  | ((with_reducible refine g_get_line_col (by assumption) (by assumption) (by assumption) ?h1 ?_); (case h1 => rfl))
  | ((with_reducible refine g_gen (by assumption) (by assumption) (by assumption) ?h1 ?_); (case h1 => rfl))
  | ((with_reducible refine g_page (by assumption) (by assumption) (by assumption) ?h1 ?_); (case h1 => rfl))
  | ((with_reducible refine g_turn (by assumption) (by assumption) (by assumption) ?h1 ?_); (case h1 => rfl))
  | ((with_reducible refine g_sum (by assumption) (by assumption) (by assumption) ?h1 ?_); (case h1 => rfl))
  | ((with_reducible refine g_known (by assumption) (by assumption) (by assumption) ?h1 ?_); (case h1 => rfl))
  | ((with_reducible refine g_hit (by assumption) (by assumption) (by assumption) ?h1 ?_); (case h1 => rfl))
  | ((with_reducible refine g_prog (by assumption) (by assumption) (by assumption) ?h1 ?_); (case h1 => rfl))
  | ((with_reducible refine g_found (by assumption) (by assumption) (by assumption) ?h1 ?_); (case h1 => rfl))
  | ((with_reducible refine g_firsts (by assumption) (by assumption) (by assumption) ?h1 ?_); (case h1 => rfl))
  | ((with_reducible refine g_due (by assumption) (by assumption) (by assumption) ?h1 ?_); (case h1 => rfl)))
/-- a function that hands back (i, j) wherever its objects stand -/
def SpanOK (prog : Program) (w : World) (hs : List (Addr × Obj)) (sp : Addr) (i j : Int) : Prop :=
  ∀ (g : Heap) (b : Shared) (L : Addr) (l : List (Str × Value)) (fs : List (Addr × Obj)) (s : Shared) (A : Around) (Q : Value → Shared → Prop), Gs w g → Fm g b L l fs s → (∀ p ∈ hs, p ∈ fs) → Room 1 A →
    (∀ a t u s', (∀ p ∈ fs, p.1 ≠ a) → b.heap.objs.size ≤ a → Fm g b L l ((a, tupOf #[.int i t, .int j u]) :: fs) s' → Q (.ref a) s') → wpAny (model prog w) A (call (.ref sp) []) Q NoE s
theorem SpanOK.mono {prog : Program} {w : World} {hs hs' : List (Addr × Obj)} {sp : Addr} {i j : Int} (h : SpanOK prog w hs sp i j) (k : ∀ p ∈ hs, p ∈ hs') : SpanOK prog w hs' sp i j :=
  fun g b L l fs s A Q G F hk r hq => h g b L l fs s A Q G F (fun p hp => hk p (k p hp)) r hq
/-- a hit -/
def HitIn (prog : Program) (w : World) (hs : List (Addr × Obj)) (f : Addr) (i j : Int) : Prop :=
  ∃ fd d od es ep sp fd2, (f, fnO fd (some d)) ∈ hs ∧ (d, od) ∈ hs ∧ od.data = .dict es ep ∧ StrKeys es ∧ nsFind es "span" = some (.ref sp) ∧ (sp, fnO fd2 none) ∈ hs ∧ SpanOK prog w hs sp i j
theorem HitIn.mono {prog : Program} {w : World} {hs hs' : List (Addr × Obj)} {f : Addr} {i j : Int} (h : HitIn prog w hs f i j) (k : ∀ p ∈ hs, p ∈ hs') : HitIn prog w hs' f i j := by
  obtain ⟨fd, d, od, es, ep, sp, fd2, h1, h2, h3, h4, h5, h6, h7⟩ := h
  exact ⟨fd, d, od, es, ep, sp, fd2, k _ h1, k _ h2, h3, h4, h5, k _ h6, h7.mono k⟩
section
variable {prog : Program} {w : World} {g : Heap} {A : Around} {b s : Shared} {L : Addr} {l : List (Str × Value)} {fs : List (Addr × Obj)} {Q : Value → Shared → Prop}
theorem d_hit (G : Gs w g) (F : Fm g b L l fs s) (r : Room 1 A) {i j : Int} {t u : Tok}
    (h : ∀ f hs s', HitIn prog w hs f i j → (∀ p ∈ hs, NewO b p) → Fm g b L l (hs ++ fs) s' → Q (.ref f) s') : wpAny (model prog w) A (call (.ref 66) [.int i t, .int j u]) Q NoE s := by
  refine enterC (fd := fdAt w 66) (body := bdAt w 66) (binds := [("first", .int i t), ("behind", .int j u)]) G F.kg F.td (Nat.le_trans F.gb F.size) r rfl (by kernel_rfl) rfl rfl rfl (by kernel_rfl)
    [] (fun L => trivial) (fun L => [(Str.ofString "behind", L + 2), (Str.ofString "first", L + 1)]) (fun L => rfl) [Str.ofString "behind", Str.ofString "first"] (fun L => rfl) (by decide) (fun L s₁ fs₁ F₁ hcs R => ?_) rfl rfl rfl
  obtain ⟨o₂, fs', rfl, ho₂, _, o₁, fs'', rfl, ho₁, _, rfl⟩ := hcs
  have pe : PlainEnv (callEnvC (fdAt w 66) L 66) L := ⟨rfl, rfl, rfl, rfl⟩
  have e₁ : o₁ = setC o₁ (.int i t) := by obtain ⟨x, y, z, q⟩ := o₁; simp only at ho₁; subst ho₁; rfl
  have e₂ : o₂ = setC o₂ (.int j u) := by obtain ⟨x, y, z, q⟩ := o₂; simp only at ho₂; subst ho₂; rfl
  rw [e₁, e₂] at F₁
  refine wpAny_execs_cons ?_
  walk_at "m"
  refine e_lam G F₁ (.inl ⟨rfl, rfl⟩) rfl rfl rfl rfl (by kernel_rfl) fun f cc oc vs tq pm ctv s₂ hoc hvs hne hbf hcf F₂ => ?_
  walk_at "m"
  rename_i s₃ F₃
  walk_at "m"
  refine plainObj_wpAny_Assign_Attribute ?_ rfl
  refine e_lam G F₃ (.inl ⟨rfl, rfl⟩) rfl rfl rfl rfl (by kernel_rfl) fun sp cc₂ oc₂ vs₂ tq₂ pm₂ ctv₂ s₄ hoc₂ hvs₂ hne₂ hbf₂ hcf₂ F₄ => ?_
  walk_at "m"
  have hfsp : f ≠ sp := hne₂ _ (.head _)
  have hfc₂ : f ≠ cc₂ := F₄.neO (.tail _ (.tail _ (.head _))) (.tail _ (.head _)) (by rw [hoc₂]; nofun)
  have F₅ := F₄.sub (fs' := [(f, _), (sp, _), (cc₂, _), (L + 2, _), (L + 1, _)]) (fun p hp => by
    rcases List.mem_cons.mp hp with rfl | hp
    · exact .tail _ (.tail _ (.head _))
    rcases List.mem_cons.mp hp with rfl | hp
    · exact .head _
    rcases List.mem_cons.mp hp with rfl | hp
    · exact .tail _ (.head _)
    · exact .tail _ (.tail _ (.tail _ (.tail _ hp))))
  refine fn_set fn_span F₅ hbf (fun p hp => ?_) fun d od es ep s₅ hod hsk hns hdne hfd hbd F₆ => ?_
  · rcases List.mem_cons.mp hp with rfl | hp
    · exact Ne.symm hfsp
    rcases List.mem_cons.mp hp with rfl | hp
    · exact Ne.symm hfc₂
    · exact hne p hp
  have F₇ := F₆.weak (l' := [(Str.ofString "hit", _)]) ⟨rfl, trivial⟩
  clear F₁ F₂ F₃ F₄ F₅
  walk_at "m"
  walk_at "m"
  walk_at "m"
  have fin : ∀ (l' : List (Str × Value)) (hs : List (Addr × Obj)) s', Fm g s L l' hs s' → HitIn prog w hs f i j → (∀ p ∈ hs, NewO s p) → Q (.ref f) s' :=
    fun l' hs s' F' hh hn => h f hs s' hh (fun p hp => (hn p hp).le F.size) (F.retN G F' fun p hp => ⟨hp, hn p hp⟩)
  refine fin _ _ _ F₆ ?_ fun p hp => ?_
  · refine ⟨_, d, od, es, ep, sp, _, .tail _ (.head _), .head _, hod, hsk, hns, .tail _ (.tail _ (.head _)), ?_⟩
    intro g' b' L' l' fs' s' A' Q' G' F' hk R' hq
    have hsp := (F'.own _ (hk _ (.tail _ (.tail _ (.head _))))).1.1
    have hcc := (F'.own _ (hk _ (.tail _ (.tail _ (.tail _ (.head _)))))).1.1
    refine enterE G' F' R' hsp hcc hoc₂ hvs₂ rfl rfl (fun L₂ s₆ F₈ R₂ => ?_) rfl rfl rfl
    have hc2 := (F'.own _ (hk _ (.tail _ (.tail _ (.tail _ (.tail _ (.head _))))))).1
    have hc1 := (F'.own _ (hk _ (.tail _ (.tail _ (.tail _ (.tail _ (.tail _ (.head _)))))))).1
    have F₉ : Fm g' s' L₂ [] [(L + 1, setC o₁ (.int i t)), (L + 1 + 1, setC o₂ (.int j u))] s₆ := (F₈.has (F₈.base hc2).1 (F₈.base hc2).2).has (F₈.base hc1).1 (F₈.base hc1).2
    walk_at "m"
    walk_at "m"
    refine n_ldf F₉ ⟨rfl, rfl, rfl, rfl⟩ rfl rfl (.head _) ?_ (by decide) (by decide)
    walk_at "m"
    refine n_ldf F₉ ⟨rfl, rfl, rfl, rfl⟩ rfl rfl (.tail _ (.head _)) ?_ (by decide) (by decide)
    walk_at "m"
    refine q_tuple F₉ (by show 2 ≤ sizeLine; rw [sizeLine_eq]; decide) fun a s₇ _ ha F₁₀ => ?_
    exact hq a t u _ (F'.neOf ha) (Nat.le_trans F'.size ha) (F'.ret G' F₁₀ (ns := [_]) fun p hp => ⟨by rw [List.mem_singleton.mp hp]; exact .head _, by rw [List.mem_singleton.mp hp]; exact ha⟩)
  · rcases List.mem_cons.mp hp with rfl | hp
    · exact .inl hbd
    rcases List.mem_cons.mp hp with rfl | hp
    · exact .inl hbf
    rcases List.mem_cons.mp hp with rfl | hp
    · exact .inl hbf₂
    rcases List.mem_cons.mp hp with rfl | hp
    · exact .inr (by rw [hoc₂]; nofun)
    rcases List.mem_cons.mp hp with rfl | hp
    · exact .inr nofun
    · rw [List.mem_singleton.mp hp]; exact .inr nofun
end
end Mine
/- MW -/
namespace Mine
open PyProof.Rows PySem PySem.W
theorem iteT {c : Bool} {P Q : Prop} (hc : c = true) (h : P) : if c = true then P else Q := by rw [if_pos hc]; exact h
theorem iteF {c : Bool} {P Q : Prop} (hc : c = false) (h : Q) : if c = true then P else Q := by rw [hc]; exact h
section
variable {prog : Program} {w : World} {g : Heap} {A : Around} {b s : Shared} {l : List (Str × Value)} {fs : List (Addr × Obj)} {env : Env} {L : Addr} {pos : Pos} {Q : Value → Shared → Prop}

theorem whileL {test : Expr} {body : List Stmt} {Q : Flow → Shared → Prop} (J : Nat → List (Str × Value) → List (Addr × Obj) → Prop) (n : Nat) (F : Fm g b L l fs s) (hJ : J n l fs)
    (turn : ∀ n l₁ fs₁ s₁, J n l₁ fs₁ → Fm g b L l₁ fs₁ s₁ → wpAny (model prog w) A (isTrue test env (eval test env)) (fun c s₂ => if c = true then wpAny (model prog w) A (execs body env) (fun f s₃ => match f with
        | .next | .cont => ∃ m l₂ fs₂, m < n ∧ J m l₂ fs₂ ∧ Fm g b L l₂ fs₂ s₃
        | .brk => Q .next s₃
        | .ret v => Q (.ret v) s₃) NoE s₂ else Q .next s₂) NoE s₁) : wpAny (model prog w) A (exec (.While test body [] pos) env) Q NoE s := by
  refine wpAny_While (codeAny_whileLoop (fun k s₁ => ∃ l₁ fs₁, J k l₁ fs₁ ∧ Fm g b L l₁ fs₁ s₁) ?_ n ⟨l, fs, hJ, F⟩)
  rintro k s₁ ⟨l₁, fs₁, hJ₁, F₁⟩
  refine wpAny_mono (turn k l₁ fs₁ s₁ hJ₁ F₁) (fun c s₂ h => ?_) fun _ _ e => e.elim
  cases c with
  | true =>
    simp only [if_true] at h ⊢
    refine wpAny_mono h (fun f s₃ q => ?_) fun _ _ e => e.elim
    cases f with
    | next => obtain ⟨m, l₂, fs₂, h1, h2, h3⟩ := q; exact ⟨m, h1, l₂, fs₂, h2, h3⟩
    | cont => obtain ⟨m, l₂, fs₂, h1, h2, h3⟩ := q; exact ⟨m, h1, l₂, fs₂, h2, h3⟩
    | brk => exact q
    | ret v => exact q
  | false =>
    simp only [Bool.false_eq_true, if_false] at h ⊢
    exact wpAny_execs_nil h
theorem Fm.addB {ns : List (Addr × Obj)} (F : Fm g b L l fs s) (h : ∀ p ∈ ns, Pt b.heap p.1 p.2) : Fm g b L l (ns ++ fs) s := F.add fun p hp => F.base (h p hp)

/-- what a search answers -/
def SearchOK (prog : Program) (w : World) (hs : List (Addr × Obj)) (sf : Addr) (size : Nat) (srch : List Nat → Nat → Option Nat) (ok : List Nat → Prop) : Prop :=
  ∀ (g : Heap) (b : Shared) (L : Addr) (l : List (Str × Value)) (fs : List (Addr × Obj)) (s : Shared) (A : Around) (Q : Value → Shared → Prop) (row : List Nat) (t : Tok) (args : List Value) (start : Nat), Gs w g → Fm g b L l fs s → (∀ p ∈ hs, p ∈ fs) → Room 5 A → ok row →
    ((args = [.str ⟨row.toArray⟩ t] ∧ start = 0) ∨ ∃ u, args = [.str ⟨row.toArray⟩ t, .int start u]) → start ≤ 2000 →
    (srch row start = none → ∀ s', Fm g b L l fs s' → Q .none s') → (∀ k f hs' s', srch row start = some k → HitIn prog w hs' f k ((k + size : Nat) : Int) → (∀ p ∈ hs', NewO b p) → Fm g b L l (hs' ++ fs) s' → Q (.ref f) s') → wpAny (model prog w) A (call (.ref sf) args) Q NoE s
theorem SearchOK.mono {hs hs' : List (Addr × Obj)} {sf : Addr} {size : Nat} {srch : List Nat → Nat → Option Nat} {ok : List Nat → Prop} (h : SearchOK prog w hs sf size srch ok) (k : ∀ p ∈ hs, p ∈ hs') : SearchOK prog w hs' sf size srch ok :=
  fun g b L l fs s A Q row t args start G F hk => h g b L l fs s A Q row t args start G F (fun p hp => hk p (k p hp))
/-- a thing that searches -/
def ProgIn (prog : Program) (w : World) (hs : List (Addr × Obj)) (p : Addr) (size : Nat) (srch : List Nat → Nat → Option Nat) (ok : List Nat → Prop) : Prop :=
  ∃ fd d od es ep sf fd2, (p, fnO fd (some d)) ∈ hs ∧ (d, od) ∈ hs ∧ od.data = .dict es ep ∧ StrKeys es ∧ nsFind es "search" = some (.ref sf) ∧ (sf, fnO fd2 none) ∈ hs ∧ SearchOK prog w hs sf size srch ok
theorem ProgIn.mono {hs hs' : List (Addr × Obj)} {p : Addr} {size : Nat} {srch : List Nat → Nat → Option Nat} {ok : List Nat → Prop} (h : ProgIn prog w hs p size srch ok) (k : ∀ p ∈ hs, p ∈ hs') : ProgIn prog w hs' p size srch ok := by
  obtain ⟨fd, d, od, es, ep, sp, fd2, h1, h2, h3, h4, h5, h6, h7⟩ := h
  exact ⟨fd, d, od, es, ep, sp, fd2, k _ h1, k _ h2, h3, h4, h5, k _ h6, h7.mono k⟩

/-- h.span() of a hit that a name holds -/
theorem m_span {o : Expr} {apos : Pos} {f : Addr} {i j : Int} {hs : List (Addr × Obj)} (hb : attributeBase o "span" env (eval o env) = eval o env) (hline : (apos.endLine == pos.line) = true) (G : Gs w g) (F : Fm g b L l fs s) (r : Room 1 A)
    (he : ∀ (Q' : Value → Shared → Prop), Q' (.ref f) s → wpAny (model prog w) A (eval o env) Q' NoE s) (hh : HitIn prog w hs f i j) (hk : ∀ p ∈ hs, p ∈ fs)
    (h : ∀ a t u s', (∀ p ∈ fs, p.1 ≠ a) → b.heap.objs.size ≤ a → Fm g b L l ((a, tupOf #[.int i t, .int j u]) :: fs) s' → Q (.ref a) s') :
    wpAny (model prog w) A (eval (.Call (.Attribute o (Str.ofString "span") apos) [] [] pos) env) Q NoE s := by
  obtain ⟨fd, d, od, es, ep, sp, fd2, h1, h2, h3, h4, h5, h6, h7⟩ := hh
  refine fn_meth hb rfl (by decide) hline fn_span (he _ ?_)
  refine ⟨f, d, sp, fd, od, es, ep, rfl, (F.own _ (hk _ h1)).1.1, (F.own _ (hk _ h2)).1.1, h3, h4, h5, ?_⟩
  refine k_fn (o := fnO fd2 none) rfl rfl (a_nil ?_)
  exact ⟨(F.own _ (hk _ h6)).1.1, h7 g b L l fs _ A Q G F.toks hk r h⟩
/-- p.search(..) -/
theorem m_search {o : Expr} {apos : Pos} {p : Addr} {es : List Expr} {size : Nat} {srch : List Nat → Nat → Option Nat} {ok : List Nat → Prop} {hs : List (Addr × Obj)} (hb : attributeBase o "search" env (eval o env) = eval o env) (hst : (es.all fun e => !isStarred e) = true) (hn : es.length < 20) (hline : (apos.endLine == pos.line) = true) (F : Fm g b L l fs s)
    (he : ∀ (Q' : Value → Shared → Prop), Q' (.ref p) s → wpAny (model prog w) A (eval o env) Q' NoE s) (hh : ProgIn prog w hs p size srch ok) (hk : ∀ p ∈ hs, p ∈ fs)
    (h : ∀ sf fd2 s', (sf, fnO fd2 none) ∈ fs → SearchOK prog w hs sf size srch ok → Fm g b L l fs s' → argsW (model prog w) A env NoE es (fun vs s₁ => s₁.heap.get? sf = some (fnO fd2 none) ∧ wpAny (model prog w) A (call (.ref sf) vs) Q NoE s₁) s') :
    wpAny (model prog w) A (eval (.Call (.Attribute o (Str.ofString "search") apos) es [] pos) env) Q NoE s := by
  obtain ⟨fd, d, od, es', ep, sf, fd2, h1, h2, h3, h4, h5, h6, h7⟩ := hh
  refine fn_meth hb hst hn hline fn_search (he _ ?_)
  refine ⟨p, d, sf, fd, od, es', ep, rfl, (F.own _ (hk _ h1)).1.1, (F.own _ (hk _ h2)).1.1, h3, h4, h5, ?_⟩
  exact k_fn (o := fnO fd2 none) rfl hst (h sf fd2 _ (hk _ h6) h7 F.toks)
end
end Mine
/- F21 -/
namespace Mine
open PyProof.Rows PySem PySem.W
local macro_rules | `(tactic| walk_at "mem") => `(tactic| first | exact List.Mem.head _ | (refine List.Mem.tail _ ?_; walk_at "mem"))
local macro_rules | `(tactic| walk_at "m") => `(tactic| first
  | (with_reducible refine wpAny_execs_cons ?_)
  | (with_reducible refine wpAny_execs_nil ?_)
  | ((with_reducible refine x_assign ?hs ?_); (case hs => rfl))
  | (with_reducible refine wpAny_AugAssign_Name ?_)
  | (with_reducible refine wpAny_If ?_)
  | (with_reducible refine wpAny_Return_some ?_)
  | (with_reducible refine a_cons ?_)
  | (with_reducible refine a_nil ?_)
  | ((with_reducible refine k_type0 ?hs ?_); (case hs => rfl))
  | ((with_reducible refine k_bi0 ?hs ?_); (case hs => rfl))
  | ((with_reducible refine' k_def0 (by assumption) ?hk ?hs ?_); (case hk => rfl); (case hs => rfl))
  | (with_reducible refine wpAny_Call_NameR ?_)
  | (with_reducible refine wpAny_BinOp ?_)
  | (with_reducible refine wpAny_UnaryOp ?_)
  | ((with_reducible refine e_list ?hs ?_); (case hs => rfl))
  | ((with_reducible refine e_tuple ?hs ?_); (case hs => rfl))
  | ((with_reducible refine' e_comp ?hc ?hk ?hn ?hs ?_); (case hc => rfl); (case hk => rfl); (case hn => rfl); (case hs => intro _; rfl))
  | ((with_reducible refine u_ord (by assumption) ?_); intro _ _ _)
  | ((with_reducible refine i_plain ?hs ?_); (case hs => rfl))
  | ((with_reducible refine' n_ld (by assumption) (by assumption) ?h1 ?h2 ?_ ?h3); (case h1 => rfl); (case h2 => rfl); (case h3 => decide))
  | ((with_reducible refine' n_ldn (by assumption) (by assumption) ?h1 ?h2 ?_); (case h1 => rfl); (case h2 => rfl))
  | ((with_reducible refine' n_ldc (by assumption) (by assumption) ?h1 ?h2 ?h4 ?_ ?h3); (case h1 => rfl); (case h2 => rfl); (case h4 => walk_at "mem"); (case h3 => decide))
  | ((with_reducible refine' n_ldf (by assumption) (by assumption) ?h1 ?h2 ?h4 ?_ ?h3 ?h5); (case h1 => rfl); (case h2 => rfl); (case h4 => walk_at "mem"); (case h3 => decide); (case h5 => decide))
  | ((with_reducible refine n_st (by assumption) (by assumption) ?h1 ?_); (case h1 => rfl); intro _ _)
  | (with_reducible refine wpAny_Constant_none ?_)
  | (with_reducible refine wpAny_Break ?_)
  | (with_reducible refine truthy_none ?_)
  | (with_reducible refine wpAny_isTrue_Not ?_)
  | (with_reducible refine wpAny_isTrue_BoolOp ?_)
  | (with_reducible refine wpAny_allTrue_And_cons ?_)
  | (with_reducible refine wpAny_allTrue_And_nil ?_)
  | ((with_reducible refine c_int (by assumption) ?_); intro _ _ _)
  | ((with_reducible refine c_str (by assumption) ?_); intro _ _ _)
  | ((with_reducible refine o_add (by assumption) ?_); intro _ _ _)
  | ((with_reducible refine o_sub (by assumption) ?_); intro _ _ _)
  | ((with_reducible refine o_and (by assumption) ?_); intro _ _ _)
  | ((with_reducible refine o_xor (by assumption) ?_); intro _ _ _)
  | ((with_reducible refine o_shr (by decide) (by assumption) ?_); intro _ _ _)
  | ((with_reducible refine o_ishr (by decide) (by assumption) ?_); intro _ _ _)
  | ((with_reducible refine o_mul (Or.inr (by decide)) (by assumption) ?_); intro _ _ _)
  | ((with_reducible refine o_mul (Or.inl (by decide)) (by assumption) ?_); intro _ _ _)
  | ((with_reducible refine o_fdiv (by decide) (by decide) (by assumption) ?_); intro _ _ _)
  | ((with_reducible refine o_mod (by decide) (by assumption) ?_); intro _ _ _)
  | ((with_reducible refine o_pow (by decide) (by decide) (by decide) (by assumption) ?_); intro _ _ _)
  | ((with_reducible refine o_neg (by assumption) ?_); intro _ _ _)
  | ((with_reducible refine u_len (by assumption) (by omega) ?_); intro _ _ _)
  | (with_reducible refine j_eq ?_)
  | (with_reducible refine j_lt ?_)
  | (with_reducible refine j_le ?_)
  | (with_reducible refine j_ge ?_)
  | (with_reducible refine j_tr ?_)
  | ((with_reducible refine i_cmp ?hs ?_); (case hs => rfl))
  | ((with_reducible refine e_cmp ?hs ?_); (case hs => rfl))
  | ((with_reducible refine x_tup2S ?hs ?hw ?_); (case hs => rfl); (case hw => rfl))
  | ((with_reducible refine x_tup2 ?hs ?hw ?_); (case hs => rfl); (case hw => rfl))
  | ((with_reducible refine x_asub ?hs ?_); (case hs => rfl))
  | ((with_reducible refine x_expr ?hi ?hs ?_); (case hi => rfl); (case hs => rfl))
  | ((with_reducible refine Subscript_Slice ?_ ?ht); (case ht => intro _ _; rfl))
  | (with_reducible refine wpAny_Slice ?_)
  | (with_reducible refine evalPart_some_step ?_)
  | (with_reducible refine evalPart_none_step ?_)
  | (with_reducible refine Subscript_ ?_)
  | (with_reducible refine ao_name ?_)
  | (with_reducible refine ao_asg ?_)
  | (with_reducible refine ao_nil ?_)
  | (with_reducible refine truthy_int ?_)
  | ((with_reducible refine b_range (by assumption) (by assumption) (by assumption) ?h1 ?_); (case h1 => rfl))
  | ((with_reducible refine b_len (by assumption) (by assumption) (by assumption) ?h1 ?_); (case h1 => rfl))
  | ((with_reducible refine b_ord (by assumption) (by assumption) (by assumption) ?h1 ?_); (case h1 => rfl))
  | ((with_reducible refine b_chr (by assumption) (by assumption) (by assumption) ?h1 ?_); (case h1 => rfl))
  | ((with_reducible refine b_sum (by assumption) (by assumption) (by assumption) ?h1 ?_); (case h1 => rfl))
  | ((with_reducible refine b_abs (by assumption) (by assumption) (by assumption) ?h1 ?_); (case h1 => rfl))
  | ((with_reducible refine b_map (by assumption) (by assumption) (by assumption) ?h1 ?_); (case h1 => rfl))
  | ((with_reducible refine b_int (by assumption) (by assumption) (by assumption) ?h1 ?_); (case h1 => rfl))
  | ((with_reducible refine b_list (by assumption) (by assumption) (by assumption) ?h1 ?_); (case h1 => rfl))
  | ((with_reducible refine g_search_reverse (by assumption) (by assumption) (by assumption) ?h1 ?_); (case h1 => rfl))
  | ((with_reducible refine g_get_line_col (by assumption) (by assumption) (by assumption) ?h1 ?_); (case h1 => rfl))
  | ((with_reducible refine g_gen (by assumption) (by assumption) (by assumption) ?h1 ?_); (case h1 => rfl))
  | ((with_reducible refine g_page (by assumption) (by assumption) (by assumption) ?h1 ?_); (case h1 => rfl))
  | ((with_reducible refine g_turn (by assumption) (by assumption) (by assumption) ?h1 ?_); (case h1 => rfl))
  | ((with_reducible refine g_sum (by assumption) (by assumption) (by assumption) ?h1 ?_); (case h1 => rfl))
  | ((with_reducible refine g_known (by assumption) (by assumption) (by assumption) ?h1 ?_); (case h1 => rfl))
  | ((with_reducible refine g_hit (by assumption) (by assumption) (by assumption) ?h1 ?_); (case h1 => rfl))
  | ((with_reducible refine g_prog (by assumption) (by assumption) (by assumption) ?h1 ?_); (case h1 => rfl))
  | ((with_reducible refine g_found (by assumption) (by assumption) (by assumption) ?h1 ?_); (case h1 => rfl))
  | ((with_reducible refine g_firsts (by assumption) (by assumption) (by assumption) ?h1 ?_); (case h1 => rfl))
  | ((with_reducible refine g_due (by assumption) (by assumption) (by assumption) ?h1 ?_); (case h1 => rfl)))
def revGo (srch : Nat → Option Nat) (size col : Nat) : Nat → Option Nat → Nat → Option Nat
  | 0, found, _ => found
  | n + 1, found, k => if k < col ∧ k + size ≤ col then (match srch (if size = 0 then k + 1 else k + size) with | none => some k | some k' => revGo srch size col n (some k) k') else found
def srev (srch : Nat → Option Nat) (size col fuel : Nat) : Option Nat := match srch 0 with
  | none => none
  | some k => revGo srch size col fuel none k
def FoundOk (prog : Program) (w : World) (b : Shared) (fs : List (Addr × Obj)) (size : Nat) (vf : Value) : Option Nat → Prop
  | none => vf = .none
  | some k => ∃ f hs, vf = .ref f ∧ HitIn prog w hs f k ((k + size : Nat) : Int) ∧ ∀ p ∈ hs, p ∈ fs ∧ NewO b p
theorem FoundOk.mono {prog : Program} {w : World} {b : Shared} {fs fs' : List (Addr × Obj)} {size : Nat} {vf : Value} : ∀ {fo : Option Nat}, FoundOk prog w b fs size vf fo → (∀ p ∈ fs, p ∈ fs') → FoundOk prog w b fs' size vf fo
  | none, h, _ => h
  | some _, ⟨f, hs, h1, h2, h3⟩, k => ⟨f, hs, h1, h2, fun p hp => ⟨k p (h3 p hp).1, (h3 p hp).2⟩⟩
section
variable {prog : Program} {w : World} {g : Heap} {A : Around} {b s : Shared} {L : Addr} {l : List (Str × Value)} {fs : List (Addr × Obj)} {Q : Value → Shared → Prop}
theorem cutQ {env : Env} {c : Bool} {T E : List Stmt} {K : Flow → Shared → Prop} (I : Shared → Prop) (hK : ∀ s', I s' → K .next s')
    (h : if c = true then wpAny (model prog w) A (execs T env) (fun f s' => f = .next ∧ I s') NoE s else wpAny (model prog w) A (execs E env) (fun f s' => f = .next ∧ I s') NoE s) :
    if c = true then wpAny (model prog w) A (execs T env) K NoE s else wpAny (model prog w) A (execs E env) K NoE s := by
  cases c with
  | true => exact wpAny_mono h (fun f s' q => by rw [q.1]; exact hK _ q.2) fun _ _ e => e.elim
  | false => exact wpAny_mono h (fun f s' q => by rw [q.1]; exact hK _ q.2) fun _ _ e => e.elim
theorem d_srev (G : Gs w g) (F : Fm g b L l fs s) (r : Room 6 A) {p : Addr} {hs : List (Addr × Obj)} {size col : Nat} {srch : List Nat → Nat → Option Nat} {ok : List Nat → Prop} {row : List Nat} {t u : Tok}
    (hP : ProgIn prog w hs p size srch ok) (hsub : ∀ q ∈ hs, q ∈ fs) (hok : ok row) (hlen : row.length ≤ 1000) (hsz : size ≤ 100) (hmono : ∀ st k, srch row st = some k → st ≤ k ∧ k ≤ row.length)
    (h0 : srev (srch row) size col (row.length + 1) = none → ∀ s', Fm g b L l fs s' → Q .none s')
    (h1 : ∀ k f hs' s', srev (srch row) size col (row.length + 1) = some k → HitIn prog w hs' f k ((k + size : Nat) : Int) → (∀ p ∈ hs', NewO b p) → Fm g b L l (hs' ++ fs) s' → Q (.ref f) s') :
    wpAny (model prog w) A (call (.ref 21) [.ref p, .str ⟨row.toArray⟩ t, .int col u]) Q NoE s := by
  have hsl := sizeLine_eq
  refine enter (fd := fdAt w 21) (body := bdAt w 21) (binds := [("prog", .ref p), ("chars", .str ⟨row.toArray⟩ t), ("col", .int col u)]) G F.kg F.td (Nat.le_trans F.gb F.size) r rfl (by kernel_rfl) rfl rfl (by kernel_rfl) (by kernel_rfl) (fun L s₁ F₁ R => ?_) rfl rfl rfl
  have pe : PlainEnv (callEnv (fdAt w 21) L 21) L := ⟨rfl, rfl, rfl, rfl⟩
  have F₂ : Fm g s L [(Str.ofString "col", .int col u), (Str.ofString "chars", .str ⟨row.toArray⟩ t), (Str.ofString "prog", .ref p)] (hs ++ []) s₁ := F₁.addB fun q hq => (F.own q (hsub q hq)).1
  rw [List.append_nil] at F₂
  clear F₁
  refine wpAny_execs_cons ?_
  walk_at "m"
  refine m_search rfl rfl (by decide) rfl F₂ (fun Q' hq => n_ld F₂ pe rfl rfl hq (by decide)) hP (fun q hq => hq) fun sf fd2 s₂ hsf hS F₃ => ?_
  repeat walk_at "m"
  refine ⟨(F₃.own _ hsf).1.1, hS g s L _ hs s₂ _ _ row t _ 0 G F₃ (fun q hq => hq) R hok (.inl ⟨rfl, rfl⟩) (by omega) (fun hn s₃ F₄ => ?_) fun k f hs' s₃ hk hh hnw F₄ => ?_⟩
  · repeat walk_at "m"
    refine iteT rfl ?_
    repeat walk_at "m"
    rename_i F₅
    exact h0 (by rw [srev, hn]) _ (F.call G F₅.le F₅.td)
  · walk_at "m"
    rename_i s₄ F₅
    repeat walk_at "m"
    have hhd : ∃ fd d, (f, fnO fd (some d)) ∈ hs' := by obtain ⟨fd, d, _, _, _, _, _, h1, _⟩ := hh; exact ⟨fd, d, h1⟩
    obtain ⟨fd₀, d₀, hf₀⟩ := hhd
    refine fn_truthy (F₅.own _ (List.mem_append_left _ hf₀)).1.1 ?_
    refine iteF rfl ?_
    repeat walk_at "m"
    rename_i s₅ F₆
    refine m_span rfl rfl G F₆ (R.mono (by decide)) (fun Q' hq => n_ld F₆ pe rfl rfl hq (by decide)) hh (fun q hq => List.mem_append_left _ hq) fun a₁ ti tj s₆ hne₁ _ F₇ => ?_
    refine unp2 R.hh F₇ (IsT F₇ (.head _)) fun s₇ F₈ => ?_
    repeat walk_at "m"
    rename_i s₈ F₉
    have hkl := hmono 0 k hk
    refine whileL (fun n l₁ fs₁ => (∀ q ∈ hs, q ∈ fs₁) ∧ ∃ fo k f hh vf ti tj, row.length < k + n ∧ k ≤ row.length ∧ revGo (srch row) size col n fo k = srev (srch row) size col (row.length + 1) ∧ FoundOk prog w s fs₁ size vf fo ∧ HitIn prog w hh f k ((k + size : Nat) : Int) ∧ (∀ q ∈ hh, q ∈ fs₁ ∧ NewO s q) ∧
      l₁ = [(Str.ofString "found", vf), (Str.ofString "m", .ref f), (Str.ofString "i", .int k ti), (Str.ofString "j", .int ((k + size : Nat) : Int) tj), (Str.ofString "col", .int col u), (Str.ofString "chars", .str ⟨row.toArray⟩ t), (Str.ofString "prog", .ref p)])
      (row.length + 1) (F₉.weak (l' := [(Str.ofString "found", .none), (Str.ofString "m", .ref f), (Str.ofString "i", .int k ti), (Str.ofString "j", .int ((k + size : Nat) : Int) tj), (Str.ofString "col", .int col u), (Str.ofString "chars", .str ⟨row.toArray⟩ t), (Str.ofString "prog", .ref p)]) ⟨rfl, rfl, rfl, rfl, rfl, rfl, rfl, trivial⟩)
      ⟨fun q hq => .tail _ (List.mem_append_right _ hq), none, k, f, hs', .none, ti, tj, by omega, hkl.2, by rw [srev, hk], rfl, hh, (fun q hq => ⟨.tail _ (List.mem_append_left _ hq), hnw q hq⟩), rfl⟩ ?_
    rintro n l₁ fs₁ s₉ ⟨hP₁, fo, k, f, hh₁, vf, ti, tj, hn₁, hkr, hgo, hfo, hit, hhs, rfl⟩ F₁₀
    have fin : ∀ (vf : Value) (fo : Option Nat) (fs₂ : List (Addr × Obj)) (l₂ : List (Str × Value)) s₂, Fm g s L l₂ fs₂ s₂ → FoundOk prog w s fs₂ size vf fo → fo = srev (srch row) size col (row.length + 1) → Q vf s₂ := fun vf fo fs₂ l₂ s₂ F' hf e => by
      cases fo with
      | none => rw [show vf = .none from hf]; exact h0 e.symm _ (F.call G F'.le F'.td)
      | some k =>
        obtain ⟨f', hs₂, rfl, a2, a3⟩ := hf
        exact h1 k f' hs₂ _ e.symm a2 (fun q hq => (a3 q hq).2.le F.size) (F.retN G F' a3)
    repeat walk_at "m"
    by_cases hc1 : k < col
    · refine iteT (decide_eq_true (by omega)) ?_
      repeat walk_at "m"
      by_cases hc2 : k + size ≤ col
      · refine iteT (decide_eq_true (by omega)) ?_
        repeat walk_at "m"
        refine iteT rfl ?_
        obtain ⟨n, rfl⟩ : ∃ n', n = n' + 1 := ⟨n - 1, by omega⟩
        rw [revGo, if_pos ⟨hc1, hc2⟩] at hgo
        repeat walk_at "m"
        rename_i s₁₀ F₁₁
        refine cutQ (I := fun s' => ∃ st tj', st = (if size = 0 then k + 1 else k + size) ∧ Fm g s L [(Str.ofString "found", .ref f), (Str.ofString "m", .ref f), (Str.ofString "i", .int k ti), (Str.ofString "j", .int (st : Nat) tj'), (Str.ofString "col", .int col u), (Str.ofString "chars", .str ⟨row.toArray⟩ t), (Str.ofString "prog", .ref p)] fs₁ s') ?_ ?_
        · rintro s₁₁ ⟨st, tj', hst, F₁₂⟩
          rw [← hst] at hgo
          repeat walk_at "m"
          refine m_search rfl rfl (by decide) rfl F₁₂ (fun Q' hq => n_ld F₁₂ pe rfl rfl hq (by decide)) hP hP₁ fun sf fd2 s₁₂ hsf hS F₁₃ => ?_
          repeat walk_at "m"
          refine ⟨(F₁₃.own _ hsf).1.1, hS g s L _ fs₁ s₁₂ _ _ row t _ st G F₁₃ hP₁ R hok (.inr ⟨_, rfl⟩) (by rw [hst]; split <;> omega) (fun hn s₁₃ F₁₄ => ?_) fun k' f' hs'' s₁₃ hk' hh' hnw' F₁₄ => ?_⟩
          · repeat walk_at "m"
            refine iteT rfl ?_
            repeat walk_at "m"
            rename_i F₁₅
            rw [hn] at hgo
            exact fin _ (some k) _ _ _ F₁₅ ⟨f, hh₁, rfl, hit, hhs⟩ hgo
          · rw [hk'] at hgo
            have hkk := hmono st k' hk'
            walk_at "m"
            rename_i s₁₄ F₁₅
            repeat walk_at "m"
            have hhd : ∃ fd d, (f', fnO fd (some d)) ∈ hs'' := by obtain ⟨fd, d, _, _, _, _, _, h1, _⟩ := hh'; exact ⟨fd, d, h1⟩
            obtain ⟨fd₁, d₁, hf₁⟩ := hhd
            refine fn_truthy (F₁₅.own _ (List.mem_append_left _ hf₁)).1.1 ?_
            refine iteF rfl ?_
            repeat walk_at "m"
            refine m_span rfl rfl G F₁₅ (R.mono (by decide)) (fun Q' hq => n_ld F₁₅ pe rfl rfl hq (by decide)) hh' (fun q hq => List.mem_append_left _ hq) fun a₁ ti' tj' s₁₅ hne₂ _ F₁₆ => ?_
            refine unp2 R.hh F₁₆ (IsT F₁₆ (.head _)) fun s₁₆ F₁₇ => ?_
            repeat walk_at "m"
            rename_i s₁₇ F₁₈
            refine ⟨n, _, _, Nat.lt_succ_self _, ⟨?_, some k, k', f', hs'', .ref f, ti', tj', ?_, hkk.2, hgo, ?_, hh', ?_, rfl⟩, F₁₈.weak ⟨rfl, rfl, rfl, rfl, rfl, rfl, rfl, trivial⟩⟩
            · exact fun q hq => .tail _ (List.mem_append_right _ (hP₁ q hq))
            · have : k + 1 ≤ st := by rw [hst]; split <;> omega
              omega
            · exact ⟨f, hh₁, rfl, hit, fun q hq => ⟨.tail _ (List.mem_append_right _ (hhs q hq).1), (hhs q hq).2⟩⟩
            · exact fun q hq => ⟨.tail _ (List.mem_append_left _ hq), hnw' q hq⟩
        · by_cases h0 : size = 0
          · refine iteT (by rw [h0]; exact beq_self_eq_true _) ?_
            repeat walk_at "m"
            rename_i F₁₂
            rw [show ((k + size : Nat) : Int) + 1 = ((k + 1 : Nat) : Int) by omega] at F₁₂
            exact ⟨rfl, k + 1, _, by rw [if_pos h0], F₁₂.weak ⟨rfl, rfl, rfl, rfl, rfl, rfl, rfl, trivial⟩⟩
          · refine iteF (beq_eq_false_iff_ne.2 (by omega)) ?_
            repeat walk_at "m"
            exact ⟨rfl, k + size, _, by rw [if_neg h0], F₁₁.weak ⟨rfl, rfl, rfl, rfl, rfl, rfl, rfl, trivial⟩⟩
      · refine iteF (decide_eq_false (by omega)) ?_
        refine iteF rfl ?_
        repeat walk_at "m"
        refine fin _ fo _ _ _ F₁₀ hfo ?_
        rw [← hgo]
        cases n with
        | zero => rfl
        | succ n => rw [revGo, if_neg (by omega)]
    · refine iteF (decide_eq_false (by omega)) ?_
      refine iteF rfl ?_
      repeat walk_at "m"
      refine fin _ fo _ _ _ F₁₀ hfo ?_
      rw [← hgo]
      cases n with
      | zero => rfl
      | succ n => rw [revGo, if_neg (by omega)]
end
end Mine
/- MX -/
namespace Mine
open PyProof.Rows PySem PySem.Builtin PySem.Builtin.Str PySem.W
theorem sliceIdx_clip (i j len : Nat) : strSliceIndices (some (i : Int)) (some (j : Int)) 1 len = strSliceIndices (some ((min i len : Nat) : Int)) (some ((min j len : Nat) : Int)) 1 len := by
  have a1 : ¬ ((i : Int) < 0) := by omega
  have a2 : ¬ ((j : Int) < 0) := by omega
  have a3 : ¬ (((min i len : Nat) : Int) < 0) := by omega
  have a4 : ¬ (((min j len : Nat) : Int) < 0) := by omega
  have e1 : min (i : Int) (len : Int) = min ((min i len : Nat) : Int) (len : Int) := by omega
  have e2 : min (j : Int) (len : Int) = min ((min j len : Nat) : Int) (len : Int) := by omega
  simp only [strSliceIndices, a1, a2, a3, a4, if_false, e1, e2, show ((1 : Int) > 0) = True from by simp, if_true]
theorem slice_nat (x : Str) {i j : Nat} (h : i ≤ j) : Txt.slice x (some (i : Int)) (some (j : Int)) = ⟨((x.cps.toList.drop i).take (j - i)).toArray⟩ := by
  have e : Txt.slice x (some (i : Int)) (some (j : Int)) = Txt.slice x (some ((min i x.length : Nat) : Int)) (some ((min j x.length : Nat) : Int)) := by
    unfold Txt.slice; rw [sliceIdx_clip]
  have hx : x.length = x.cps.toList.length := by simp [Str.length]
  rw [e, eq_of_beq (slice_closes (x := x) (i := ((min i x.length : Nat) : Int)) (j := ((min j x.length : Nat) : Int)) ⟨by omega, by omega, by rw [← hx]; omega⟩)]
  congr 2
  rw [Int.toNat_natCast, show (((min j x.length : Nat) : Int) - ((min i x.length : Nat) : Int)).toNat = min j x.length - min i x.length by omega]
  by_cases hi : i ≤ x.length
  · rw [Nat.min_eq_left hi]
    by_cases hj : j ≤ x.length
    · rw [Nat.min_eq_left hj]
    · rw [Nat.min_eq_right (by omega), List.take_of_length_le (by rw [List.length_drop, ← hx]; omega), List.take_of_length_le (by rw [List.length_drop, ← hx]; omega)]
  · rw [Nat.min_eq_right (by omega : x.length ≤ i), List.drop_of_length_le (by rw [← hx]; omega), List.drop_of_length_le (by rw [← hx]; omega)]
    simp
section
variable {prog : Program} {w : World} {g : Heap} {A : Around} {b s : Shared} {l : List (Str × Value)} {fs : List (Addr × Obj)} {env : Env} {L : Addr} {pos : Pos} {Q : Value → Shared → Prop} {E : Value → Shared → Prop}
theorem Fm.kept : KeptByPush (Fm g b L l fs) := fun _ _ _ F => F.pushQ
/-- x[i:j] of a text -/
theorem i_slice {x : Str} {t ti tj : Tok} {i j : Nat} (F : Fm g b L l fs s) (hij : i ≤ j) (hx : x.length ≤ sizeLine) (h : ∀ t' s', Fm g b L l fs s' → Q (.str ⟨((x.cps.toList.drop i).take (j - i)).toArray⟩ t') s') :
    ItemOn (model prog w) A E (.str x t) (.ref s.heap.objs.size) Q { s with heap := s.heap.push { cls := .type "slice", data := .fields #[.int i ti, .int j tj, .none] } } :=
  SBG.sliceItem_ss Fm.kept F (fun s' t' F' => by rw [slice_nat x hij]; exact h t' s' F') hx
/-- x[i] of a text -/
theorem t_str {value slice : Expr} {x : Str} {t u : Tok} {i c : Nat} (hs : subscripted slice false (.str x t) (.int i u) = operate [.str x t, .int i u] (getItem (.str x t) (.int i u))) (ht : ∀ r, letTemporaryGo value (.str x t) r = pure ()) (F : Fm g b L l fs s) (hb : i < 2 ^ 60) (hc : x.cps[i]? = some c)
    (h : ∀ t s', Fm g b L l fs s' → Q (.str ⟨#[c]⟩ t) s') : wpAny (model prog w) A (subscriptTail value slice (.str x t) (.int i u)) Q E s := by
  refine tail_of_ItemOn ⟨"str", _, PySem.F.slot_str_getitem.lookup, typeIs_str _ _ _, PySem.P.getItem_str (c := c) ?_ ?_ (h _ _ F.toks)⟩ hs ht
  · rw [Bool.or_eq_false_iff]; exact ⟨decide_eq_false (by omega), decide_eq_false (by omega)⟩
  · have hl : i < x.length := by
      have := (Array.getElem?_eq_some_iff.mp hc).1
      exact this
    rw [show seqIndex? (i : Int) x.length = some i from by unfold seqIndex?; simp; omega]
    exact hc
/-- {} -/
theorem q_dict0 (F : Fm g b L l fs s) (h : ∀ a o s', (∀ p ∈ fs, p.1 ≠ a) → b.heap.objs.size ≤ a → (a == sysModules) = false → o.IsDictOf (strKind prog w) [] → Fm g b L l ((a, o) :: fs) s' → Q (.ref a) s') :
    wpAny (model prog w) A (eval (.Dict [] [] pos) env) Q E s := by
  refine wpAny_Dict_empty (h _ { cls := .type "dict", data := .dict #[] } _ F.newNe F.size ?_ ?_ (F.push (n := s.toks) rfl))
  · have : 68 < s.heap.objs.size := Nat.lt_of_lt_of_le F.lb F.size
    exact beq_eq_false_iff_ne.2 (fun e => absurd this (by rw [e]; decide))
  · obtain ⟨o, ho, hd⟩ := Heap.dictOf_iff.mp (Heap.DictOf.new (knd := strKind prog w) s.heap)
    rw [Heap.get?_push_size _ rfl] at ho
    exact (Option.some.inj ho) ▸ hd
theorem DM {a : Addr} {o : Obj} {kvs : List (Str × Value)} (F : Fm g b L l fs s) (hm : (a, o) ∈ fs) (hd : o.IsDictOf (strKind prog w) kvs) : s.heap.DictOf (strKind prog w) a kvs := Heap.dictOf_iff.mpr ⟨o, (F.own _ hm).1.1, hd⟩
theorem u_notin {a : Addr} {o : Obj} {kvs : List (Str × Value)} {k : Str} {t : Tok} (F : Fm g b L l fs s) (hm : (a, o) ∈ fs) (hd : o.IsDictOf (strKind prog w) kvs) (hs : (a == sysModules) = false)
    (h : ∀ s', Fm g b L l fs s' → Q (.bool (!(valueAt kvs k).isSome)) s') : wpAny (model prog w) A (compareOp .NotIn (.str k t) (.ref a)) Q E s :=
  wpAny_notIn_of (strKind_is prog w k t) hs (DM F hm hd).mapOf (h _ F.toks)
theorem t_dict {value slice : Expr} {a : Addr} {o : Obj} {kvs : List (Str × Value)} {k : Str} {t : Tok} {v : Value} (hs : subscripted slice false (.ref a) (.str k t) = operate [.ref a, .str k t] (getItem (.ref a) (.str k t)))
    (F : Fm g b L l fs s) (hm : (a, o) ∈ fs) (hd : o.IsDictOf (strKind prog w) kvs) (hv : valueAt kvs k = some v)
    (h : ∀ s', Fm g b L l fs s' → Q v s') : wpAny (model prog w) A (subscriptTail value slice (.ref a) (.str k t)) Q E s :=
  tail_any (DM F hm hd).typeIs slot_dict_getitem.lookup (wpAny_getItem_of (strKind_is prog w k t) (DM F hm hd).mapOf hv (h _ F.toks)) hs
theorem u_dset {a : Addr} {o : Obj} {kvs : List (Str × Value)} {k : Str} {t : Tok} {v : Value} {K : Unit → Shared → Prop} {fs' : Obj → List (Addr × Obj)} (F : Fm g b L l fs s) (hnew : b.heap.objs.size ≤ a) (hm : (a, o) ∈ fs) (hd : o.IsDictOf (strKind prog w) kvs) (hsz : kvs.length ≤ sizeLine)
    (U : ∀ o', Upd a o o' fs (fs' o')) (h : ∀ o' s', o'.IsDictOf (strKind prog w) (stored kvs k v) → Fm g b L l (fs' o') s' → K () s') : wpAny (model prog w) A (setItem (.ref a) (.str k t) v) K E s := by
  refine wpAny_setItem_pairs (strKind_is prog w k t) (DM F hm hd) (fun h' hd' hs => ?_) hsz
  obtain ⟨o', ho', hd''⟩ := Heap.dictOf_iff.mp hd'
  obtain ⟨es, ep, _, e, _⟩ := hd
  exact h o' _ hd'' (F.upd (n := s.toks + 1) (U o') (NP.dict e) hnew ho' hs)
theorem NP.dictOf {o : Obj} {kvs : List (Str × Value)} (hd : o.IsDictOf (strKind prog w) kvs) : NP o := by
  obtain ⟨es, ep, _, e, _⟩ := hd
  exact NP.dict e
/-- a def with one default, made where the frame stands -/
theorem x_def {name qual : Str} {params : Arguments} {body : List Stmt} {scope : Scope} {clos : List (Str × Addr)} {c P : Addr} {e : Expr} {Qf : Flow → Shared → Prop} (G : Gs w g) (F : Fm g b L l fs s) (hc : CP c P) (hcode : env.code = .ref c) (hcl : closureFor scope env = pure clos) (hge : env.globals = mainGlobals)
    (hd : params.defaults = [e]) (hk0 : params.kw_defaults = []) (ha : annTrees params none env = []) (hqn : qualnameIn env name name = qual) (hq : qual = qualAt pos.line)
    (h : wpAny (model prog w) A (eval e env) (fun v s₀ => ∃ l₁, Fm g b L l₁ fs s₀ ∧ ∀ f T cc oc vs t pm doc ctv s', oc.data = .fields vs → vs[1]? = some (.str qual t) → (∀ p ∈ fs, p.1 ≠ f) → b.heap.objs.size ≤ f → b.heap.objs.size ≤ T → cc ≠ f → T ≠ f →
      Fm g b L l₁ ((f, fnO (kdv_fn name qual params (.stmts body) scope clos (.ref T) doc pm (.ref cc) ctv) none) :: (cc, oc) :: (T, kdv_tup [v]) :: fs) s' → wpAny (model prog w) A (storeName env name (.ref f)) (fun _ s'' => Qf .next s'') NoE s') NoE s) :
    wpAny (model prog w) A (exec (.FunctionDef name params body [] none [] scope none name pos) env) Qf NoE s := by
  refine kdv_def (by rw [hd]; rfl) hk0 ha ?_
  rw [hd, hqn]
  refine kdv_all1 (wpAny_mono h (fun v s₀ h₀ => ?_) fun _ _ e => e)
  refine kdv_all0 ?_
  obtain ⟨l₁, F₁, h⟩ := h₀
  rw [makeFunction_eq]
  simp only [List.zip_nil_right, List.filterMap_nil, List.isEmpty_nil, if_true, pure_bind, List.isEmpty_cons, Bool.false_eq_true, if_false]
  refine wpAny_bind (wpAny_newTextTuple ?_)
  have F₂ := F₁.push (o := kdv_tup [v]) (n := s₀.toks) rfl
  have hT := F₁.size
  have hTn := F₁.newNe
  generalize s₀.heap.objs.size = T at *
  generalize hs₂ : ({ s₀ with heap := s₀.heap.push (kdv_tup [v]), toks := s₀.toks } : Shared) = s₂ at F₂
  obtain ⟨mg, ps, hg, C, hP, ht, hgP, hb, hr⟩ := F₂.made G hc
  cases hf : codeAmong pos ps.toList with
  | none =>
    refine kdv_makeTail hcl hge hg hcode C hP ht hf hgP hb fun c' ctv doc h' tk hx hsz hlt hrec hP' => ?_
    have td := F₂.td.grow hc hP ht hq hx hrec hP'
    have F' := F₂.grow G (n := tk) hc hx td
    obtain ⟨cc, oc, vs, t, e1, e2, e3, e4, e5, e6, F''⟩ := F₂.fn G (fo := kdv_obj name qual params (.stmts body) scope clos (.ref T) doc ((mg "__name__").getD .none) c' ctv) F' (Nat.le_trans hsz (Nat.le_of_lt hlt)) rfl hrec
    cases e1
    exact h _ T _ oc vs t _ _ _ _ e2 e3 (fun p hp => e4 p (.tail _ hp)) e5 hT e6 (e4 _ (.head _)) F''
  | some cv =>
    refine kdv_makeTailHit hcl hge hg hcode C hP ht hf hb fun ctv doc h' tk hx hsz => ?_
    have F' := F₂.keep (n := tk) hx
    have hrec := (hr pos cv hf).keeps hx
    rw [← hq] at hrec
    obtain ⟨cc, oc, vs, t, e1, e2, e3, e4, e5, e6, F''⟩ := F₂.fn G (fo := { cls := .type "function", data := .func (kdv_fn name qual params (.stmts body) scope clos (.ref T) doc ((mg "__name__").getD .none) cv ctv) }) F' hsz rfl hrec
    subst e1
    exact h _ T _ oc vs t _ _ _ _ e2 e3 (fun p hp => e4 p (.tail _ hp)) e5 hT e6 (e4 _ (.head _)) F''
/-- a made def without cells is called -/
theorem enterM (G : Gs w g) (F : Fm g b L l fs s) {d : Nat} (r : Room (d + 1) A) {a cc : Addr} {dd : Option Addr} {fd : FuncData} {body : List Stmt} {oc : Obj} {vs : Array Value} {t : Tok} {args : List Value} {binds : List (Str × Value)}
    (ho : s.heap.get? a = some (fnO fd dd)) (hcc : s.heap.get? cc = some oc) (hoc : oc.data = .fields vs) (hv : vs[1]? = some (.str fd.qualname t)) (hcode : fd.code = .ref cc) (hbody : fd.body = .stmts body)
    (hbind : BindsTo s fd ⟨args, []⟩ binds) (hcell : (fd.scope.names.all fun x => x.2 != .cell) = true) (hloc : (binds.all fun x => decide (fd.scope.names.lookup x.1 = some .local)) = true)
    (h : ∀ L' s', Fm g s L' binds.reverse [] s' → Room d (A.deeper (callEnv fd L' a)) →
      wpAny (model prog w) (A.deeper (callEnv fd L' a)) (execs body (callEnv fd L' a)) (fun f s'' => Q (match f with | .ret v => v | _ => .none) s'') NoE s')
    (hco : fd.scope.isCoroutine = false) (hgen : fd.scope.isGenerator = false) (hk : fd.scope.kind = .function) : wpAny (model prog w) A (call (.ref a) args) Q NoE s := by
  refine wpAny_call (codeAny_call_def (fd := fd) (body := body) (binds := binds) (by have := r.dp; omega) ho rfl (G.nolimit F.kg) ⟨cc, oc, vs, t, hcode, hcc, hoc, hv⟩ hbody hbind (fun x hx => by simpa using List.all_eq_true.mp hcell x hx) (locs hloc) (fun h₀ hn hk₀ => ?_) hco hgen hk)
  refine wpAny_mono (h s.heap.objs.size _ ⟨Le.heap hk₀, fun b o e => hk₀ b o (F.kg b o e), F.td.keeps hk₀, ⟨_, hn, fun _ _ e => e⟩, Nat.le_refl _, F.td.lt, Nat.le_trans F.gb F.size, fun p hp => nomatch hp⟩ r.deeper) (fun f s' q => q) fun _ _ e => e.elim
end
end Mine
/- MS -/
namespace Mine
open PyProof.Rows PySem PySem.W
/-- the first place from k on, n tries -/
def srchGo (word row : List Nat) (k : Nat) : Nat → Option Nat
  | 0 => none
  | n + 1 => if (row.drop k).take word.length = word then some k else srchGo word row (k + 1) n
def srch (word row : List Nat) (start : Nat) : Option Nat := srchGo word row start (row.length + 1 - word.length - start)
theorem roll (row : List Nat) (size k c d : Nat) (hlt : ∀ c ∈ row, c < 256) (hc : row[k]? = some c) (hd : row[k + size]? = some d) :
    turn (crc ((row.drop k).take size)) d ^^^ crc (c :: List.replicate size 0) = crc ((row.drop (k + 1)).take size) := by
  cases size with
  | zero =>
    rw [Nat.add_zero, hc] at hd
    cases hd
    show turn 0 c ^^^ turn 0 c = 0
    exact Nat.xor_self _
  | succ n =>
    have hk : k < row.length := (List.getElem?_eq_some_iff.mp hc).1
    have hkn : k + (n + 1) < row.length := (List.getElem?_eq_some_iff.mp hd).1
    have e1 : row.drop k = c :: row.drop (k + 1) := by
      rw [List.drop_eq_getElem_cons hk]; congr 1; exact (List.getElem?_eq_some_iff.mp hc).2
    have hl : ((row.drop (k + 1)).take n).length = n := by rw [List.length_take, List.length_drop]; omega
    have e2 : (row.drop (k + 1)).take (n + 1) = (row.drop (k + 1)).take n ++ [d] := by
      rw [List.take_add_one, List.getElem?_drop, show k + 1 + n = k + (n + 1) by omega, hd]; rfl
    rw [e1, List.take_succ_cons, e2]
    have := crc_roll c ((row.drop (k + 1)).take n) d (hlt c (List.mem_of_getElem? hc)) (fun o ho => hlt o (List.mem_of_mem_drop (List.mem_of_mem_take ho))) (hlt d (List.mem_of_getElem? hd))
    rw [hl] at this
    exact this
section
variable {K : Type} [DecidableEq K]
theorem valueAt_old {kvs : List (K × Value)} {k k' : K} {v u : Value} (h : valueAt kvs k' = some u) : valueAt (kvs ++ [(k, v)]) k' = some u := by
  unfold valueAt at h ⊢
  rw [List.find?_append]
  cases hf : kvs.find? (fun kv => decide (kv.1 = k')) with
  | none => rw [hf] at h; cases h
  | some p => rw [hf] at h; exact h
theorem valueAt_new {kvs : List (K × Value)} {k : K} {v : Value} (h : valueAt kvs k = none) : valueAt (kvs ++ [(k, v)]) k = some v := by
  unfold valueAt at h ⊢
  rw [List.find?_append]
  cases hf : kvs.find? (fun kv => decide (kv.1 = k)) with
  | none => simp
  | some p => rw [hf] at h; cases h
end
theorem valueAt_inv {kvs : List (Str × Value)} {k k' : Str} {v q : Value} (h : valueAt (kvs ++ [(k, v)]) k' = some q) : valueAt kvs k' = some q ∨ (k' = k ∧ q = v) := by
  unfold valueAt at h ⊢
  rw [List.find?_append] at h
  cases hf : kvs.find? (fun kv => decide (kv.1 = k')) with
  | none =>
    rw [hf] at h
    by_cases e : k = k'
    · rw [List.find?_cons_of_pos (by simpa using e)] at h
      exact .inr ⟨e.symm, by simpa using h.symm⟩
    · rw [List.find?_cons_of_neg (by simpa using e)] at h
      cases h
  | some p => rw [hf] at h; exact .inl h
/-- what the table of leaving signs holds -/
def GoneOk (size : Nat) (kvs : List (Str × Value)) (cs : List Nat) : Prop := ∀ c ∈ cs, ∃ t, valueAt kvs ⟨#[c]⟩ = some (.int ((crc (c :: List.replicate size 0) : Nat) : Int) t)
def GoneTrue (size : Nat) (kvs : List (Str × Value)) : Prop := ∀ c q, valueAt kvs ⟨#[c]⟩ = some q → ∃ t, q = .int ((crc (c :: List.replicate size 0) : Nat) : Int) t
section
variable {prog : Program} {w : World} {g : Heap} {A : Around} {b s : Shared} {l : List (Str × Value)} {fs : List (Addr × Obj)} {L : Addr} {Q : Value → Shared → Prop}
theorem enterB (G : Gs w g) (F : Fm g b L l fs s) {d : Nat} (r : Room (d + 1) A) {a cc : Addr} {dd : Option Addr} {fd : FuncData} {body : List Stmt} {oc : Obj} {vs : Array Value} {t : Tok} {args : List Value} {binds : Tok → List (Str × Value)}
    (ho : s.heap.get? a = some (fnO fd dd)) (hcc : s.heap.get? cc = some oc) (hoc : oc.data = .fields vs) (hv : vs[1]? = some (.str fd.qualname t)) (hcode : fd.code = .ref cc) (hbody : fd.body = .stmts body)
    (hbind : ∃ u, BindsTo s fd ⟨args, []⟩ (binds u)) (hcell : (fd.scope.names.all fun x => x.2 != .cell) = true) (hloc : ∀ u, ((binds u).all fun x => decide (fd.scope.names.lookup x.1 = some .local)) = true)
    (hpe : ∀ L', PlainEnv (callEnv fd L' a) L') (h : ∀ u L' s', PlainEnv (callEnv fd L' a) L' → Fm g s L' (binds u).reverse [] s' → Room d (A.deeper (callEnv fd L' a)) →
      wpAny (model prog w) (A.deeper (callEnv fd L' a)) (execs body (callEnv fd L' a)) (fun f s'' => Q (match f with | .ret v => v | _ => .none) s'') NoE s')
    (hco : fd.scope.isCoroutine = false) (hgen : fd.scope.isGenerator = false) (hk : fd.scope.kind = .function) : wpAny (model prog w) A (call (.ref a) args) Q NoE s :=
  let ⟨u, hb⟩ := hbind
  enterM G F r ho hcc hoc hv hcode hbody hb hcell (hloc u) (fun L' s' => h u L' s' (hpe L')) hco hgen hk
end
end Mine
/- F73 -/
namespace Mine
open PyProof.Rows PySem PySem.W
local macro_rules | `(tactic| walk_at "mem") => `(tactic| first | exact List.Mem.head _ | (refine List.Mem.tail _ ?_; walk_at "mem"))
local macro_rules | `(tactic| walk_at "m") => `(tactic| first
  | (with_reducible refine wpAny_execs_cons ?_)
  | (with_reducible refine wpAny_execs_nil ?_)
  | ((with_reducible refine x_assign ?hs ?_); (case hs => rfl))
  | (with_reducible refine wpAny_AugAssign_Name ?_)
  | (with_reducible refine wpAny_If ?_)
  | (with_reducible refine wpAny_Return_some ?_)
  | (with_reducible refine a_cons ?_)
  | (with_reducible refine a_nil ?_)
  | ((with_reducible refine k_type0 ?hs ?_); (case hs => rfl))
  | ((with_reducible refine k_bi0 ?hs ?_); (case hs => rfl))
  | ((with_reducible refine' k_def0 (by assumption) ?hk ?hs ?_); (case hk => rfl); (case hs => rfl))
  | (with_reducible refine wpAny_Call_NameR ?_)
  | (with_reducible refine wpAny_BinOp ?_)
  | (with_reducible refine wpAny_UnaryOp ?_)
  | ((with_reducible refine e_list ?hs ?_); (case hs => rfl))
  | ((with_reducible refine e_tuple ?hs ?_); (case hs => rfl))
  | ((with_reducible refine' e_comp ?hc ?hk ?hn ?hs ?_); (case hc => rfl); (case hk => rfl); (case hn => rfl); (case hs => intro _; rfl))
  | ((with_reducible refine u_ord (by assumption) ?_); intro _ _ _)
  | ((with_reducible refine i_plain ?hs ?_); (case hs => rfl))
  | ((with_reducible refine' n_ld (by assumption) (by assumption) ?h1 ?h2 ?_ ?h3); (case h1 => rfl); (case h2 => rfl); (case h3 => decide))
  | ((with_reducible refine' n_ldn (by assumption) (by assumption) ?h1 ?h2 ?_); (case h1 => rfl); (case h2 => rfl))
  | ((with_reducible refine' n_ldc (by assumption) (by assumption) ?h1 ?h2 ?h4 ?_ ?h3); (case h1 => rfl); (case h2 => rfl); (case h4 => walk_at "mem"); (case h3 => decide))
  | ((with_reducible refine' n_ldf (by assumption) (by assumption) ?h1 ?h2 ?h4 ?_ ?h3 ?h5); (case h1 => rfl); (case h2 => rfl); (case h4 => walk_at "mem"); (case h3 => decide); (case h5 => decide))
  | ((with_reducible refine n_st (by assumption) (by assumption) ?h1 ?_); (case h1 => rfl); intro _ _)
  | (with_reducible refine wpAny_Constant_none ?_)
  | (with_reducible refine wpAny_Break ?_)
  | (with_reducible refine truthy_none ?_)
  | (with_reducible refine wpAny_isTrue_Not ?_)
  | (with_reducible refine wpAny_isTrue_BoolOp ?_)
  | (with_reducible refine wpAny_allTrue_And_cons ?_)
  | (with_reducible refine wpAny_allTrue_And_nil ?_)
  | ((with_reducible refine c_int (by assumption) ?_); intro _ _ _)
  | ((with_reducible refine c_str (by assumption) ?_); intro _ _ _)
  | ((with_reducible refine o_add (by assumption) ?_); intro _ _ _)
  | ((with_reducible refine o_sub (by assumption) ?_); intro _ _ _)
  | ((with_reducible refine o_and (by assumption) ?_); intro _ _ _)
  | ((with_reducible refine o_xor (by assumption) ?_); intro _ _ _)
  | ((with_reducible refine o_shr (by decide) (by assumption) ?_); intro _ _ _)
  | ((with_reducible refine o_ishr (by decide) (by assumption) ?_); intro _ _ _)
  | ((with_reducible refine o_mul (Or.inr (by decide)) (by assumption) ?_); intro _ _ _)
  | ((with_reducible refine o_mul (Or.inl (by decide)) (by assumption) ?_); intro _ _ _)
  | ((with_reducible refine o_fdiv (by decide) (by decide) (by assumption) ?_); intro _ _ _)
  | ((with_reducible refine o_mod (by decide) (by assumption) ?_); intro _ _ _)
  | ((with_reducible refine o_pow (by decide) (by decide) (by decide) (by assumption) ?_); intro _ _ _)
  | ((with_reducible refine o_neg (by assumption) ?_); intro _ _ _)
  | ((with_reducible refine u_len (by assumption) (by omega) ?_); intro _ _ _)
  | (with_reducible refine j_eq ?_)
  | (with_reducible refine j_lt ?_)
  | (with_reducible refine j_le ?_)
  | (with_reducible refine j_ge ?_)
  | (with_reducible refine j_tr ?_)
  | ((with_reducible refine i_cmp ?hs ?_); (case hs => rfl))
  | ((with_reducible refine e_cmp ?hs ?_); (case hs => rfl))
  | ((with_reducible refine x_tup2S ?hs ?hw ?_); (case hs => rfl); (case hw => rfl))
  | ((with_reducible refine x_tup2 ?hs ?hw ?_); (case hs => rfl); (case hw => rfl))
  | ((with_reducible refine x_asub ?hs ?_); (case hs => rfl))
  | ((with_reducible refine x_expr ?hi ?hs ?_); (case hi => rfl); (case hs => rfl))
  | ((with_reducible refine Subscript_Slice ?_ ?ht); (case ht => intro _ _; rfl))
  | (with_reducible refine wpAny_Slice ?_)
  | (with_reducible refine evalPart_some_step ?_)
  | (with_reducible refine evalPart_none_step ?_)
  | (with_reducible refine Subscript_ ?_)
  | (with_reducible refine ao_name ?_)
  | (with_reducible refine ao_asg ?_)
  | (with_reducible refine ao_nil ?_)
  | (with_reducible refine truthy_int ?_)
  | ((with_reducible refine b_range (by assumption) (by assumption) (by assumption) ?h1 ?_); (case h1 => rfl))
  | ((with_reducible refine b_len (by assumption) (by assumption) (by assumption) ?h1 ?_); (case h1 => rfl))
  | ((with_reducible refine b_ord (by assumption) (by assumption) (by assumption) ?h1 ?_); (case h1 => rfl))
  | ((with_reducible refine b_chr (by assumption) (by assumption) (by assumption) ?h1 ?_); (case h1 => rfl))
  | ((with_reducible refine b_sum (by assumption) (by assumption) (by assumption) ?h1 ?_); (case h1 => rfl))
  | ((with_reducible refine b_abs (by assumption) (by assumption) (by assumption) ?h1 ?_); (case h1 => rfl))
  | ((with_reducible refine b_map (by assumption) (by assumption) (by assumption) ?h1 ?_); (case h1 => rfl))
  | ((with_reducible refine b_int (by assumption) (by assumption) (by assumption) ?h1 ?_); (case h1 => rfl))
  | ((with_reducible refine b_list (by assumption) (by assumption) (by assumption) ?h1 ?_); (case h1 => rfl))
  | ((with_reducible refine g_search_reverse (by assumption) (by assumption) (by assumption) ?h1 ?_); (case h1 => rfl))
  | ((with_reducible refine g_get_line_col (by assumption) (by assumption) (by assumption) ?h1 ?_); (case h1 => rfl))
  | ((with_reducible refine g_gen (by assumption) (by assumption) (by assumption) ?h1 ?_); (case h1 => rfl))
  | ((with_reducible refine g_page (by assumption) (by assumption) (by assumption) ?h1 ?_); (case h1 => rfl))
  | ((with_reducible refine g_turn (by assumption) (by assumption) (by assumption) ?h1 ?_); (case h1 => rfl))
  | ((with_reducible refine g_sum (by assumption) (by assumption) (by assumption) ?h1 ?_); (case h1 => rfl))
  | ((with_reducible refine g_known (by assumption) (by assumption) (by assumption) ?h1 ?_); (case h1 => rfl))
  | ((with_reducible refine g_hit (by assumption) (by assumption) (by assumption) ?h1 ?_); (case h1 => rfl))
  | ((with_reducible refine g_prog (by assumption) (by assumption) (by assumption) ?h1 ?_); (case h1 => rfl))
  | ((with_reducible refine g_found (by assumption) (by assumption) (by assumption) ?h1 ?_); (case h1 => rfl))
  | ((with_reducible refine g_firsts (by assumption) (by assumption) (by assumption) ?h1 ?_); (case h1 => rfl))
  | ((with_reducible refine g_due (by assumption) (by assumption) (by assumption) ?h1 ?_); (case h1 => rfl)))
section
variable {prog : Program} {w : World} {g : Heap} {A : Around} {b s : Shared} {L : Addr} {l : List (Str × Value)} {fs : List (Addr × Obj)} {Q : Value → Shared → Prop}
theorem d_prog (G : Gs w g) (F : Fm g b L l fs s) (r : Room 4 A) {word signs : List Nat} {t u v : Tok} (hw4 : word.length ≤ 4) (hw : ∀ c ∈ word, c < 256) (hs : ∀ c ∈ signs, c < 256) (hl : signs.length ≤ 1000)
    (h : ∀ p hs s', ProgIn prog w hs p word.length (srch word) (fun row => row.length ≤ 1000 ∧ ∀ c ∈ row, c ∈ signs) → (∀ q ∈ hs, NewO b q) → (∀ q ∈ hs, q.2.data ≠ .cell none) → Fm g b L l (hs ++ fs) s' → Q (.ref p) s') :
    wpAny (model prog w) A (call (.ref 73) [.int word.length t, .int (crc word) u, .str ⟨signs.toArray⟩ v]) Q NoE s := by
  have hsl := sizeLine_eq
  refine enterC (fd := fdAt w 73) (body := bdAt w 73) (binds := [("size", .int word.length t), ("known", .int (crc word) u), ("signs", .str ⟨signs.toArray⟩ v)]) G F.kg F.td (Nat.le_trans F.gb F.size) r rfl (by kernel_rfl) rfl rfl rfl (by kernel_rfl)
    [(Str.ofString "signs", .str ⟨signs.toArray⟩ v)] (fun L => ⟨rfl, trivial⟩) (fun L => [(Str.ofString "gone", L + 1 + 1 + 1), (Str.ofString "known", L + 1 + 1), (Str.ofString "size", L + 1)]) (fun L => rfl) [Str.ofString "gone", Str.ofString "known", Str.ofString "size"] (fun L => rfl) (by decide) (fun L s₁ fs₁ F₁ hcs R => ?_) rfl rfl rfl
  obtain ⟨o₃, fs', rfl, ho₃, _, o₂, fs'', rfl, ho₂, _, o₁, fs''', rfl, ho₁, _, rfl⟩ := hcs
  have pe : PlainEnv (callEnvC (fdAt w 73) L 73) L := ⟨rfl, rfl, rfl, rfl⟩
  have e₁ : o₁ = setC o₁ (.int word.length t) := by obtain ⟨x, y, z, q⟩ := o₁; simp only at ho₁; subst ho₁; rfl
  have e₂ : o₂ = setC o₂ (.int (crc word) u) := by obtain ⟨x, y, z, q⟩ := o₂; simp only at ho₂; subst ho₂; rfl
  rw [e₁, e₂] at F₁
  refine wpAny_execs_cons ?_
  walk_at "m"
  refine q_dict0 F₁ fun d od s₂ hdne hdb hdm hod F₂ => ?_
  have hnc : s.heap.objs.size ≤ L + 1 + 1 + 1 := Nat.le_trans F₁.nL (by omega)
  refine n_stc F₂ pe rfl rfl ho₃ hnc (.tail (hdne _ (.head _)).symm (.head fun p hp => ?_)) fun s₃ F₃ => ?_
  · rcases List.mem_cons.mp hp with rfl | hp
    · exact Nat.ne_of_lt (Nat.lt_succ_self _)
    · rw [List.mem_singleton.mp hp]; exact Nat.ne_of_lt (Nat.lt_succ_of_lt (Nat.lt_succ_self _))
  repeat walk_at "m"
  refine wpAny_For ?_
  repeat walk_at "m"
  have F₄ := F₃.weak (l' := []) trivial
  refine iterStr F₄ ?_
  have hcd : ∀ p ∈ [(L + 1 + 1 + 1, setC o₃ (.ref d)), (L + 1 + 1, setC o₂ (.int (crc word) u)), (L + 1, setC o₁ (.int word.length t))], p.1 ≠ d := fun p hp => by
    rcases List.mem_cons.mp hp with rfl | hp
    · exact hdne (_, o₃) (.head _)
    · exact hdne p (.tail _ hp)
  refine forIt (env := callEnvC (fdAt w 73) L 73) R.hh (fun i l fs => l = [] ∧ ∃ kvs o, o.IsDictOf (strKind prog w) kvs ∧ kvs.length ≤ i ∧ GoneOk word.length kvs (signs.take i) ∧ GoneTrue word.length kvs ∧ fs = [(d, o), (L + 1 + 1 + 1, setC o₃ (.ref d)), (L + 1 + 1, setC o₂ (.int (crc word) u)), (L + 1, setC o₁ (.int word.length t))])
    (fun i l₁ fs₁ ⟨_, _, _, _, _, _, _, e⟩ p hp => by
      subst e
      rcases List.mem_cons.mp hp with rfl | hp
      · exact ⟨_, .head _, rfl⟩
      · exact ⟨p, .tail _ hp, rfl⟩) ⟨rfl, [], od, hod, Nat.le_refl _, fun c hc => by simp at hc, (fun c q hq => by cases hq), rfl⟩ pe rfl ?_ ?_
  · rintro i vv l₁ fs₁ itr s₅ hi ⟨c, tc, hc, rfl⟩ ⟨rfl, kvs, o, hok, hkl, hg, hgt, rfl⟩ hitr F₅
    have hil : i < signs.length := by simpa using hi
    have hci : signs[i]? = some c := by simpa using hc
    have htk : signs.take (i + 1) = signs.take i ++ [c] := by rw [List.take_add_one, hci]; rfl
    repeat walk_at "m"
    refine u_notin F₅ (.head _) hok hdm fun s₆ F₆ => ?_
    repeat walk_at "m"
    cases hva : valueAt kvs ⟨#[c]⟩ with
    | none =>
      refine iteT rfl ?_
      repeat walk_at "m"
      refine ⟨F₆.kg, ?_⟩
      refine d_sum G F₆ R (by show 1 + word.length ≤ 1000; omega) fun tq s₇ F₇ => ?_
      repeat walk_at "m"
      have hne : ∀ p ∈ itr, p.1 ≠ d := fun p hp => (hitr p hp).elim (fun e => by cases e) fun e => Ne.symm (e _ (.head _))
      refine u_dset (fs' := fun o' => (d, o') :: ([(L + 1 + 1 + 1, setC o₃ (.ref d)), (L + 1 + 1, setC o₂ (.int (crc word) u)), (L + 1, setC o₁ (.int word.length t))] ++ itr)) F₇ hdb (.head _) hok (by omega) (fun o' => .head fun p hp => ?_) fun o' s₈ hok' F₈ => ?_
      · rcases List.mem_append.mp hp with hp | hp
        · exact hcd p hp
        · exact hne p hp
      repeat walk_at "m"
      rw [stored_absent hva] at hok'
      refine ⟨[], [(d, o'), (L + 1 + 1 + 1, setC o₃ (.ref d)), (L + 1 + 1, setC o₂ (.int (crc word) u)), (L + 1, setC o₁ (.int word.length t))], ⟨rfl, _, o', hok', by rw [List.length_append]; simpa using hkl, ?_, fun c' q' hq' => ?_, rfl⟩, F₈.weak (l' := []) trivial⟩
      · rw [htk]
        intro c' hc'
        rcases List.mem_append.mp hc' with hc' | hc'
        · obtain ⟨t', ht'⟩ := hg c' hc'
          exact ⟨t', valueAt_old ht'⟩
        · rw [List.mem_singleton.mp hc']
          exact ⟨tq, valueAt_new hva⟩
      · rcases valueAt_inv hq' with hq' | ⟨hc', rfl⟩
        · exact hgt c' q' hq'
        · cases hc'
          exact ⟨tq, rfl⟩
    | some q =>
      refine iteF rfl ?_
      repeat walk_at "m"
      refine ⟨[], _, ⟨rfl, kvs, o, hok, by omega, ?_, hgt, rfl⟩, F₆.weak (l' := []) trivial⟩
      rw [htk]
      intro c' hc'
      rcases List.mem_append.mp hc' with hc' | hc'
      · exact hg c' hc'
      · rw [List.mem_singleton.mp hc']
        obtain ⟨t', rfl⟩ := hgt c q hva
        exact ⟨t', hva⟩
  · rintro l₁ fs₁ s₅ ⟨rfl, kvs, o, hok, hkl, hg, hgt, rfl⟩ F₅
    rw [show (⟨signs.toArray⟩ : Str).cps.size = signs.length by simp, List.take_length] at hg
    repeat walk_at "m"
    refine x_def G F₅ (.inr ⟨rfl, rfl⟩) rfl rfl rfl rfl rfl rfl rfl (by kernel_rfl) ?_
    repeat walk_at "m"
    rename_i t₀ s₆ F₆
    refine ⟨_, F₆, fun sf T cc oc vs tq pm doc ctv s₇ hoc hvs hne hsf hT hcf hTf F₇ => ?_⟩
    walk_at "m"
    rename_i s₈ F₈
    walk_at "m"
    walk_at "m"
    refine e_lam G F₈ (.inr ⟨rfl, rfl⟩) rfl rfl rfl rfl (by kernel_rfl) fun f cc₂ oc₂ vs₂ tq₂ pm₂ ctv₂ s₉ hoc₂ hvs₂ hne₂ hf₂ hcf₂ F₉ => ?_
    walk_at "m"
    rename_i s₁₀ F₁₀
    walk_at "m"
    refine plainObj_wpAny_Assign_Attribute ?_ rfl
    walk_at "m"
    walk_at "m"
    refine fn_set fn_search F₁₀ hf₂ (fun p hp => ?_) fun dd odd es ep s₁₁ hodd hsk hns hdne' hfd hbd F₁₁ => ?_
    · rcases List.mem_cons.mp hp with rfl | hp
      · exact hcf₂
      · exact hne₂ p hp
    have F₁₂ := F₁₁.weak (l' := [(Str.ofString "prog", _)]) ⟨rfl, trivial⟩
    clear F₁ F₂ F₃ F₄ F₅ F₆ F₇ F₈ F₉ F₁₀
    walk_at "m"
    walk_at "m"
    walk_at "m"
    have fin : ∀ (l' : List (Str × Value)) (hs' : List (Addr × Obj)) s', Fm g s L l' hs' s' → (ProgIn prog w hs' f word.length (srch word) fun row => row.length ≤ 1000 ∧ ∀ c ∈ row, c ∈ signs) → (∀ p ∈ hs', NewO s p) → (∀ q ∈ hs', q.2.data ≠ .cell none) → Q (.ref f) s' :=
      fun l' hs' s' F' hh hn hc => h f hs' s' hh (fun p hp => (hn p hp).le F.size) hc (F.retN G F' fun p hp => ⟨hp, hn p hp⟩)
    refine fin _ _ _ F₁₁ ?_ (fun p hp => ?_) fun p hp => ?_
    · refine ⟨_, dd, odd, es, ep, sf, _, .tail _ (.head _), .head _, hodd, hsk, hns, .tail _ (.tail _ (.tail _ (.head _))), ?_⟩
      intro g' b' L' l' fs' s' A' Q' row tr args start G' F' hk R' hrow hargs hst hq0 hq1
      have hsp := (F'.own _ (hk _ (.tail _ (.tail _ (.tail _ (.head _)))))).1.1
      have hcc := (F'.own _ (hk _ (.tail _ (.tail _ (.tail _ (.tail _ (.head _))))))).1.1
      have hTT := (F'.own _ (hk _ (.tail _ (.tail _ (.tail _ (.tail _ (.tail _ (.head _)))))))).1.1
      have hns : ∀ p ∈ [(d, o), (L + 1 + 1 + 1, setC o₃ (.ref d)), (L + 1 + 1, setC o₂ (.int (crc word) u)), (L + 1, setC o₁ (.int word.length t))], Pt s'.heap p.1 p.2 := fun p hp => (F'.own _ (hk _ (.tail _ (.tail _ (.tail _ (.tail _ (.tail _ (.tail _ hp)))))))).1
      clear hk F₁₁ F₁₂
      refine enterB (binds := fun u' => [(Str.ofString "row", .str ⟨row.toArray⟩ tr), (Str.ofString "start", .int start u')]) G' F' R' hsp hcc hoc hvs rfl rfl ?_ rfl (fun _ => rfl) (fun _ => ⟨rfl, rfl, rfl, rfl⟩) (fun u' L₂ s₆ pe' F₈ R₂ => ?_) rfl rfl rfl
      · rcases hargs with ⟨rfl, rfl⟩ | ⟨u', rfl⟩
        · exact ⟨t₀, BindsTo.of_defaults rfl hTT rfl rfl rfl⟩
        · exact ⟨u', BindsTo.of_defaults rfl hTT rfl rfl rfl⟩
      · have F₉ := (F₈.weak (l' := [(Str.ofString "row", .str ⟨row.toArray⟩ tr), (Str.ofString "start", .int start u')]) ⟨rfl, rfl, trivial⟩).addB hns
        clear F₈
        rw [List.append_nil] at F₉
        obtain ⟨hrl, hrs⟩ := hrow
        have hr256 : ∀ c ∈ row, c < 256 := fun c hc => hs c (hrs c hc)
        have hrow' : (⟨row.toArray⟩ : Str).cps.toList = row := rfl
        refine wpAny_execs_cons ?_
        repeat walk_at "m"
        rename_i s₇ F₁₀
        refine i_slice (i := start) (j := start + word.length) F₁₀ (by omega) (by show row.toArray.size ≤ sizeLine; rw [List.size_toArray]; omega) fun ts s₈ F₁₁ => ?_
        repeat walk_at "m"
        rename_i s₉ F₁₂
        refine ⟨F₁₂.kg, ?_⟩
        rw [hrow', show start + word.length - start = word.length by omega]
        refine d_sum (n := 0) G' F₁₂ (R₂.mono (by decide)) (by show ((row.drop start).take word.length).toArray.size + 0 ≤ 1000; rw [List.size_toArray, List.length_take]; omega) fun tq' s₁₀ F₁₃ => ?_
        rw [show crc ((⟨((row.drop start).take word.length).toArray⟩ : Str).cps.toList ++ List.replicate 0 0) = crc ((row.drop start).take word.length) from by
          show crc ((row.drop start).take word.length ++ []) = _; rw [List.append_nil]]
        walk_at "m"
        rename_i s₁₁ F₁₄
        walk_at "m"
        refine wpAny_For ?_
        have hrz : (⟨row.toArray⟩ : Str).cps.size ≤ 1000 := by show row.toArray.size ≤ 1000; rw [List.size_toArray]; exact hrl
        repeat walk_at "m"
        rename_i F₁₅
        refine r_range2 F₁₅ fun r₁ s₁₂ ta tb tc hr₁ F₁₆ => ?_
        rw [show ((⟨row.toArray⟩ : Str).cps.size : Int) = (row.length : Int) from by simp] at hr₁
        have F₁₇ := F₁₆.weak (l' := [(Str.ofString "total", .int (crc ((row.drop start).take word.length)) tq'), (Str.ofString "row", .str ⟨row.toArray⟩ tr)]) ⟨rfl, rfl, trivial⟩
        obtain ⟨n, hn⟩ : ∃ n, row.length + 1 - word.length - start = n := ⟨_, rfl⟩
        refine iterRange (n := n) F₁₇ hr₁ (small_ok (by omega) (by omega) (by omega) (by omega) (.inl rfl)) (by rw [rangeSize_one]; split <;> omega) ?_
        refine forL (env := callEnv _ L₂ sf) R₂.hh (fun i l => srch word row start = srchGo word row (start + i) (n - i) ∧ ∃ (TT : Nat) (tt : Tok), l = [(Str.ofString "total", .int TT tt), (Str.ofString "row", .str ⟨row.toArray⟩ tr)] ∧ (i < n → TT = crc ((row.drop (start + i)).take word.length)))
          ⟨by rw [srch, hn]; rfl, _, _, rfl, fun _ => rfl⟩ pe' rfl ?_ ?_
        · rintro i vv l₁ fs₁ s₁₃ hi ⟨tk, rfl⟩ ⟨hsr, TT, tt, rfl, hTT'⟩ hsubf F₁₈
          have hTe := hTT' hi
          subst hTe
          have hks : start + i + word.length ≤ row.length := by omega
          rw [show (start : Int) + (i : Int) * 1 = ((start + i : Nat) : Int) by omega] at F₁₈
          obtain ⟨k, hk⟩ : ∃ k, start + i = k := ⟨_, rfl⟩
          rw [hk] at F₁₈ hsr hks
          have F₁₉ := F₁₈.sub (fs' := [(d, o), (L + 1 + 1 + 1, setC o₃ (.ref d)), (L + 1 + 1, setC o₂ (.int (crc word) u)), (L + 1, setC o₁ (.int word.length t))] ++ fs₁) fun p hp => (List.mem_append.mp hp).elim (hsubf p) id
          clear F₁₈ F₉ F₁₀ F₁₁ F₁₂ F₁₃ F₁₄ F₁₅ F₁₆ F₁₇
          repeat walk_at "m"
          by_cases hwd : (row.drop k).take word.length = word
          · refine iteT (by rw [hwd]; exact beq_self_eq_true _) ?_
            repeat walk_at "m"
            rename_i F₂₀
            refine ⟨F₂₀.kg, ?_⟩
            refine d_hit G' F₂₀ (R₂.mono (by decide)) fun f' hs' s₁₄ hh hnw F₂₁ => ?_
            repeat walk_at "m"
            refine hq1 k f' hs' _ ?_ hh (fun p hp => (hnw p hp).le F'.size) (F'.retN G' F₂₁ fun p hp => ⟨List.mem_append_left _ hp, hnw p hp⟩)
            rw [hsr, show n - i = n - i - 1 + 1 by omega, srchGo, if_pos hwd]
          · refine iteF (beq_eq_false_iff_ne.2 fun e => hwd ?_) ?_
            · refine crc_inj (by rw [List.length_take, List.length_drop]; omega) (by rw [List.length_take, List.length_drop]; omega) (fun c hc => hr256 c (List.mem_of_mem_drop (List.mem_of_mem_take hc))) hw ?_
              omega
            have hsr' : srch word row start = srchGo word row (start + (i + 1)) (n - (i + 1)) := by
              rw [hsr, show n - i = n - (i + 1) + 1 by omega, srchGo, if_neg hwd, ← hk]; rfl
            repeat walk_at "m"
            by_cases hlast : k + word.length < row.length
            · refine iteT (decide_eq_true (by show (k : Int) + (word.length : Int) < ((row.toArray.size : Nat) : Int); rw [List.size_toArray]; omega)) ?_
              obtain ⟨c, hc⟩ : ∃ c, row[k]? = some c := ⟨_, List.getElem?_eq_getElem (by omega)⟩
              obtain ⟨e, he⟩ : ∃ e, row[k + word.length]? = some e := ⟨_, List.getElem?_eq_getElem hlast⟩
              have hroll := roll row word.length k c e hr256 hc he
              repeat walk_at "m"
              rename_i F₂₀
              refine t_str (i := k + word.length) (c := e) rfl (fun _ => rfl) F₂₀ (by omega) (by simpa using he) fun t₁ s₁₄ F₂₁ => ?_
              repeat walk_at "m"
              rename_i F₂₂
              refine ⟨F₂₂.kg, ?_⟩
              refine d_turn G' F₂₂ (R₂.mono (by decide)) fun t₂ s₁₅ F₂₃ => ?_
              repeat walk_at "m"
              refine t_str (i := k) (c := c) rfl (fun _ => rfl) F₂₃ (by omega) (by simpa using hc) fun t₃ s₁₆ F₂₄ => ?_
              obtain ⟨t₄, hv⟩ := hg c (hrs c (List.mem_of_getElem? hc))
              refine t_dict rfl F₂₄ (.head _) hok hv fun s₁₇ F₂₅ => ?_
              repeat walk_at "m"
              rename_i F₂₆
              refine ⟨_, ⟨hsr', _, _, rfl, fun _ => ?_⟩, (F₂₆.sub fun p hp => List.mem_append_right _ hp).weak ⟨iEq rfl (bitXor_nat _ _), rfl, trivial⟩⟩
              rw [hroll, show start + (i + 1) = k + 1 by omega]
            · refine iteF (decide_eq_false (by show ¬ (k : Int) + (word.length : Int) < ((row.toArray.size : Nat) : Int); rw [List.size_toArray]; omega)) ?_
              repeat walk_at "m"
              rename_i F₂₀
              exact ⟨_, ⟨hsr', _, _, rfl, fun hlt => by omega⟩, (F₂₀.sub fun p hp => List.mem_append_right _ hp).weak ⟨rfl, rfl, trivial⟩⟩
        · rintro l₁ s₁₃ ⟨hsr, _⟩ F₁₈
          rw [show n - n = 0 by omega, srchGo] at hsr
          repeat walk_at "m"
          exact hq0 hsr _ (F'.call G' F₁₈.le F₁₈.td)
    · rcases List.mem_cons.mp hp with rfl | hp
      · exact .inl hbd
      rcases List.mem_cons.mp hp with rfl | hp
      · exact .inl hf₂
      rcases List.mem_cons.mp hp with rfl | hp
      · exact .inr (by rw [hoc₂]; nofun)
      rcases List.mem_cons.mp hp with rfl | hp
      · exact .inl hsf
      rcases List.mem_cons.mp hp with rfl | hp
      · exact .inr (by rw [hoc]; nofun)
      rcases List.mem_cons.mp hp with rfl | hp
      · exact .inl hT
      rcases List.mem_cons.mp hp with rfl | hp
      · exact .inl hdb
      rcases List.mem_cons.mp hp with rfl | hp
      · exact .inr nofun
      rcases List.mem_cons.mp hp with rfl | hp
      · exact .inr nofun
      · rw [List.mem_singleton.mp hp]; exact .inr nofun
    · rcases List.mem_cons.mp hp with rfl | hp
      · show odd.data ≠ _; rw [hodd]; nofun
      rcases List.mem_cons.mp hp with rfl | hp
      · nofun
      rcases List.mem_cons.mp hp with rfl | hp
      · show oc₂.data ≠ _; rw [hoc₂]; nofun
      rcases List.mem_cons.mp hp with rfl | hp
      · nofun
      rcases List.mem_cons.mp hp with rfl | hp
      · show oc.data ≠ _; rw [hoc]; nofun
      rcases List.mem_cons.mp hp with rfl | hp
      · nofun
      rcases List.mem_cons.mp hp with rfl | hp
      · obtain ⟨es', ep', _, e', _⟩ := hok
        show o.data ≠ _; rw [e']; nofun
      rcases List.mem_cons.mp hp with rfl | hp
      · nofun
      rcases List.mem_cons.mp hp with rfl | hp
      · nofun
      · rw [List.mem_singleton.mp hp]; nofun
end
end Mine
/- MT -/
namespace Mine
open PyProof.Rows PySem PySem.Builtin PySem.W
theorem slot_map_next : Slot "map" "__next__" "map.__next__" :=
  .of (owner := "map") (n := "__next__") (by rw [typeLookup_type, builtinLookup_eq_fast]; kernel_rfl) (by decide +kernel) (by decide +kernel) (by decide +kernel)
    (by first | exact .inl (by decide +kernel) | exact .inr (by decide +kernel)) (by rw [isSubtype_type]; kernel_rfl)
theorem slot_map_iter : Slot "map" "__iter__" "map.__iter__" :=
  .of (owner := "map") (n := "__iter__") (by rw [typeLookup_type, builtinLookup_eq_fast]; kernel_rfl) (by decide +kernel) (by decide +kernel) (by decide +kernel)
    (by first | exact .inl (by decide +kernel) | exact .inr (by decide +kernel)) (by rw [isSubtype_type]; kernel_rfl)
theorem entry_map_next : entryFor table "map.__next__" = some Builtin.«map.__next__» := entryFor_of_tree (by kernel_rfl)
theorem entry_map_new : entryFor table "map.__new__" = some Builtin.«map.__new__» := entryFor_of_tree (by kernel_rfl)
theorem args_map_next (a : Value) : argsOk "map.__next__" ⟨[a], []⟩ := by unfold argsOk; kernel_rfl
theorem args_map_iter (a : Value) : argsOk "map.__iter__" ⟨[a], []⟩ := by unfold argsOk; kernel_rfl
theorem entry_map_iter : entryFor table "map.__iter__" = some Builtin.«dict_keyiterator.__iter__» :=
  entryFor_alias (id' := "dict_keyiterator.__iter__") (by kernel_rfl) (by first | rfl | decide +kernel | (unfold String.splitOn; simp +decide [String.splitOnAux])) (by decide +kernel) (by kernel_rfl)
theorem mro_map : mroOf (.type "map") = pure [.type "map", .type "object"] := by rw [mroOf_type]; kernel_rfl
theorem lookup_map_new : typeLookup (.type "map") "__new__" = pure (some (.builtin "map.__new__")) := by rw [typeLookup_type, builtinLookup_eq_fast]; kernel_rfl
theorem slot_map_init : Slot "map" "__init__" "object.__init__" :=
  .of (owner := "object") (n := "__init__") (by rw [typeLookup_type, builtinLookup_eq_fast]; kernel_rfl) (by decide +kernel) (by decide +kernel) (by decide +kernel)
    (by first | exact .inl (by decide +kernel) | exact .inr (by decide +kernel)) (by rw [isSubtype_type]; kernel_rfl)
theorem called_map : TypeCalled "map" "map.__new__" "object.__init__" :=
  ⟨by decide +kernel, by decide +kernel, ⟨_, _, mro_map⟩, madeBy_type mro_map lookup_map_new (by decide +kernel), by decide +kernel, by rw [isSubtype_type]; kernel_rfl, slot_map_init⟩
theorem typeCall_map_2 (a c : Value) : checkTypeCall "map" ⟨[a, c], []⟩ = pure () := by kernel_rfl
theorem newCall_map_2 (a c : Value) : checkBuiltinCall "map.__new__" ⟨[.type "map", a, c], []⟩ = pure () := by kernel_rfl
theorem sub_map : isSubtype (.type "map") (.type "map") = pure true := by rw [isSubtype_type]; kernel_rfl
theorem args_init_3 (a c d : Value) : argsOk "object.__init__" ⟨[a, c, d], []⟩ := by unfold argsOk; kernel_rfl
abbrev litO (l : Addr) (i : Nat) : Obj := { cls := .type "list_iterator", data := .fields #[.ref l, .int i 0] }
abbrev mapO (T : Addr) : Obj := { cls := .type "map", data := .fields #[.ref T, .type "int"] }
abbrev tupO (vs : Array Value) : Obj := { cls := .type "tuple", data := .seq vs }
theorem meets_map_new (l : Addr) (items : Array Value) :
    Meets (Builtin.«map.__new__» ⟨[.type "map", .type "int", .ref l], []⟩) (fun _ R s => s.heap.IsList l items ∧
      R (.ok (.ret (.ref ((s.heap.push (litO l 0)).push (tupO #[.ref s.heap.objs.size])).objs.size)))
        { s with heap := ((s.heap.push (litO l 0)).push (tupO #[.ref s.heap.objs.size])).push (mapO (s.heap.push (litO l 0)).objs.size) }) :=
  .of_wp fun prog w A R s h => by
    obtain ⟨hp, g, d, tk, os⟩ := s; obtain ⟨hL, h⟩ := h
    have hsub := sub_map
    wp_walk using wpAny_pyIter_list hL
    exact ⟨_, rfl, h⟩
end Mine
/- MU -/
namespace Mine
open PyProof.Rows PySem PySem.Builtin PySem.W
section
variable {prog : Program} {w : World} {A : Around} {E : Value → Shared → Prop} {s : Shared}
theorem map_next_item {M T it l : Addr} {i : Nat} {items : Array Value} {x : Str} {t : Tok} {n : Int} {Q : Option Value → Shared → Prop} (hM : s.heap.get? M = some (mapO T)) (hT : s.heap.get? T = some (tupO #[.ref it]))
    (hit : s.heap.IsListIter it l i) (hl : s.heap.IsList l items) (hx : items[i]? = some (.str x t)) (hn : PySem.intText? x = some n) (hlen : x.length ≤ 640) (hMi : M ≠ it)
    (hQ : ∀ h', h'.IsListIter it l (i + 1) → Heap.SameBut it s.heap h' → Q (some (.int n s.toks)) { s with heap := h', toks := s.toks + 1 }) : wpAny (model prog w) A (pyNext (.ref M)) Q E s := by
  have hTy : s.TypeIs (.ref M) "map" := ⟨_, hM, rfl⟩
  unfold pyNext
  refine wpAny_bind (wpAny_attempt (wpAny_callSpecial?_slot (name := Str.ofString "__next__") hTy slot_map_next (wpAny_call_entry slot_map_next hTy entry_map_next ?_ (args_map_next _))))
  show wpAny _ _ (field (.ref M) 0 >>= _) _ _ s
  refine wpAny_bind (wpAny_field hM rfl (x := .ref T) rfl ?_)
  refine wpAny_bind (wpAny_seqItems hT rfl ?_)
  dsimp only
  refine wpAny_bind ?_
  rw [← Array.forIn_toList]
  simp only [List.forIn_cons, List.forIn_nil]
  refine wpAny_bind (wpAny_bind (wpAny_holding (wpAny_nextOf_list_item hit hl hx fun h' hit' hs => wpAny_pure (wpAny_pure ?_))))
  have hM' : h'.get? M = some (mapO T) := (hs.2 M hMi).trans hM
  refine wpAny_bind (wpAny_field hM' rfl (x := .type "int") rfl ?_)
  show wpAny _ _ (holding [.str x t] (call (.type "int") [.str x t]) >>= _) _ _ _
  refine wpAny_bind (wpAny_holding (KIN.call_text hn hlen ?_))
  refine wpAny_bind (wpAny_letGo (wpAny_pure ⟨_, rfl, wpAny_pure (hQ h' hit' hs)⟩))
theorem map_next_end {M T it l : Addr} {i : Nat} {items : Array Value} {Q : Option Value → Shared → Prop} (hh : A.handled = none) (hM : s.heap.get? M = some (mapO T)) (hT : s.heap.get? T = some (tupO #[.ref it]))
    (hit : s.heap.IsListIter it l i) (hl : s.heap.IsList l items) (hx : items[i]? = none)
    (hQ : ∀ h', Heap.ExtBut it s.heap h' → Q none { s with heap := h' }) : wpAny (model prog w) A (pyNext (.ref M)) Q E s := by
  have hTy : s.TypeIs (.ref M) "map" := ⟨_, hM, rfl⟩
  unfold pyNext
  refine wpAny_bind (wpAny_attempt (wpAny_callSpecial?_slot (name := Str.ofString "__next__") hTy slot_map_next (wpAny_call_entry slot_map_next hTy entry_map_next ?_ (args_map_next _))))
  show wpAny _ _ (field (.ref M) 0 >>= _) _ _ s
  refine wpAny_bind (wpAny_field hM rfl (x := .ref T) rfl ?_)
  refine wpAny_bind (wpAny_seqItems hT rfl ?_)
  dsimp only
  refine wpAny_bind ?_
  rw [← Array.forIn_toList]
  simp only [List.forIn_cons, List.forIn_nil]
  refine wpAny_bind (wpAny_bind (wpAny_holding (wpAny_nextOf_list_end hh hit hl hx fun h' e he' hx' => ?_)))
  obtain ⟨o, ho, hc⟩ := hx'
  refine wpAny_bind (wpAny_isInstance (T := "StopIteration") (b := true) ⟨o, ho, hc⟩ isSubtype_stop ?_)
  exact wpAny_pure (hQ _ he')
theorem pyIter_map {M T : Addr} {Q : Value → Shared → Prop} (hM : s.heap.get? M = some (mapO T)) (h : Q (.ref M) s) : wpAny (model prog w) A (pyIter (.ref M)) Q E s := by
  have hT : s.TypeIs (.ref M) "map" := ⟨_, hM, rfl⟩
  refine wpAny_pyIter_slot hT slot_map_iter (wpAny_call_entry slot_map_iter hT entry_map_iter ?_ (args_map_iter _))
  show wpAny _ _ (ret (.ref M)) _ _ s
  exact wpAny_pure ⟨_, rfl, "map", _, hT, slot_map_next.lookup, h⟩
variable {g : Heap} {b : Shared} {L : Addr} {l : List (Str × Value)} {fs : List (Addr × Obj)}
/-- map(int, a list) -/
theorem u_map {a : Addr} {its : Array Value} {Q : Value → Shared → Prop} (F : Fm g b L l fs s) (hl : s.heap.IsList a its)
    (h : ∀ M T it s', s.heap.objs.size ≤ it → it < T → T < M → Fm g b L l ((M, mapO T) :: (T, tupO #[.ref it]) :: (it, litO a 0) :: fs) s' → Q (.ref M) s') : wpAny (model prog w) A (call (.type "map") [.type "int", .ref a]) Q E s := by
  refine callType_new called_map (by decide) (typeCall_map_2 _ _) (newCall_map_2 _ _) (fun obj => args_init_3 obj _ _) entry_map_new (meets_map_new a its) ⟨hl, ?_⟩
  have F1 := F.push (o := litO a 0) (n := s.toks) rfl
  have F2 := F1.push (o := tupO #[.ref s.heap.objs.size]) (n := s.toks) rfl
  have F3 := F2.push (o := mapO (s.heap.push (litO a 0)).objs.size) (n := s.toks) rfl
  refine ⟨⟨_, Heap.get?_push_size _ rfl, rfl⟩, h _ _ _ _ (Nat.le_refl _) ?_ ?_ F3⟩
  · show s.heap.objs.size < (s.heap.push (litO a 0)).objs.size
    rw [Heap.size_push]; exact Nat.lt_succ_self _
  · show (s.heap.push (litO a 0)).objs.size < ((s.heap.push (litO a 0)).push (tupO #[.ref s.heap.objs.size])).objs.size
    rw [Heap.size_push (s.heap.push (litO a 0))]; exact Nat.lt_succ_self _
/-- a, b = the two numbers of such a map -/
theorem unp_map {a M T it : Addr} {x y : Str} {tx ty : Tok} {m n : Int} {k : Nat} {K : List Value → Shared → Prop} (hh : A.handled = none) (F : Fm g b L l ((M, mapO T) :: (T, tupO #[.ref it]) :: (it, litO a 0) :: fs) s)
    (hit : b.heap.objs.size ≤ it) (hTi : it < T) (hTM : T < M) (hf : ∀ p ∈ fs, p.1 ≠ it) (ha : (a, listOf #[.str x tx, .str y ty] k) ∈ fs) (hm : PySem.intText? x = some m) (hn : PySem.intText? y = some n) (hx : x.length ≤ 640) (hy : y.length ≤ 640)
    (h : ∀ t u s', Fm g b L l fs s' → K [.int m t, .int n u] s') : wpAny (model prog w) A (unpackItems (.ref M) 2 none) K E s := by
  have gM := (F.own _ (.head _)).1.1
  have gT := (F.own _ (.tail _ (.head _))).1.1
  have gi := (F.own _ (.tail _ (.tail _ (.head _)))).1.1
  have hiL := (F.own _ (.tail _ (.tail _ (.head _)))).2
  have hl : s.heap.IsList a #[.str x tx, .str y ty] := ⟨_, (F.own _ (.tail _ (.tail _ (.tail _ ha)))).1.1, rfl, k, rfl⟩
  have hMi : M ≠ it := Nat.ne_of_gt (Nat.lt_trans hTi hTM)
  have hTi' : T ≠ it := Nat.ne_of_gt hTi
  have hai : a ≠ it := hf _ ha
  have Fr : Fm g b L l ((M, mapO T) :: (T, tupO #[.ref it]) :: fs) s := F.sub fun p hp => by
    rcases List.mem_cons.mp hp with rfl | hp
    · exact .head _
    rcases List.mem_cons.mp hp with rfl | hp
    · exact .tail _ (.head _)
    · exact .tail _ (.tail _ (.tail _ hp))
  have hf' : ∀ p ∈ (M, mapO T) :: (T, tupO #[.ref it]) :: fs, p.1 ≠ it := fun p hp => by
    rcases List.mem_cons.mp hp with rfl | hp
    · exact hMi
    rcases List.mem_cons.mp hp with rfl | hp
    · exact hTi'
    · exact hf p hp
  have npi : ∀ {h : Heap} {i : Nat} {o : Obj}, h.get? it = some o → h.IsListIter it a i → NP o := fun e st => by
    obtain ⟨o', ho, hc, hd⟩ := st
    rw [e] at ho; cases ho
    exact NP.fields hd (by rw [hc]; nofun) (by intro q t; simp)
  have li : s.heap.IsListIter it a 0 := ⟨_, gi, rfl, rfl⟩
  unfold unpackItems
  refine wpAny_bind ?_
  unfold notIterableAtAll
  refine wpAny_bind (wpAny_specialOf (T := "map") ⟨_, gM, rfl⟩ slot_map_iter.lookup ?_)
  refine wpAny_pure ?_
  simp only [Bool.false_eq_true, if_false]
  refine wpAny_bind (wpAny_holding (pyIter_map gM ?_))
  refine wpAny_bind (wpAny_holding ?_)
  show wpAny _ _ (pyNext (.ref M) >>= _) _ _ _
  refine wpAny_bind (map_next_item gM gT li hl (by rfl) hm hx hMi fun h₁ li₁ hs₁ => ?_)
  have F₁ := Fr.but (h' := h₁) (n := s.toks + 1) gi (npi gi li) hit hiL (fun c o hc e => (hs₁.2 c hc).trans e) hf'
  have hl₁ : h₁.IsList a #[.str x tx, .str y ty] := ⟨_, (F₁.own _ (.tail _ (.tail _ ha))).1.1, rfl, k, rfl⟩
  refine wpAny_bind (wpAny_holding ?_)
  show wpAny _ _ (pyNext (.ref M) >>= _) _ _ _
  refine wpAny_bind (map_next_item (F₁.own _ (.head _)).1.1 (F₁.own _ (.tail _ (.head _))).1.1 li₁ hl₁ (by rfl) hn hy hMi fun h₂ li₂ hs₂ => ?_)
  obtain ⟨o₁, ho₁, _⟩ := id li₁
  have F₂ := F₁.but (h' := h₂) (n := s.toks + 1 + 1) ho₁ (npi ho₁ li₁) hit hiL (fun c o hc e => (hs₂.2 c hc).trans e) hf'
  have hl₂ : h₂.IsList a #[.str x tx, .str y ty] := ⟨_, (F₂.own _ (.tail _ (.tail _ ha))).1.1, rfl, k, rfl⟩
  refine wpAny_bind (wpAny_holding (wpAny_pure (wpAny_pure (wpAny_pure ?_))))
  rw [if_neg (by simp)]
  refine wpAny_bind (wpAny_holding (map_next_end hh (F₂.own _ (.head _)).1.1 (F₂.own _ (.tail _ (.head _))).1.1 li₂ hl₂ (by rfl) fun h₃ he₃ => ?_))
  obtain ⟨o₂, ho₂, _⟩ := id li₂
  have F₃ := F₂.but (h' := h₃) (n := s.toks + 1 + 1) ho₂ (npi ho₂ li₂) hit hiL (fun c o hc e => he₃ c o hc e) hf'
  simp only [Option.isSome_none, Bool.false_eq_true, if_false]
  exact wpAny_pure (h _ _ _ (F₃.sub fun p hp => .tail _ (.tail _ hp)))
end
end Mine
/- MN -/
namespace Mine
open PyProof.Rows PySem PySem.Builtin PySem.Calls PySem.W
/-- the text of a number -/
abbrev numT (n : Int) : Str := Str.ofString (toString n)
section
variable {M : Model} {A : Around} {E : Value → Shared → Prop} {s : Shared} {l : List Nat} {p : List Value} {r : List Nat}
  {f : Nat → List Value × Builtin.Str.Writer × List Nat → Sem (ForInStep (List Value × Builtin.Str.Writer × List Nat))} {Q : List Value × Builtin.Str.Writer × List Nat → Shared → Prop}
  {w : Builtin.Str.Writer} {T x y : PySem.Str} {N K : Nat} {o : Option Value}
theorem big_int {c : Builtin.Str.Percent} {n : Int} {d : List Nat} (g : KPc.Good w T N) (h1 : c.alt = false) (h2 : c.type = 100 ∨ c.type = 105 ∨ c.type = 117) (h3 : c.prec = none) (hn : 0 ≤ n) (hm : n < 10 ^ 40)
    (hd : d = (PySem.Str.ofString (toString ((n.natAbs : Nat) : Int))).cps.toList) (ho : o = none) (h : ∀ w', KPc.Good w' (T ++ numT n) (N + 40) → wpAny M A (forIn l (p, w', r) f) Q E s) :
    wpAny M A (forIn l (p, w.add ⟨(Builtin.Str.percentInt c (decide (n < 0)) d).toArray⟩ o, r) f) Q E s := by
  have en : ((n.natAbs : Nat) : Int) = n := Int.natAbs_of_nonneg hn
  rw [KPc.int_text c h1 h2 h3 hn, hd, en]
  exact KPc.after_str g (toString_length_le hn (by decide) hm) (KPc.obj_none ho) h
theorem big_int0 {c : Builtin.Str.Percent} {n : Int} {d : List Nat} (g : KPc.Good w PySem.Str.empty N) (h1 : c.alt = false) (h2 : c.type = 100 ∨ c.type = 105 ∨ c.type = 117) (h3 : c.prec = none) (hn : 0 ≤ n) (hm : n < 10 ^ 40)
    (hd : d = (PySem.Str.ofString (toString ((n.natAbs : Nat) : Int))).cps.toList) (ho : o = none) (h : ∀ w', KPc.Good w' (numT n) (N + 40) → wpAny M A (forIn l (p, w', r) f) Q E s) :
    wpAny M A (forIn l (p, w.add ⟨(Builtin.Str.percentInt c (decide (n < 0)) d).toArray⟩ o, r) f) Q E s :=
  big_int g h1 h2 h3 hn hm hd ho fun w' g' => h w' (by rw [KPc.empty_app] at g'; exact g')
end
local macro_rules | `(tactic| kpt_piece) => `(tactic| first
  | (refine big_int0 (by kpc_g) rfl (by kpc_kind) rfl (by with_reducible assumption) (by with_reducible assumption) rfl (by kpc_none) ?_; intro _ _)
  | (refine big_int (by kpc_g) rfl (by kpc_kind) rfl (by with_reducible assumption) (by with_reducible assumption) rfl (by kpc_none) ?_; intro _ _))
theorem meets_fmt (b : Addr) (t ta tc : Tok) (a c : Int) (h0 : 0 ≤ a) (h1 : a < 10 ^ 40) (h2 : 0 ≤ c) (h3 : c < 10 ^ 40) :
    Meets (Builtin.«str.__mod__» ⟨[.str ⟨#[37, 100, 46, 37, 100]⟩ t, .ref b], []⟩) (fun _ R s => IsTup s.heap b #[.int a ta, .int c tc] ∧ ∀ t' k, R (.ok (.ret (.str (numT a ++ Str.ofString "." ++ numT c) t'))) { s with toks := k }) := by
  have ha : a.natAbs.log2 < 1920 := shown (N := 2 ^ 1920) (by omega) (by omega) (Int.le_refl _)
  have hc : c.natAbs.log2 < 1920 := shown (N := 2 ^ 1920) (by omega) (by omega) (Int.le_refl _)
  kpt_run
end Mine
/- MQ -/
namespace Mine
open PyProof.Rows PySem PySem.Builtin PySem.Builtin.Str PySem.StrLaws PySem.W
/-- the word stands at k -/
def Hit (word row : List Nat) (k : Nat) : Prop := k + word.length ≤ row.length ∧ (row.drop k).take word.length = word
theorem srchGo_spec (word row : List Nat) : ∀ n k, k + n + word.length ≤ row.length + 1 → 
    (srchGo word row k n = none → ∀ j, k ≤ j → j < k + n → ¬ Hit word row j) ∧ (∀ c, srchGo word row k n = some c → k ≤ c ∧ Hit word row c ∧ ∀ j, k ≤ j → j < c → ¬ Hit word row j)
  | 0, k, _ => ⟨fun _ j h1 h2 => by omega, fun c h => by cases h⟩
  | n + 1, k, h => by
    have ih := srchGo_spec word row n (k + 1) (by omega)
    rw [srchGo]
    by_cases hc : (row.drop k).take word.length = word
    · rw [if_pos hc]
      refine ⟨(fun e => by cases e), fun c e => ?_⟩
      cases e
      exact ⟨Nat.le_refl _, ⟨by omega, hc⟩, fun j h1 h2 => by omega⟩
    · rw [if_neg hc]
      refine ⟨fun e j h1 h2 hh => ?_, fun c e => ?_⟩
      · by_cases hj : j = k
        · subst hj; exact hc hh.2
        · exact ih.1 e j (by omega) (by omega) hh
      · obtain ⟨a, b, d⟩ := ih.2 c e
        refine ⟨by omega, b, fun j h1 h2 hh => ?_⟩
        by_cases hj : j = k
        · subst hj; exact hc hh.2
        · exact d j (by omega) h2 hh
theorem srch_none {word row : List Nat} {k : Nat} (h : srch word row k = none) : ∀ j, k ≤ j → ¬ Hit word row j := by
  intro j hj hh
  have h1 := hh.1
  have sp := srchGo_spec word row (row.length + 1 - word.length - k) k (by omega)
  exact sp.1 h j hj (by omega) hh
theorem srch_some {word row : List Nat} {k c : Nat} (h : srch word row k = some c) : k ≤ c ∧ Hit word row c ∧ ∀ j, k ≤ j → j < c → ¬ Hit word row j := by
  by_cases hk : k + word.length ≤ row.length + 1
  · exact (srchGo_spec word row (row.length + 1 - word.length - k) k (by omega)).2 c h
  · unfold srch at h
    rw [show row.length + 1 - word.length - k = 0 by omega] at h
    cases h
theorem srch_eq {word row : List Nat} {k c : Nat} (h1 : k ≤ c) (h2 : Hit word row c) (h3 : ∀ j, k ≤ j → j < c → ¬ Hit word row j) : srch word row k = some c := by
  cases h : srch word row k with
  | none => exact absurd h2 (srch_none h c h1)
  | some d =>
    obtain ⟨a, b, e⟩ := srch_some h
    congr 1
    rcases Nat.lt_trichotomy c d with hl | hl | hl
    · exact absurd h2 (e c h1 hl)
    · exact hl.symm
    · exact absurd b (h3 d a hl)
theorem srch_eq_none {word row : List Nat} {k : Nat} (h : ∀ j, k ≤ j → ¬ Hit word row j) : srch word row k = none := by
  cases e : srch word row k with
  | none => rfl
  | some c => obtain ⟨a, b, _⟩ := srch_some e; exact absurd b (h c a)
/-- the places of the word from the front -/
def greedy (word row : List Nat) (k : Nat) : Nat → List Nat
  | 0 => []
  | n + 1 => match srch word row k with
    | none => []
    | some c => c :: greedy word row (c + word.length) n
theorem at_hit (word row : List Nat) (k : Nat) : At ⟨row.toArray⟩ ⟨word.toArray⟩ (⟨row.toArray⟩ : Str).length k ↔ Hit word row k := by
  unfold At Hit
  rw [subAt_eq]
  have e1 : (⟨row.toArray⟩ : Str).length = row.length := by simp [Str.length]
  have e2 : (⟨word.toArray⟩ : Str).length = word.length := by simp [Str.length]
  rw [e1, e2]
  show _ ∧ ((row.drop k).take word.length == word) = true ↔ _
  rw [beq_iff_eq]
theorem chain_greedy (word row : List Nat) (hw : word ≠ []) : ∀ (cuts : List Nat) (a f n : Nat), ChainG ⟨row.toArray⟩ ⟨word.toArray⟩ (⟨row.toArray⟩ : Str).length a cuts f → (∀ k, f ≤ k → ¬ At ⟨row.toArray⟩ ⟨word.toArray⟩ (⟨row.toArray⟩ : Str).length k) → row.length < a + n → cuts = greedy word row a n
  | [], a, f, n, h, hn, _ => by
    have e : f = a := h
    subst e
    cases n with
    | zero => rfl
    | succ n =>
      rw [greedy, srch_eq_none fun j hj hh => hn j hj ((at_hit _ _ _).mpr hh)]
  | c :: r, a, f, n, h, hn, hl => by
    obtain ⟨h1, h2, h3, h4⟩ := h
    have hc := (at_hit _ _ _).mp h2
    have hwl : 0 < word.length := List.length_pos_iff.mpr hw
    have hcl := hc.1
    cases n with
    | zero => omega
    | succ n =>
      rw [greedy, srch_eq h1 hc fun j k1 k2 hh => h3 j k1 k2 ((at_hit _ _ _).mpr hh)]
      have e2 : (⟨word.toArray⟩ : Str).length = word.length := by simp [Str.length]
      rw [e2] at h4
      have := chain_greedy word row hw r (c + word.length) f n h4 hn (by omega)
      exact congrArg (c :: ·) this
theorem occ_greedy (word row : List Nat) (hw : word ≠ []) : occurrences ⟨row.toArray⟩ ⟨word.toArray⟩ 0 (⟨row.toArray⟩ : Str).length ((⟨row.toArray⟩ : Str).length + 1) = greedy word row 0 (row.length + 1) := by
  have e2 : (⟨word.toArray⟩ : Str).length = word.length := by simp [Str.length]
  have hwl : 0 < word.length := List.length_pos_iff.mpr hw
  obtain ⟨f, h, hn⟩ := occ_tight ⟨row.toArray⟩ ⟨word.toArray⟩ (by rw [e2]; exact hwl)
  exact chain_greedy word row hw _ 0 f _ h hn (by omega)
theorem kind_one (row : List Nat) (h : ∀ c ∈ row, c < 256) : Builtin.Str.strKind ⟨row.toArray⟩ = 1 := by
  unfold Builtin.Str.strKind
  rw [if_pos]
  rw [← Array.all_toList, List.all_eq_true]
  intro c hc
  exact decide_eq_true (h c hc)
theorem split_greedy (word row : List Nat) (hw : word ≠ []) (h1 : ∀ c ∈ word, c < 256) (h2 : ∀ c ∈ row, c < 256) :
    Txt.split ⟨row.toArray⟩ ⟨word.toArray⟩ = partsFrom ⟨row.toArray⟩ word.length 0 (greedy word row 0 (row.length + 1)) := by
  have e1 : (⟨row.toArray⟩ : Str).length = row.length := by simp [Str.length]
  have e2 : (⟨word.toArray⟩ : Str).length = word.length := by simp [Str.length]
  have sw : (⟨row.toArray⟩ : Str) = strSub ⟨row.toArray⟩ 0 (⟨row.toArray⟩ : Str).length := (sub_whole _).symm
  unfold Txt.split
  rw [kind_one row h2, kind_one word h1, occ_greedy word row hw, e1, e2]
  by_cases hl : row.length < word.length
  · rw [if_pos (by simp [hl])]
    have hg : greedy word row 0 (row.length + 1) = [] := by
      rw [greedy, srch_eq_none fun j _ hh => by have := hh.1; omega]
    rw [hg]
    exact congrArg (fun x => [x]) sw
  · rw [if_neg (by simp; omega)]
    cases hg : greedy word row 0 (row.length + 1) with
    | nil =>
      show [_] = _
      exact congrArg (fun x => [x]) sw
    | cons c r =>
      rw [if_neg (by simp), partsBetween_eq]
/-- the length of what stands ahead of the k-th place -/
theorem join_take (x y : Str) : ∀ (cuts : List Nat) (a f k c : Nat), ChainTo x y x.length a cuts f → cuts[k]? = some c → (Str.join y ((partsFrom x y.length a cuts).take (k + 1))).length + a = c
  | [], _, _, _, _, _, h => by cases h
  | d :: r, a, f, k, c, h, hk => by
    obtain ⟨h1, h2, h3⟩ := h
    have hd := h2.1
    have hl : (strSub x a d).length = d - a := by
      show (strSub x a d).cps.size = _
      rw [← Array.length_toList, strSub_toList, List.length_take, List.length_drop]
      have : x.length = x.cps.toList.length := by simp [Str.length]
      omega
    cases k with
    | zero =>
      have e : d = c := by simpa using hk
      subst e
      show (Str.join y [strSub x a d]).length + a = d
      show (strSub x a d).length + a = d
      rw [hl]; omega
    | succ k =>
      have hk' : r[k]? = some c := by simpa using hk
      have ih := join_take x y r (d + y.length) f k c h3 hk'
      obtain ⟨p, q, e⟩ := partsFrom_ne x y.length (d + y.length) r
      show (Str.join y (strSub x a d :: (partsFrom x y.length (d + y.length) r).take (k + 1))).length + a = c
      rw [e, List.take_succ_cons] at ih ⊢
      show (strSub x a d ++ y ++ Str.join y (p :: q.take k)).length + a = c
      rw [Str.length_append, Str.length_append, hl]
      omega
theorem greedy_chain (word row : List Nat) : ∀ (n a : Nat), ∃ f, ChainTo ⟨row.toArray⟩ ⟨word.toArray⟩ (⟨row.toArray⟩ : Str).length a (greedy word row a n) f
  | 0, a => ⟨a, rfl⟩
  | n + 1, a => by
    rw [greedy]
    cases h : srch word row a with
    | none => exact ⟨a, rfl⟩
    | some c =>
      obtain ⟨h1, h2, _⟩ := srch_some h
      obtain ⟨f, hf⟩ := greedy_chain word row n (c + word.length)
      have e2 : (⟨word.toArray⟩ : Str).length = word.length := by simp [Str.length]
      refine ⟨f, h1, (at_hit _ _ _).mpr h2, ?_⟩
      rw [e2]; exact hf
end Mine
/- MV -/
namespace Mine
open PyProof.Rows PySem PySem.Builtin PySem.Builtin.Str PySem.Calls PySem.NumText PySem.StrLaws PySem.W
theorem num_digits {n : Int} (h0 : 0 ≤ n) : AllDigits (numT n).cps.toList ∧ (numT n).cps.toList ≠ [] := by
  obtain ⟨m, rfl⟩ := Int.eq_ofNat_of_zero_le h0
  refine ⟨?_, ?_⟩
  · intro c hc
    rw [KIN.signs_num] at hc
    obtain ⟨ch, hch, e⟩ := List.mem_map.mp hc
    have r := digit_range (Nat.isDigit_of_mem_toDigits (by decide) (by decide) hch)
    rw [← e]
    exact r
  · rw [KIN.signs_num]
    intro e
    have h := toDigits_len_ge 10 m
    rw [List.map_eq_nil_iff.mp e] at h
    exact absurd h (by decide)
theorem num_len {n : Int} (h0 : 0 ≤ n) (h1 : n < 10 ^ 40) : (numT n).length ≤ 40 := toString_length_le h0 (by decide) h1
theorem num_reads {n : Int} (h0 : 0 ≤ n) (h1 : n < 10 ^ 40) : PySem.intText? (numT n) = some n := by
  have hl := num_len h0 h1
  obtain ⟨hd, hne⟩ := num_digits h0
  have e := intText_digits hd hne (Nat.le_trans hl (by decide))
  obtain ⟨m, rfl⟩ := Int.eq_ofNat_of_zero_le h0
  rw [KIN.signs_num, KIN.val_back] at e
  exact e
theorem split_num {a c : Int} (ha : 0 ≤ a) (hc : 0 ≤ c) : Txt.split (numT a ++ Str.ofString "." ++ numT c) (Str.ofString ".") = [numT a, numT c] := by
  obtain ⟨hd1, _⟩ := num_digits ha
  obtain ⟨hd2, _⟩ := num_digits hc
  obtain ⟨d1, e1⟩ : ∃ d1, (numT a).cps.toList = d1 := ⟨_, rfl⟩
  obtain ⟨d2, e2⟩ : ∃ d2, (numT c).cps.toList = d2 := ⟨_, rfl⟩
  rw [e1] at hd1
  rw [e2] at hd2
  have n1 : numT a = ⟨d1.toArray⟩ := Str.ext' (by rw [← e1])
  have n2 : numT c = ⟨d2.toArray⟩ := Str.ext' (by rw [← e2])
  have dot : Str.ofString "." = ⟨[46].toArray⟩ := by decide
  have ex : (⟨d1.toArray⟩ ++ ⟨[46].toArray⟩ ++ ⟨d2.toArray⟩ : Str) = ⟨(d1 ++ 46 :: d2).toArray⟩ := Str.ext' (by rw [Str.cps_append, Str.cps_append]; simp)
  rw [n1, n2, dot, ex]
  have k1 : ∀ x ∈ d1, x < 256 ∧ x ≠ 46 := fun x hx => by have := hd1 x hx; omega
  have k2 : ∀ x ∈ d2, x < 256 ∧ x ≠ 46 := fun x hx => by have := hd2 x hx; omega
  have hit : ∀ j, Hit [46] (d1 ++ 46 :: d2) j ↔ (d1 ++ 46 :: d2)[j]? = some 46 := fun j => by
    unfold Hit
    constructor
    · rintro ⟨h1, h2⟩
      have h1' : j < (d1 ++ 46 :: d2).length := by simp at h1 ⊢; omega
      rw [List.drop_eq_getElem_cons h1'] at h2
      have : (d1 ++ 46 :: d2)[j] = 46 := (List.cons.inj h2).1
      rw [List.getElem?_eq_getElem h1', this]
    · intro h
      have h1' : j < (d1 ++ 46 :: d2).length := (List.getElem?_eq_some_iff.mp h).1
      refine ⟨by simp at h1' ⊢; omega, ?_⟩
      rw [List.drop_eq_getElem_cons h1', (List.getElem?_eq_some_iff.mp h).2]
      rfl
  have g : greedy [46] (d1 ++ 46 :: d2) 0 ((d1 ++ 46 :: d2).length + 1) = [d1.length] := by
    have s1 : srch [46] (d1 ++ 46 :: d2) 0 = some d1.length := srch_eq (Nat.zero_le _) ((hit _).mpr (by rw [List.getElem?_append_right (Nat.le_refl _)]; simp)) fun j _ hj hh => by
      have h := (hit j).mp hh
      rw [List.getElem?_append_left hj] at h
      exact (k1 46 (List.mem_of_getElem? h)).2 rfl
    have s2 : srch [46] (d1 ++ 46 :: d2) (d1.length + 1) = none := srch_eq_none fun j hj hh => by
      have h := (hit j).mp hh
      rw [List.getElem?_append_right (by omega), show j - d1.length = (j - d1.length - 1) + 1 by omega, List.getElem?_cons_succ] at h
      exact (k2 46 (List.mem_of_getElem? h)).2 rfl
    have hl : (d1 ++ 46 :: d2).length = (d1.length + d2.length) + 1 := by simp; omega
    rw [hl, greedy, s1]
    show d1.length :: greedy [46] (d1 ++ 46 :: d2) (d1.length + 1) (d1.length + d2.length + 1) = _
    rw [greedy, s2]
  rw [split_greedy [46] (d1 ++ 46 :: d2) (by decide) (by decide) (fun x hx => by
    rcases List.mem_append.mp hx with hx | hx
    · exact (k1 x hx).1
    rcases List.mem_cons.mp hx with rfl | hx
    · decide
    · exact (k2 x hx).1), g]
  show [strSub _ 0 d1.length, strSub _ (d1.length + 1) _] = _
  have p1 : strSub ⟨(d1 ++ 46 :: d2).toArray⟩ 0 d1.length = ⟨d1.toArray⟩ := Str.ext' (Array.toList_inj.mp (by rw [strSub_toList]; simp))
  have p2 : strSub ⟨(d1 ++ 46 :: d2).toArray⟩ (d1.length + 1) (⟨(d1 ++ 46 :: d2).toArray⟩ : Str).length = ⟨d2.toArray⟩ := Str.ext' (Array.toList_inj.mp (by
    rw [strSub_toList]
    show ((d1 ++ 46 :: d2).drop (d1.length + 1)).take _ = d2
    rw [List.take_of_length_le (by simp [Str.length]; omega)]
    simp))
  rw [p1, p2]
section
variable {prog : Program} {w : World} {g : Heap} {A : Around} {b s : Shared} {l : List (Str × Value)} {fs : List (Addr × Obj)} {env : Env} {L : Addr} {pos : Pos} {Q : Value → Shared → Prop} {E : Value → Shared → Prop}
/-- '%d.%d' % (a, c) -/
theorem o_fmt {p : Addr} {a c : Int} {t ta tc : Tok} (F : Fm g b L l fs s) (hp : (p, tupOf #[.int a ta, .int c tc]) ∈ fs) (h0 : 0 ≤ a) (h1 : a < 10 ^ 40) (h2 : 0 ≤ c) (h3 : c < 10 ^ 40)
    (h : ∀ t' s', Fm g b L l fs s' → Q (.str (numT a ++ Str.ofString "." ++ numT c) t') s') : wpAny (model prog w) A (binaryOp .Mod (.str (Str.ofString "%d.%d") t) (.ref p)) Q E s := by
  have hX : Str.ofString "%d.%d" = ⟨#[37, 100, 46, 37, 100]⟩ := by decide +kernel
  rw [hX]
  have ht : IsTup s.heap p #[.int a ta, .int c tc] := ⟨_, (F.own _ hp).1.1, rfl, 0, rfl⟩
  have hT : s.TypeIs (.ref p) "tuple" := ⟨_, (F.own _ hp).1.1, rfl⟩
  exact KPt.bin_left (T := "str") (U := "tuple") (op := .Mod) (by decide) (typeIs_str s _ t) hT PySem.F.fills_str_mod KPt.fills_tuple PySem.F.slot_str_mod
    (call_meets PySem.F.slot_str_mod (typeIs_str s _ t) PySem.F.entry_str_mod (PySem.F.args_str_mod_2 _ _) (meets_fmt p t ta tc a c h0 h1 h2 h3) ⟨ht, fun t' _ => ⟨(fun e => nomatch e), h t' _ F.toks⟩⟩)
/-- x.split(y) -/
theorem u_split {x y : Str} {t u : Tok} (F : Fm g b L l fs s) (hy : (y.length == 0) = false) (hx : x.length + 2 ≤ sizeLine)
    (h : ∀ D ls s', ls.map (·.1) = Txt.split x y → (∀ p ∈ fs, p.1 ≠ D) → b.heap.objs.size ≤ D → Fm g b L l ((D, listOf (strValues ls).toArray 0) :: fs) s' → Q (.ref D) s') : wpAny (model prog w) A (call (.builtin "str.split") [.str x t, .str y u]) Q E s := by
  obtain ⟨m, F1, N1, hm⟩ := F.fr
  exact splitN1 F1 N1 hy (fun ls h' k e F' N' => h _ ls _ e F.newNe F.size (F.ofFr1 (n := k) hm F' N' (NP.seq rfl))) hx
/-- x.join(a list of texts) -/
theorem u_join {x : Str} {t : Tok} {D : Addr} {ls : List (Str × Tok)} (F : Fm g b L l fs s) (hl : s.heap.IsList D (strValues ls).toArray) (hok : JoinOk x (ls.map (·.1)) = true)
    (h : ∀ t' s', Fm g b L l fs s' → Q (.str (Txt.join x (ls.map (·.1))) t') s') : wpAny (model prog w) A (call (.builtin "str.join") [.str x t, .ref D]) Q E s :=
  SC.join hl rfl hok fun t' _ => h t' _ F.toks
end
end Mine
/- F28 -/
namespace Mine
open PyProof.Rows PySem PySem.W
local macro_rules | `(tactic| walk_at "mem") => `(tactic| first | exact List.Mem.head _ | (refine List.Mem.tail _ ?_; walk_at "mem"))
local macro_rules | `(tactic| walk_at "m") => `(tactic| first
  | (with_reducible refine wpAny_execs_cons ?_)
  | (with_reducible refine wpAny_execs_nil ?_)
  | ((with_reducible refine x_assign ?hs ?_); (case hs => rfl))
  | (with_reducible refine wpAny_AugAssign_Name ?_)
  | (with_reducible refine wpAny_If ?_)
  | (with_reducible refine wpAny_Return_some ?_)
  | (with_reducible refine a_cons ?_)
  | (with_reducible refine a_nil ?_)
  | ((with_reducible refine k_type0 ?hs ?_); (case hs => rfl))
  | ((with_reducible refine k_bi0 ?hs ?_); (case hs => rfl))
  | ((with_reducible refine' k_def0 (by assumption) ?hk ?hs ?_); (case hk => rfl); (case hs => rfl))
  | (with_reducible refine wpAny_Call_NameR ?_)
  | (with_reducible refine wpAny_BinOp ?_)
  | (with_reducible refine wpAny_UnaryOp ?_)
  | ((with_reducible refine e_list ?hs ?_); (case hs => rfl))
  | ((with_reducible refine e_tuple ?hs ?_); (case hs => rfl))
  | ((with_reducible refine' e_comp ?hc ?hk ?hn ?hs ?_); (case hc => rfl); (case hk => rfl); (case hn => rfl); (case hs => intro _; rfl))
  | ((with_reducible refine u_ord (by assumption) ?_); intro _ _ _)
  | ((with_reducible refine i_plain ?hs ?_); (case hs => rfl))
  | ((with_reducible refine' n_ld (by assumption) (by assumption) ?h1 ?h2 ?_ ?h3); (case h1 => rfl); (case h2 => rfl); (case h3 => decide))
  | ((with_reducible refine' n_ldn (by assumption) (by assumption) ?h1 ?h2 ?_); (case h1 => rfl); (case h2 => rfl))
  | ((with_reducible refine' n_ldc (by assumption) (by assumption) ?h1 ?h2 ?h4 ?_ ?h3); (case h1 => rfl); (case h2 => rfl); (case h4 => walk_at "mem"); (case h3 => decide))
  | ((with_reducible refine' n_ldf (by assumption) (by assumption) ?h1 ?h2 ?h4 ?_ ?h3 ?h5); (case h1 => rfl); (case h2 => rfl); (case h4 => walk_at "mem"); (case h3 => decide); (case h5 => decide))
  | ((with_reducible refine n_st (by assumption) (by assumption) ?h1 ?_); (case h1 => rfl); intro _ _)
  | (with_reducible refine wpAny_Constant_none ?_)
  | (with_reducible refine wpAny_Break ?_)
  | (with_reducible refine truthy_none ?_)
  | (with_reducible refine wpAny_isTrue_Not ?_)
  | (with_reducible refine wpAny_isTrue_BoolOp ?_)
  | (with_reducible refine wpAny_allTrue_And_cons ?_)
  | (with_reducible refine wpAny_allTrue_And_nil ?_)
  | ((with_reducible refine c_int (by assumption) ?_); intro _ _ _)
  | ((with_reducible refine c_str (by assumption) ?_); intro _ _ _)
  | ((with_reducible refine o_add (by assumption) ?_); intro _ _ _)
  | ((with_reducible refine o_sub (by assumption) ?_); intro _ _ _)
  | ((with_reducible refine o_and (by assumption) ?_); intro _ _ _)
  | ((with_reducible refine o_xor (by assumption) ?_); intro _ _ _)
  | ((with_reducible refine o_shr (by decide) (by assumption) ?_); intro _ _ _)
  | ((with_reducible refine o_ishr (by decide) (by assumption) ?_); intro _ _ _)
  | ((with_reducible refine o_mul (Or.inr (by decide)) (by assumption) ?_); intro _ _ _)
  | ((with_reducible refine o_mul (Or.inl (by decide)) (by assumption) ?_); intro _ _ _)
  | ((with_reducible refine o_fdiv (by decide) (by decide) (by assumption) ?_); intro _ _ _)
  | ((with_reducible refine o_mod (by decide) (by assumption) ?_); intro _ _ _)
  | ((with_reducible refine o_pow (by decide) (by decide) (by decide) (by assumption) ?_); intro _ _ _)
  | ((with_reducible refine o_neg (by assumption) ?_); intro _ _ _)
  | ((with_reducible refine u_len (by assumption) (by omega) ?_); intro _ _ _)
  | (with_reducible refine j_eq ?_)
  | (with_reducible refine j_lt ?_)
  | (with_reducible refine j_le ?_)
  | (with_reducible refine j_ge ?_)
  | (with_reducible refine j_tr ?_)
  | ((with_reducible refine i_cmp ?hs ?_); (case hs => rfl))
  | ((with_reducible refine e_cmp ?hs ?_); (case hs => rfl))
  | ((with_reducible refine x_tup2S ?hs ?hw ?_); (case hs => rfl); (case hw => rfl))
  | ((with_reducible refine x_tup2 ?hs ?hw ?_); (case hs => rfl); (case hw => rfl))
  | ((with_reducible refine x_asub ?hs ?_); (case hs => rfl))
  | ((with_reducible refine x_expr ?hi ?hs ?_); (case hi => rfl); (case hs => rfl))
  | ((with_reducible refine Subscript_Slice ?_ ?ht); (case ht => intro _ _; rfl))
  | (with_reducible refine wpAny_Slice ?_)
  | (with_reducible refine evalPart_some_step ?_)
  | (with_reducible refine evalPart_none_step ?_)
  | (with_reducible refine Subscript_ ?_)
  | (with_reducible refine ao_name ?_)
  | (with_reducible refine ao_asg ?_)
  | (with_reducible refine ao_nil ?_)
  | (with_reducible refine truthy_int ?_)
  | ((with_reducible refine b_range (by assumption) (by assumption) (by assumption) ?h1 ?_); (case h1 => rfl))
  | ((with_reducible refine b_len (by assumption) (by assumption) (by assumption) ?h1 ?_); (case h1 => rfl))
  | ((with_reducible refine b_ord (by assumption) (by assumption) (by assumption) ?h1 ?_); (case h1 => rfl))
  | ((with_reducible refine b_chr (by assumption) (by assumption) (by assumption) ?h1 ?_); (case h1 => rfl))
  | ((with_reducible refine b_sum (by assumption) (by assumption) (by assumption) ?h1 ?_); (case h1 => rfl))
  | ((with_reducible refine b_abs (by assumption) (by assumption) (by assumption) ?h1 ?_); (case h1 => rfl))
  | ((with_reducible refine b_map (by assumption) (by assumption) (by assumption) ?h1 ?_); (case h1 => rfl))
  | ((with_reducible refine b_int (by assumption) (by assumption) (by assumption) ?h1 ?_); (case h1 => rfl))
  | ((with_reducible refine b_list (by assumption) (by assumption) (by assumption) ?h1 ?_); (case h1 => rfl))
  | ((with_reducible refine g_search_reverse (by assumption) (by assumption) (by assumption) ?h1 ?_); (case h1 => rfl))
  | ((with_reducible refine g_get_line_col (by assumption) (by assumption) (by assumption) ?h1 ?_); (case h1 => rfl))
  | ((with_reducible refine g_gen (by assumption) (by assumption) (by assumption) ?h1 ?_); (case h1 => rfl))
  | ((with_reducible refine g_page (by assumption) (by assumption) (by assumption) ?h1 ?_); (case h1 => rfl))
  | ((with_reducible refine g_turn (by assumption) (by assumption) (by assumption) ?h1 ?_); (case h1 => rfl))
  | ((with_reducible refine g_sum (by assumption) (by assumption) (by assumption) ?h1 ?_); (case h1 => rfl))
  | ((with_reducible refine g_known (by assumption) (by assumption) (by assumption) ?h1 ?_); (case h1 => rfl))
  | ((with_reducible refine g_hit (by assumption) (by assumption) (by assumption) ?h1 ?_); (case h1 => rfl))
  | ((with_reducible refine g_prog (by assumption) (by assumption) (by assumption) ?h1 ?_); (case h1 => rfl))
  | ((with_reducible refine g_found (by assumption) (by assumption) (by assumption) ?h1 ?_); (case h1 => rfl))
  | ((with_reducible refine g_firsts (by assumption) (by assumption) (by assumption) ?h1 ?_); (case h1 => rfl))
  | ((with_reducible refine g_due (by assumption) (by assumption) (by assumption) ?h1 ?_); (case h1 => rfl)))
section
variable {prog : Program} {w : World} {g : Heap} {A : Around} {b s : Shared} {L : Addr} {l : List (Str × Value)} {fs : List (Addr × Obj)} {Q : Value → Shared → Prop}
theorem d_glc (G : Gs w g) (F : Fm g b L l fs s) (r : Room 1 A) {a c : Int} {t : Tok} (h0 : 0 ≤ a) (h1 : a < 10 ^ 40) (h2 : 0 ≤ c) (h3 : c < 10 ^ 40)
    (h : ∀ p u v s', (∀ q ∈ fs, q.1 ≠ p) → b.heap.objs.size ≤ p → Fm g b L l ((p, tupOf #[.int a u, .int c v]) :: fs) s' → Q (.ref p) s') :
    wpAny (model prog w) A (call (.ref 28) [.str (numT a ++ Str.ofString "." ++ numT c) t]) Q NoE s := by
  have hsl := sizeLine_eq
  refine enter (fd := fdAt w 28) (body := bdAt w 28) (binds := [("index", .str (numT a ++ Str.ofString "." ++ numT c) t)]) G F.kg F.td (Nat.le_trans F.gb F.size) r rfl (by kernel_rfl) rfl rfl (by kernel_rfl) (by kernel_rfl) (fun L s₁ F₁ R => ?_) rfl rfl rfl
  have pe : PlainEnv (callEnv (fdAt w 28) L 28) L := ⟨rfl, rfl, rfl, rfl⟩
  have F₂ : Fm g s L [(Str.ofString "index", .str (numT a ++ Str.ofString "." ++ numT c) t)] [] s₁ := F₁
  have hla := num_len h0 h1
  have hlc := num_len h2 h3
  refine wpAny_execs_cons ?_
  repeat walk_at "m"
  refine m_meth rfl rfl (by decide) rfl PySem.F.plainAttrs_str PySem.F.slot_str_split PySem.F.type_str_split ?_
  walk_at "m"
  refine ⟨typeIs_str _ _ _, (fun a e => by cases e), ?_⟩
  repeat walk_at "m"
  rename_i F₃
  refine u_split F₃ (by decide) (by rw [Str.length_append, Str.length_append, show (Str.ofString ".").length = 1 from by decide]; omega) fun D ls s₂ hls hD hDb F₄ => ?_
  rw [split_num h0 h2] at hls
  obtain ⟨tx, ls1, rfl, hls1⟩ := KSpl.cons_of hls
  obtain ⟨ty, ls2, rfl, hls2⟩ := KSpl.cons_of hls1
  obtain rfl := KSpl.nil_of hls2
  have F₅ : Fm g s L _ [(D, listOf #[.str (numT a) tx, .str (numT c) ty] 0)] s₂ := F₄
  repeat walk_at "m"
  refine u_map F₅ (IsL F₅ (.head _)) fun M T it s₃ hit hTi hTM F₆ => ?_
  refine unp_map R.hh F₆ (Nat.le_trans F₅.size hit) hTi hTM (fun p hp => ?_) (.head _) (num_reads h0 h1) (num_reads h2 h3) (by omega) (by omega) fun u v s₄ F₇ => ?_
  · exact Nat.ne_of_lt (Nat.lt_of_lt_of_le (Heap.lt_size (F₅.own p hp).1.1) hit)
  repeat walk_at "m"
  rename_i F₈
  refine q_tuple F₈ (by show 2 ≤ sizeLine; omega) fun p s₅ _ hp F₉ => ?_
  exact h p u v _ (F.neOf hp) (Nat.le_trans F.size hp) (F.ret G F₉ (ns := [_]) fun q hq => ⟨by rw [List.mem_singleton.mp hq]; exact .head _, by rw [List.mem_singleton.mp hq]; exact hp⟩)
end
end Mine
/- F80 -/
namespace Mine
open PyProof.Rows PySem PySem.W
local macro_rules | `(tactic| walk_at "mem") => `(tactic| first | exact List.Mem.head _ | (refine List.Mem.tail _ ?_; walk_at "mem"))
local macro_rules | `(tactic| walk_at "m") => `(tactic| first
  | (with_reducible refine wpAny_execs_cons ?_)
  | (with_reducible refine wpAny_execs_nil ?_)
  | ((with_reducible refine x_assign ?hs ?_); (case hs => rfl))
  | (with_reducible refine wpAny_AugAssign_Name ?_)
  | (with_reducible refine wpAny_If ?_)
  | (with_reducible refine wpAny_Return_some ?_)
  | (with_reducible refine a_cons ?_)
  | (with_reducible refine a_nil ?_)
  | ((with_reducible refine k_type0 ?hs ?_); (case hs => rfl))
  | ((with_reducible refine k_bi0 ?hs ?_); (case hs => rfl))
  | ((with_reducible refine' k_def0 (by assumption) ?hk ?hs ?_); (case hk => rfl); (case hs => rfl))
  | (with_reducible refine wpAny_Call_NameR ?_)
  | (with_reducible refine wpAny_BinOp ?_)
  | (with_reducible refine wpAny_UnaryOp ?_)
  | ((with_reducible refine e_list ?hs ?_); (case hs => rfl))
  | ((with_reducible refine e_tuple ?hs ?_); (case hs => rfl))
  | ((with_reducible refine' e_comp ?hc ?hk ?hn ?hs ?_); (case hc => rfl); (case hk => rfl); (case hn => rfl); (case hs => intro _; rfl))
  | ((with_reducible refine u_ord (by assumption) ?_); intro _ _ _)
  | ((with_reducible refine i_plain ?hs ?_); (case hs => rfl))
  | ((with_reducible refine' n_ld (by assumption) (by assumption) ?h1 ?h2 ?_ ?h3); (case h1 => rfl); (case h2 => rfl); (case h3 => decide))
  | ((with_reducible refine' n_ldn (by assumption) (by assumption) ?h1 ?h2 ?_); (case h1 => rfl); (case h2 => rfl))
  | ((with_reducible refine' n_ldc (by assumption) (by assumption) ?h1 ?h2 ?h4 ?_ ?h3); (case h1 => rfl); (case h2 => rfl); (case h4 => walk_at "mem"); (case h3 => decide))
  | ((with_reducible refine' n_ldf (by assumption) (by assumption) ?h1 ?h2 ?h4 ?_ ?h3 ?h5); (case h1 => rfl); (case h2 => rfl); (case h4 => walk_at "mem"); (case h3 => decide); (case h5 => decide))
  | ((with_reducible refine n_st (by assumption) (by assumption) ?h1 ?_); (case h1 => rfl); intro _ _)
  | (with_reducible refine wpAny_Constant_none ?_)
  | (with_reducible refine wpAny_Break ?_)
  | (with_reducible refine truthy_none ?_)
  | (with_reducible refine wpAny_isTrue_Not ?_)
  | (with_reducible refine wpAny_isTrue_BoolOp ?_)
  | (with_reducible refine wpAny_allTrue_And_cons ?_)
  | (with_reducible refine wpAny_allTrue_And_nil ?_)
  | ((with_reducible refine c_int (by assumption) ?_); intro _ _ _)
  | ((with_reducible refine c_str (by assumption) ?_); intro _ _ _)
  | ((with_reducible refine o_add (by assumption) ?_); intro _ _ _)
  | ((with_reducible refine o_sub (by assumption) ?_); intro _ _ _)
  | ((with_reducible refine o_and (by assumption) ?_); intro _ _ _)
  | ((with_reducible refine o_xor (by assumption) ?_); intro _ _ _)
  | ((with_reducible refine o_shr (by decide) (by assumption) ?_); intro _ _ _)
  | ((with_reducible refine o_ishr (by decide) (by assumption) ?_); intro _ _ _)
  | ((with_reducible refine o_mul (Or.inr (by decide)) (by assumption) ?_); intro _ _ _)
  | ((with_reducible refine o_mul (Or.inl (by decide)) (by assumption) ?_); intro _ _ _)
  | ((with_reducible refine o_fdiv (by decide) (by decide) (by assumption) ?_); intro _ _ _)
  | ((with_reducible refine o_mod (by decide) (by assumption) ?_); intro _ _ _)
  | ((with_reducible refine o_pow (by decide) (by decide) (by decide) (by assumption) ?_); intro _ _ _)
  | ((with_reducible refine o_neg (by assumption) ?_); intro _ _ _)
  | ((with_reducible refine u_len (by assumption) (by omega) ?_); intro _ _ _)
  | (with_reducible refine j_eq ?_)
  | (with_reducible refine j_lt ?_)
  | (with_reducible refine j_le ?_)
  | (with_reducible refine j_ge ?_)
  | (with_reducible refine j_tr ?_)
  | ((with_reducible refine i_cmp ?hs ?_); (case hs => rfl))
  | ((with_reducible refine e_cmp ?hs ?_); (case hs => rfl))
  | ((with_reducible refine x_tup2S ?hs ?hw ?_); (case hs => rfl); (case hw => rfl))
  | ((with_reducible refine x_tup2 ?hs ?hw ?_); (case hs => rfl); (case hw => rfl))
  | ((with_reducible refine x_asub ?hs ?_); (case hs => rfl))
  | ((with_reducible refine x_expr ?hi ?hs ?_); (case hi => rfl); (case hs => rfl))
  | ((with_reducible refine Subscript_Slice ?_ ?ht); (case ht => intro _ _; rfl))
  | (with_reducible refine wpAny_Slice ?_)
  | (with_reducible refine evalPart_some_step ?_)
  | (with_reducible refine evalPart_none_step ?_)
  | (with_reducible refine Subscript_ ?_)
  | (with_reducible refine ao_name ?_)
  | (with_reducible refine ao_asg ?_)
  | (with_reducible refine ao_nil ?_)
  | (with_reducible refine truthy_int ?_)
  | ((with_reducible refine b_range (by assumption) (by assumption) (by assumption) ?h1 ?_); (case h1 => rfl))
  | ((with_reducible refine b_len (by assumption) (by assumption) (by assumption) ?h1 ?_); (case h1 => rfl))
  | ((with_reducible refine b_ord (by assumption) (by assumption) (by assumption) ?h1 ?_); (case h1 => rfl))
  | ((with_reducible refine b_chr (by assumption) (by assumption) (by assumption) ?h1 ?_); (case h1 => rfl))
  | ((with_reducible refine b_sum (by assumption) (by assumption) (by assumption) ?h1 ?_); (case h1 => rfl))
  | ((with_reducible refine b_abs (by assumption) (by assumption) (by assumption) ?h1 ?_); (case h1 => rfl))
  | ((with_reducible refine b_map (by assumption) (by assumption) (by assumption) ?h1 ?_); (case h1 => rfl))
  | ((with_reducible refine b_int (by assumption) (by assumption) (by assumption) ?h1 ?_); (case h1 => rfl))
  | ((with_reducible refine b_list (by assumption) (by assumption) (by assumption) ?h1 ?_); (case h1 => rfl))
  | ((with_reducible refine g_search_reverse (by assumption) (by assumption) (by assumption) ?h1 ?_); (case h1 => rfl))
  | ((with_reducible refine g_get_line_col (by assumption) (by assumption) (by assumption) ?h1 ?_); (case h1 => rfl))
  | ((with_reducible refine g_gen (by assumption) (by assumption) (by assumption) ?h1 ?_); (case h1 => rfl))
  | ((with_reducible refine g_page (by assumption) (by assumption) (by assumption) ?h1 ?_); (case h1 => rfl))
  | ((with_reducible refine g_turn (by assumption) (by assumption) (by assumption) ?h1 ?_); (case h1 => rfl))
  | ((with_reducible refine g_sum (by assumption) (by assumption) (by assumption) ?h1 ?_); (case h1 => rfl))
  | ((with_reducible refine g_known (by assumption) (by assumption) (by assumption) ?h1 ?_); (case h1 => rfl))
  | ((with_reducible refine g_hit (by assumption) (by assumption) (by assumption) ?h1 ?_); (case h1 => rfl))
  | ((with_reducible refine g_prog (by assumption) (by assumption) (by assumption) ?h1 ?_); (case h1 => rfl))
  | ((with_reducible refine g_found (by assumption) (by assumption) (by assumption) ?h1 ?_); (case h1 => rfl))
  | ((with_reducible refine g_firsts (by assumption) (by assumption) (by assumption) ?h1 ?_); (case h1 => rfl))
  | ((with_reducible refine g_due (by assumption) (by assumption) (by assumption) ?h1 ?_); (case h1 => rfl)))
/-- what a search backwards over n rows tells -/
def foundAt (word : List Nat) (rows : List (List Nat)) : Nat → Nat → Option (Nat × Nat)
  | 0, _ => none
  | n + 1, col => match srev (srch word (rows.getD n [])) word.length col ((rows.getD n []).length + 1) with
    | some f => some (n, f)
    | none => foundAt word rows n (rows.getD (n - 1) []).length
section
variable {prog : Program} {w : World} {g : Heap} {A : Around} {b s : Shared} {L : Addr} {l : List (Str × Value)} {fs : List (Addr × Obj)} {Q : Value → Shared → Prop}
theorem t_prev {env : Env} {value slice : Expr} {a : Addr} {vs : List Value} {rows : List (List Nat)} {n : Nat} {k : Int} {u : Tok} {E : Value → Shared → Prop} (hs : ∀ k, subscripted slice false (.ref a) (.int k u) = operate [.ref a, .int k u] (getItem (.ref a) (.int k u))) (hl : s.heap.IsList a vs.toArray) (hvs : RowsAre vs rows) (hn : n < rows.length) (hm : rows.length ≤ 1000) (hk : k = (n : Int) - 1)
    (h : ∀ row t, row ∈ rows → (0 < n → rows.getD (n - 1) [] = row) → Q (.str ⟨row.toArray⟩ t) s) : wpAny (model prog w) A (subscriptTail value slice (.ref a) (.int k u)) Q E s := by
  subst hk
  cases n with
  | zero =>
    have hne : rows ≠ [] := by intro e; subst e; simp at hn
    obtain ⟨t, ht⟩ := hvs.last hne
    have e : ((0 : Nat) : Int) - 1 = -1 := by omega
    rw [e]
    refine t_last (hs _) hl (v := .str ⟨(rows.getLastD []).toArray⟩ t) (by rw [List.size_toArray, List.getElem?_toArray]; exact ht) (h _ _ ?_ fun h => absurd h (by omega))
    rw [List.getLastD_eq_getLast?]
    cases hq : rows.getLast? with
    | none => exact absurd (List.getLast?_eq_none_iff.mp hq) hne
    | some q => exact List.mem_of_getLast? hq
  | succ n =>
    obtain ⟨row, hrow⟩ : ∃ row, rows[n]? = some row := ⟨_, List.getElem?_eq_getElem (by omega)⟩
    obtain ⟨t, ht⟩ := hvs.get hrow
    have e : ((n + 1 : Nat) : Int) - 1 = (n : Int) := by omega
    rw [e]
    refine t_list (hs _) hl (by omega) (by omega) (v := .str ⟨row.toArray⟩ t) (by simpa using ht) (h _ _ (List.mem_of_getElem? hrow) fun _ => ?_)
    rw [show n + 1 - 1 = n by omega, List.getD_eq_getElem?_getD, hrow]; rfl
theorem d_found (G : Gs w g) (F : Fm g b L l fs s) (r : Room 7 A) {p R : Addr} {hs : List (Addr × Obj)} {word : List Nat} {ok : List Nat → Prop} {rows : List (List Nat)} {vs : List Value} {kR head k₀ col₀ : Nat} {t th : Tok}
    (hP : ProgIn prog w hs p word.length (srch word) ok) (hsub : ∀ q ∈ hs, q ∈ fs) (hR : (R, listOf vs.toArray kR) ∈ fs) (hvs : RowsAre vs rows) (hw4 : word.length ≤ 4) (hok : ∀ row ∈ rows, ok row) (hrl : ∀ row ∈ rows, row.length ≤ 1000) (hk : k₀ < rows.length) (hn : rows.length ≤ 1000) (hh : (head : Int) + k₀ < 10 ^ 40) (hc : (col₀ : Int) < 10 ^ 40)
    (h0 : foundAt word rows (k₀ + 1) col₀ = none → ∀ s', Fm g b L l fs s' → Q .none s')
    (h1 : ∀ k f a tp t u v s', foundAt word rows (k₀ + 1) col₀ = some (k, f) → (∀ q ∈ fs, q.1 ≠ a) → (∀ q ∈ fs, q.1 ≠ tp) → b.heap.objs.size ≤ a → b.heap.objs.size ≤ tp → a ≠ tp → Fm g b L l ((a, listOf #[.int ((head + k : Nat) : Int) t, .ref tp] 0) :: (tp, tupOf #[.int f u, .int ((f + word.length : Nat) : Int) v]) :: fs) s' → Q (.ref a) s') :
    wpAny (model prog w) A (call (.ref 80) [.ref p, .ref R, .int head th, .str (numT ((head : Int) + k₀) ++ Str.ofString "." ++ numT col₀) t]) Q NoE s := by
  have hsl := sizeLine_eq
  refine enter (fd := fdAt w 80) (body := bdAt w 80) (binds := [("prog", .ref p), ("rows", .ref R), ("head", .int head th), ("place", .str (numT ((head : Int) + k₀) ++ Str.ofString "." ++ numT col₀) t)]) G F.kg F.td (Nat.le_trans F.gb F.size) r rfl (by kernel_rfl) rfl rfl (by kernel_rfl) (by kernel_rfl) (fun L s₁ F₁ R' => ?_) rfl rfl rfl
  have pe : PlainEnv (callEnv (fdAt w 80) L 80) L := ⟨rfl, rfl, rfl, rfl⟩
  have F₂ : Fm g s L [(Str.ofString "place", .str (numT ((head : Int) + k₀) ++ Str.ofString "." ++ numT col₀) t), (Str.ofString "head", .int head th), (Str.ofString "rows", .ref R), (Str.ofString "prog", .ref p)] (((R, listOf vs.toArray kR) :: hs) ++ []) s₁ := F₁.addB fun q hq => by
    rcases List.mem_cons.mp hq with rfl | hq
    · exact (F.own _ hR).1
    · exact (F.own q (hsub q hq)).1
  rw [List.append_nil] at F₂
  clear F₁
  refine wpAny_execs_cons ?_
  repeat walk_at "m"
  refine ⟨F₂.kg, ?_⟩
  refine d_glc G F₂ (R'.mono (by decide)) (by omega) hh (by omega) hc fun tp u v s₂ _ _ F₃ => ?_
  refine unp2 R'.hh F₃ (IsT F₃ (.head _)) fun s₃ F₄ => ?_
  repeat walk_at "m"
  rename_i s₄ F₅
  have F₆ := (F₅.sub (fs' := (R, listOf vs.toArray kR) :: hs) fun q hq => .tail _ hq)
  clear F₅ F₄ F₃
  refine whileL (fun n l₁ fs₁ => n ≤ rows.length ∧ (∀ q, q ∈ (R, listOf vs.toArray kR) :: hs → q ∈ fs₁) ∧ ∃ (col : Nat) (tl tc : Tok), foundAt word rows n col = foundAt word rows (k₀ + 1) col₀ ∧
    l₁ = [(Str.ofString "line", .int ((head : Int) + n - 1) tl), (Str.ofString "col", .int col tc), (Str.ofString "head", .int head th), (Str.ofString "rows", .ref R), (Str.ofString "prog", .ref p)])
    (k₀ + 1) (F₆.weak (l' := [(Str.ofString "line", .int ((head : Int) + (k₀ + 1 : Nat) - 1) u), (Str.ofString "col", .int col₀ v), (Str.ofString "head", .int head th), (Str.ofString "rows", .ref R), (Str.ofString "prog", .ref p)]) ⟨iEq rfl (by omega), rfl, rfl, rfl, rfl, trivial⟩)
    ⟨hk, fun q hq => hq, col₀, u, v, rfl, rfl⟩ ?_
  rintro n l₁ fs₁ s₅ ⟨hnl, hfs, col, tl, tc, hgo, rfl⟩ F₇
  repeat walk_at "m"
  cases n with
  | zero =>
    refine iteF (decide_eq_false (by omega)) ?_
    repeat walk_at "m"
    exact h0 (by rw [← hgo]; rfl) _ (F.call G F₇.le F₇.td)
  | succ n =>
    refine iteT (decide_eq_true (by omega)) ?_
    obtain ⟨row, hrow⟩ : ∃ row, rows[n]? = some row := ⟨_, List.getElem?_eq_getElem (by omega)⟩
    have hmem := List.mem_of_getElem? hrow
    have hgd : rows.getD n [] = row := by rw [List.getD_eq_getElem?_getD, hrow]; rfl
    rw [foundAt, hgd] at hgo
    repeat walk_at "m"
    rename_i F₈
    have mR : (R, listOf vs.toArray kR) ∈ fs₁ := hfs _ (.head _)
    obtain ⟨tr, htr⟩ := hvs.get hrow
    refine t_list rfl (IsL F₈ mR) (by omega) (by omega) (show vs.toArray[((head : Int) + (n + 1 : Nat) - 1 - head).toNat]? = some (.str ⟨row.toArray⟩ tr) by rw [show ((head : Int) + (n + 1 : Nat) - 1 - head).toNat = n by omega]; simpa using htr) ?_
    repeat walk_at "m"
    refine ⟨F₈.kg, ?_⟩
    refine d_srev G F₈ R' hP (fun q hq => hfs _ (.tail _ hq)) (hok row hmem) (hrl row hmem) (by omega) (fun st k e => ⟨(srch_some e).1, by have := (srch_some e).2.1.1; omega⟩) (fun hno s₆ F₉ => ?_) fun k f hs' s₆ hsome hh' hnw F₉ => ?_
    · rw [hno] at hgo
      repeat walk_at "m"
      refine wpAny_isNot_self rfl ?_
      repeat walk_at "m"
      refine iteF rfl ?_
      repeat walk_at "m"
      rename_i F₁₀
      refine t_prev (n := n) (env := callEnv (fdAt w 80) L 80) (fun _ => rfl) (IsL F₁₀ mR) hvs (by omega) hn (by omega) fun row' tr' hmem' hrow' => ?_
      have hrz : (⟨row'.toArray⟩ : Str).cps.size ≤ 1000 := by show row'.toArray.size ≤ 1000; rw [List.size_toArray]; exact hrl row' hmem'
      repeat walk_at "m"
      rename_i F₁₁
      refine ⟨n, _, _, Nat.lt_succ_self _, ⟨by omega, hfs, row'.length, _, _, ?_, rfl⟩, F₁₁.weak ⟨iEq rfl (by omega), iEq rfl (by simp), rfl, rfl, rfl, trivial⟩⟩
      rw [← hgo]
      cases n with
      | zero => rfl
      | succ n => rw [hrow' (by omega)]
    · rw [hsome] at hgo
      repeat walk_at "m"
      refine wpAny_isNot_other rfl (by nofun) ?_
      repeat walk_at "m"
      refine iteT rfl ?_
      repeat walk_at "m"
      rename_i F₁₀
      refine m_span rfl rfl G F₁₀ (R'.mono (by decide)) (fun Q' hq => n_ld F₁₀ pe rfl rfl hq (by decide)) hh' (fun q hq => List.mem_append_left _ hq) fun tp₁ u₁ v₁ s₇ hne₁ hb₁ F₁₁ => ?_
      repeat walk_at "m"
      refine q_list F₁₁ (by show 2 ≤ sizeLine; omega) fun a₁ s₈ hne₂ hb₂ F₁₂ => ?_
      repeat walk_at "m"
      rw [show (head : Int) + (n + 1 : Nat) - 1 = ((head + n : Nat) : Int) by omega] at F₁₂
      have F₁₃ := F.ret G F₁₂ (ns := [(a₁, listOf #[.int ((head + n : Nat) : Int) tl, .ref tp₁] 0), (tp₁, tupOf #[.int k u₁, .int ((k + word.length : Nat) : Int) v₁])]) (fun q hq => by
        rcases List.mem_cons.mp hq with rfl | hq
        · exact ⟨.head _, hb₂⟩
        · rw [List.mem_singleton.mp hq]; exact ⟨.tail _ (.head _), hb₁⟩)
      exact h1 n k a₁ tp₁ tl u₁ v₁ _ hgo.symm (F.neOf hb₂) (F.neOf hb₁) (Nat.le_trans F.size hb₂) (Nat.le_trans F.size hb₁) (Ne.symm (hne₂ _ (.head _))) F₁₃
end
end Mine
/- MY -/
namespace Mine
open PyProof.Rows PySem PySem.Builtin PySem.Builtin.Str PySem.StrLaws PySem.W
/-- the places that _law_firsts tells -/
def firstsOf (word row : List Nat) : List Nat := if word = [] then List.range (row.length + 1) else greedy word row 0 (row.length + 1)
theorem greedy_le (word row : List Nat) : ∀ n a, ∀ c ∈ greedy word row a n, a ≤ c ∧ c + word.length ≤ row.length
  | 0, _, _, h => by cases h
  | n + 1, a, c, h => by
    rw [greedy] at h
    cases e : srch word row a with
    | none => rw [e] at h; cases h
    | some d =>
      rw [e] at h
      obtain ⟨h1, h2, _⟩ := srch_some e
      rcases List.mem_cons.mp h with rfl | h
      · exact ⟨h1, h2.1⟩
      · obtain ⟨h3, h4⟩ := greedy_le word row n _ c h
        exact ⟨by omega, h4⟩
theorem greedy_len (word row : List Nat) : ∀ n a, (greedy word row a n).length ≤ n
  | 0, _ => Nat.le_refl _
  | n + 1, a => by
    rw [greedy]
    cases e : srch word row a with
    | none => exact Nat.zero_le _
    | some d => exact Nat.succ_le_succ (greedy_len word row n _)
theorem firstsOf_le (word row : List Nat) : ∀ c ∈ firstsOf word row, c + word.length ≤ row.length := by
  intro c hc
  unfold firstsOf at hc
  split at hc
  · rename_i h; subst h; rw [List.mem_range] at hc; simp; omega
  · exact (greedy_le word row _ _ c hc).2
theorem firstsOf_len (word row : List Nat) : (firstsOf word row).length ≤ row.length + 1 := by
  unfold firstsOf
  split
  · simp
  · exact greedy_len _ _ _ _
theorem partsFrom_len (x : Str) (w : Nat) : ∀ (cuts : List Nat) (a : Nat), (partsFrom x w a cuts).length = cuts.length + 1
  | [], _ => rfl
  | c :: r, a => by show (partsFrom x w (c + w) r).length + 1 = _; rw [partsFrom_len x w r]; rfl
theorem fold_short (y : Nat) (m : Nat) : ∀ (ts : List Str) (z : Nat), (∀ p ∈ ts, p.length ≤ m) → ts.foldl (fun a p => a + p.length + y) z ≤ z + ts.length * (m + y)
  | [], z, _ => by simp
  | p :: r, z, h => by
    have h1 := h p (.head _)
    have := fold_short y m r (z + p.length + y) fun q hq => h q (.tail _ hq)
    rw [List.foldl_cons, List.length_cons, Nat.add_mul]; omega
theorem ints_of_get : ∀ {vs : List Value} {ns : List Int}, vs.length = ns.length → (∀ (i : Nat) v, vs[i]? = some v → ∃ t, v = .int (ns.getD i 0) t) → IntsAre vs ns
  | [], [], _, _ => .nil
  | v :: vs, n :: ns, hl, h => by
    obtain ⟨t, rfl⟩ := h 0 v rfl
    exact .cons n t (ints_of_get (Nat.succ.inj hl) fun i v hv => by simpa using h (i + 1) v (by simpa using hv))
section
variable {prog : Program} {w : World} {g : Heap} {A : Around} {b s : Shared} {l : List (Str × Value)} {fs : List (Addr × Obj)} {env : Env} {L : Addr} {pos : Pos} {Q : Value → Shared → Prop} {E : Value → Shared → Prop}
theorem j_eqs {x y : Str} {t u : Tok} (h : Q (.bool (x == y)) s) : wpAny (model prog w) A (compareOp .Eq (.str x t) (.str y u)) Q E s := PyProof.Rows.eq_str h
/-- list(range(n)) -/
theorem u_listR {r : Addr} {n : Nat} {t u v : Tok} (hh : A.handled = none) (F : Fm g b L l fs s) (hr : IsRange s.heap r 0 n 1 t u v) (hn : n ≤ 2 ^ 20)
    (h : ∀ D vs k s', IntsAre vs ((List.range n).map Int.ofNat) → (∀ p ∈ fs, p.1 ≠ D) → b.heap.objs.size ≤ D → Fm g b L l ((D, listOf vs.toArray k) :: fs) s' → Q (.ref D) s') :
    wpAny (model prog w) A (call (.type "list") [.ref r]) Q E s := by
  refine PySem.call_list_range (n := n) hh hr (small_ok (by decide) (by decide) (by omega) (by omega) (.inl rfl)) (by rw [rangeSize_one]; split <;> omega) (by omega) fun h' tk acc c hk hD hacc => ?_
  have F1 := F.keep (n := tk) hk
  refine h _ acc.toList c _ (ints_of_get (by simp [hacc.1]) fun i v hv => ?_) F.newNe F.size (F1.has ⟨by simpa using hD, F.newPt.1⟩ F.newPt.2)
  have hv' : acc[i]? = some v := by simpa using hv
  obtain ⟨t, e⟩ := hacc.2 i v hv'
  have hi : i < n := by have := (Array.getElem?_eq_some_iff.mp hv').1; rw [hacc.1] at this; exact this
  refine ⟨t, ?_⟩
  rw [e]
  simp [List.getD_eq_getElem?_getD, hi]
/-- x[:k] of a list -/
theorem i_sliceL {a : Addr} {its : Array Value} {k : Nat} {t : Tok} (F : Fm g b L l fs s) (hl : s.heap.IsList a its) (hsz : its.size ≤ sizeLine)
    (h : ∀ D s', (∀ p ∈ fs, p.1 ≠ D) → b.heap.objs.size ≤ D → Fm g b L l ((D, listOf (its.toList.take k).toArray 0) :: fs) s' → Q (.ref D) s') :
    ItemOn (model prog w) A E (.ref a) (.ref s.heap.objs.size) Q { s with heap := s.heap.push { cls := .type "slice", data := .fields #[.none, .int k t, .none] } } := by
  refine ⟨"list", _, list_getitem_lookup, Heap.IsList.typeIs (s := { s with heap := s.heap.push { cls := .type "slice", data := .fields #[.none, .int k t, .none] } }) (hl.push _), wpAny_getItem_list_slice (hl.push _) (Heap.IsSliceOf.new ..) .none (.int _ _) .none (by simp) ?_ hsz⟩
  rw [slicePick_upto']
  have F1 := F.pushQ (o := { cls := .type "slice", data := .fields #[.none, .int k t, .none] }) (n := s.toks)
  exact h _ _ F1.newNe F1.size (F1.push (n := s.toks) rfl)
end
end Mine
/- F85 -/
namespace Mine
open PyProof.Rows PySem PySem.Builtin PySem.Builtin.Str PySem.StrLaws PySem.W
local macro_rules | `(tactic| walk_at "mem") => `(tactic| first | exact List.Mem.head _ | (refine List.Mem.tail _ ?_; walk_at "mem"))
local macro_rules | `(tactic| walk_at "m") => `(tactic| first
  | (with_reducible refine wpAny_execs_cons ?_)
  | (with_reducible refine wpAny_execs_nil ?_)
  | ((with_reducible refine x_assign ?hs ?_); (case hs => rfl))
  | (with_reducible refine wpAny_AugAssign_Name ?_)
  | (with_reducible refine wpAny_If ?_)
  | (with_reducible refine wpAny_Return_some ?_)
  | (with_reducible refine a_cons ?_)
  | (with_reducible refine a_nil ?_)
  | ((with_reducible refine k_type0 ?hs ?_); (case hs => rfl))
  | ((with_reducible refine k_bi0 ?hs ?_); (case hs => rfl))
  | ((with_reducible refine' k_def0 (by assumption) ?hk ?hs ?_); (case hk => rfl); (case hs => rfl))
  | (with_reducible refine wpAny_Call_NameR ?_)
  | (with_reducible refine wpAny_BinOp ?_)
  | (with_reducible refine wpAny_UnaryOp ?_)
  | ((with_reducible refine e_list ?hs ?_); (case hs => rfl))
  | ((with_reducible refine e_tuple ?hs ?_); (case hs => rfl))
  | ((with_reducible refine' e_comp ?hc ?hk ?hn ?hs ?_); (case hc => rfl); (case hk => rfl); (case hn => rfl); (case hs => intro _; rfl))
  | ((with_reducible refine u_ord (by assumption) ?_); intro _ _ _)
  | ((with_reducible refine i_plain ?hs ?_); (case hs => rfl))
  | ((with_reducible refine' n_ld (by assumption) (by assumption) ?h1 ?h2 ?_ ?h3); (case h1 => rfl); (case h2 => rfl); (case h3 => decide))
  | ((with_reducible refine' n_ldn (by assumption) (by assumption) ?h1 ?h2 ?_); (case h1 => rfl); (case h2 => rfl))
  | ((with_reducible refine' n_ldc (by assumption) (by assumption) ?h1 ?h2 ?h4 ?_ ?h3); (case h1 => rfl); (case h2 => rfl); (case h4 => walk_at "mem"); (case h3 => decide))
  | ((with_reducible refine' n_ldf (by assumption) (by assumption) ?h1 ?h2 ?h4 ?_ ?h3 ?h5); (case h1 => rfl); (case h2 => rfl); (case h4 => walk_at "mem"); (case h3 => decide); (case h5 => decide))
  | ((with_reducible refine n_st (by assumption) (by assumption) ?h1 ?_); (case h1 => rfl); intro _ _)
  | (with_reducible refine wpAny_Constant_none ?_)
  | (with_reducible refine wpAny_Break ?_)
  | (with_reducible refine truthy_none ?_)
  | (with_reducible refine wpAny_isTrue_Not ?_)
  | (with_reducible refine wpAny_isTrue_BoolOp ?_)
  | (with_reducible refine wpAny_allTrue_And_cons ?_)
  | (with_reducible refine wpAny_allTrue_And_nil ?_)
  | ((with_reducible refine c_int (by assumption) ?_); intro _ _ _)
  | ((with_reducible refine c_str (by assumption) ?_); intro _ _ _)
  | ((with_reducible refine o_add (by assumption) ?_); intro _ _ _)
  | ((with_reducible refine o_sub (by assumption) ?_); intro _ _ _)
  | ((with_reducible refine o_and (by assumption) ?_); intro _ _ _)
  | ((with_reducible refine o_xor (by assumption) ?_); intro _ _ _)
  | ((with_reducible refine o_shr (by decide) (by assumption) ?_); intro _ _ _)
  | ((with_reducible refine o_ishr (by decide) (by assumption) ?_); intro _ _ _)
  | ((with_reducible refine o_mul (Or.inr (by decide)) (by assumption) ?_); intro _ _ _)
  | ((with_reducible refine o_mul (Or.inl (by decide)) (by assumption) ?_); intro _ _ _)
  | ((with_reducible refine o_fdiv (by decide) (by decide) (by assumption) ?_); intro _ _ _)
  | ((with_reducible refine o_mod (by decide) (by assumption) ?_); intro _ _ _)
  | ((with_reducible refine o_pow (by decide) (by decide) (by decide) (by assumption) ?_); intro _ _ _)
  | ((with_reducible refine o_neg (by assumption) ?_); intro _ _ _)
  | ((with_reducible refine u_len (by assumption) (by omega) ?_); intro _ _ _)
  | (with_reducible refine j_eq ?_)
  | (with_reducible refine j_lt ?_)
  | (with_reducible refine j_le ?_)
  | (with_reducible refine j_ge ?_)
  | (with_reducible refine j_tr ?_)
  | ((with_reducible refine i_cmp ?hs ?_); (case hs => rfl))
  | ((with_reducible refine e_cmp ?hs ?_); (case hs => rfl))
  | ((with_reducible refine x_tup2S ?hs ?hw ?_); (case hs => rfl); (case hw => rfl))
  | ((with_reducible refine x_tup2 ?hs ?hw ?_); (case hs => rfl); (case hw => rfl))
  | ((with_reducible refine x_asub ?hs ?_); (case hs => rfl))
  | ((with_reducible refine x_expr ?hi ?hs ?_); (case hi => rfl); (case hs => rfl))
  | ((with_reducible refine Subscript_Slice ?_ ?ht); (case ht => intro _ _; rfl))
  | (with_reducible refine wpAny_Slice ?_)
  | (with_reducible refine evalPart_some_step ?_)
  | (with_reducible refine evalPart_none_step ?_)
  | (with_reducible refine Subscript_ ?_)
  | (with_reducible refine ao_name ?_)
  | (with_reducible refine ao_asg ?_)
  | (with_reducible refine ao_nil ?_)
  | (with_reducible refine truthy_int ?_)
  | ((with_reducible refine b_range (by assumption) (by assumption) (by assumption) ?h1 ?_); (case h1 => rfl))
  | ((with_reducible refine b_len (by assumption) (by assumption) (by assumption) ?h1 ?_); (case h1 => rfl))
  | ((with_reducible refine b_ord (by assumption) (by assumption) (by assumption) ?h1 ?_); (case h1 => rfl))
  | ((with_reducible refine b_chr (by assumption) (by assumption) (by assumption) ?h1 ?_); (case h1 => rfl))
  | ((with_reducible refine b_sum (by assumption) (by assumption) (by assumption) ?h1 ?_); (case h1 => rfl))
  | ((with_reducible refine b_abs (by assumption) (by assumption) (by assumption) ?h1 ?_); (case h1 => rfl))
  | ((with_reducible refine b_map (by assumption) (by assumption) (by assumption) ?h1 ?_); (case h1 => rfl))
  | ((with_reducible refine b_int (by assumption) (by assumption) (by assumption) ?h1 ?_); (case h1 => rfl))
  | ((with_reducible refine b_list (by assumption) (by assumption) (by assumption) ?h1 ?_); (case h1 => rfl))
  | ((with_reducible refine g_search_reverse (by assumption) (by assumption) (by assumption) ?h1 ?_); (case h1 => rfl))
  | ((with_reducible refine g_get_line_col (by assumption) (by assumption) (by assumption) ?h1 ?_); (case h1 => rfl))
  | ((with_reducible refine g_gen (by assumption) (by assumption) (by assumption) ?h1 ?_); (case h1 => rfl))
  | ((with_reducible refine g_page (by assumption) (by assumption) (by assumption) ?h1 ?_); (case h1 => rfl))
  | ((with_reducible refine g_turn (by assumption) (by assumption) (by assumption) ?h1 ?_); (case h1 => rfl))
  | ((with_reducible refine g_sum (by assumption) (by assumption) (by assumption) ?h1 ?_); (case h1 => rfl))
  | ((with_reducible refine g_known (by assumption) (by assumption) (by assumption) ?h1 ?_); (case h1 => rfl))
  | ((with_reducible refine g_hit (by assumption) (by assumption) (by assumption) ?h1 ?_); (case h1 => rfl))
  | ((with_reducible refine g_prog (by assumption) (by assumption) (by assumption) ?h1 ?_); (case h1 => rfl))
  | ((with_reducible refine g_found (by assumption) (by assumption) (by assumption) ?h1 ?_); (case h1 => rfl))
  | ((with_reducible refine g_firsts (by assumption) (by assumption) (by assumption) ?h1 ?_); (case h1 => rfl))
  | ((with_reducible refine g_due (by assumption) (by assumption) (by assumption) ?h1 ?_); (case h1 => rfl)))
section
variable {prog : Program} {w : World} {g : Heap} {A : Around} {b s : Shared} {L : Addr} {l : List (Str × Value)} {fs : List (Addr × Obj)} {Q : Value → Shared → Prop}
theorem d_firsts (G : Gs w g) (F : Fm g b L l fs s) (r : Room 1 A) {row word : List Nat} {t u : Tok} (hr : row.length ≤ 1000) (hwl : word.length ≤ 4) (h1 : ∀ c ∈ word, c < 256) (h2 : ∀ c ∈ row, c < 256)
    (h : ∀ D vs k s', IntsAre vs ((firstsOf word row).map Int.ofNat) → (∀ p ∈ fs, p.1 ≠ D) → b.heap.objs.size ≤ D → Fm g b L l ((D, listOf vs.toArray k) :: fs) s' → Q (.ref D) s') :
    wpAny (model prog w) A (call (.ref 85) [.str ⟨row.toArray⟩ t, .str ⟨word.toArray⟩ u]) Q NoE s := by
  have hsl := sizeLine_eq
  refine enterC (fd := fdAt w 85) (body := bdAt w 85) (binds := [("row", .str ⟨row.toArray⟩ t), ("word", .str ⟨word.toArray⟩ u)]) G F.kg F.td (Nat.le_trans F.gb F.size) r rfl (by kernel_rfl) rfl rfl rfl (by kernel_rfl)
    [(Str.ofString "row", .str ⟨row.toArray⟩ t)] (fun L => ⟨rfl, trivial⟩) (fun L => [(Str.ofString "pieces", L + 1 + 1), (Str.ofString "word", L + 1)]) (fun L => rfl) [Str.ofString "pieces", Str.ofString "word"] (fun L => rfl) (by decide) (fun L s₁ fs₁ F₁ hcs R => ?_) rfl rfl rfl
  obtain ⟨o₂, fs', rfl, ho₂, _, o₁, fs'', rfl, ho₁, _, rfl⟩ := hcs
  have pe : PlainEnv (callEnvC (fdAt w 85) L 85) L := ⟨rfl, rfl, rfl, rfl⟩
  have e₁ : o₁ = setC o₁ (.str ⟨word.toArray⟩ u) := by obtain ⟨x, y, z, q⟩ := o₁; simp only at ho₁; subst ho₁; rfl
  rw [e₁] at F₁
  have hnc : s.heap.objs.size ≤ L + 1 + 1 := Nat.le_trans F₁.nL (by omega)
  have hrs : (⟨row.toArray⟩ : Str).cps.size = row.length := by simp
  have fin : ∀ (D : Addr) (vs : List Value) (k : Nat) (l' : List (Str × Value)) (fs' : List (Addr × Obj)) s', IntsAre vs ((firstsOf word row).map Int.ofNat) → s.heap.objs.size ≤ D → Fm g s L l' ((D, listOf vs.toArray k) :: fs') s' → Q (.ref D) s' :=
    fun D vs k l' fs' s' hi hD F' => h D vs k _ hi (F.neOf hD) (Nat.le_trans F.size hD) (F.ret G F' (ns := [_]) fun p hp => ⟨by rw [List.mem_singleton.mp hp]; exact .head _, by rw [List.mem_singleton.mp hp]; exact hD⟩)
  refine wpAny_execs_cons ?_
  repeat walk_at "m"
  refine j_eqs ?_
  repeat walk_at "m"
  by_cases hw : word = []
  · refine iteT (by subst hw; rfl) ?_
    repeat walk_at "m"
    rename_i F₂
    refine r_range1 F₂ ?_
    intro rr s₂ _ _ _ hr₂ F₃
    rw [hrs, show (row.length : Int) + 1 = ((row.length + 1 : Nat) : Int) by omega] at hr₂
    repeat walk_at "m"
    refine u_listR R.hh F₃ hr₂ (by omega) fun D vs k s₃ hi _ hD F₄ => ?_
    refine fin D vs k _ _ _ ?_ hD F₄
    rw [firstsOf, if_pos hw]; exact hi
  · refine iteF (beq_eq_false_iff_ne.2 fun e => hw ?_) ?_
    · have := congrArg (fun x : Str => x.cps.toList) e
      exact this.trans (by decide)
    repeat walk_at "m"
    refine m_meth rfl rfl (by decide) rfl PySem.F.plainAttrs_str PySem.F.slot_str_split PySem.F.type_str_split ?_
    walk_at "m"
    refine ⟨typeIs_str _ _ _, (fun a e => by cases e), ?_⟩
    repeat walk_at "m"
    rename_i F₁'
    have hwz : ((⟨word.toArray⟩ : Str).length == 0) = false := beq_eq_false_iff_ne.2 fun e => hw (List.eq_nil_of_length_eq_zero (by simpa [Str.length] using e))
    refine u_split F₁' hwz (by rw [show (⟨row.toArray⟩ : Str).length = row.length from hrs]; omega) fun D ls s₂ hls hD hDb F₂ => ?_
    rw [split_greedy word row hw h1 h2] at hls
    refine n_stc F₂ pe rfl rfl ho₂ hnc (.tail (hD _ (.head _)).symm (.head fun p hp => ?_)) fun s₃ F₃ => ?_
    · rw [List.mem_singleton.mp hp]; exact Nat.ne_of_lt (Nat.lt_succ_self _)
    repeat walk_at "m"
    rename_i F₄
    have hsz : (strValues ls).toArray.size = (greedy word row 0 (row.length + 1)).length + 1 := by
      have := congrArg List.length hls
      rw [partsFrom_len, List.length_map] at this
      simpa [strValues] using this
    have hgl := greedy_len word row (row.length + 1) 0
    have hfo : firstsOf word row = greedy word row 0 (row.length + 1) := by rw [firstsOf, if_neg hw]
    have hgle := greedy_le word row (row.length + 1) 0
    have hch := greedy_chain word row (row.length + 1) 0
    refine u_lenL F₄ (IsL F₄ (.head _)) (by omega) fun t₅ s₅ F₅ => ?_
    repeat walk_at "m"
    refine r_range2 F₅ fun r₁ s₆ ta tb tc hr₁ F₆ => ?_
    rw [hsz] at hr₁
    rw [hfo] at fin
    generalize greedy word row 0 (row.length + 1) = gr at *
    refine iterRange (n := gr.length) F₆ hr₁ (small_ok (by omega) (by omega) (by omega) (by omega) (.inl rfl)) (by rw [rangeSize_one]; split <;> omega) ?_
    refine compV R.hh rfl rfl rfl (by omega) pe (fun i vs => IntsAre vs ((gr.take i).map Int.ofNat)) .nil ?_ ?_
    · rintro C i vk vs fs' s₇ hi ⟨tk, rfl⟩ hvl hJ hsub pe' F'
      obtain ⟨c, hc⟩ : ∃ c, gr[i]? = some c := ⟨_, List.getElem?_eq_getElem hi⟩
      have F'' := F'.sub (fs' := [(D, listOf (strValues ls).toArray 0), (L + 1 + 1, setC o₂ (.ref D)), (L + 1, setC o₁ (.str ⟨word.toArray⟩ u))] ++ fs') fun p hp => (List.mem_append.mp hp).elim (hsub p) id
      clear F'
      rw [show 1 + (i : Int) * 1 = ((i + 1 : Nat) : Int) by omega] at F''
      repeat walk_at "m"
      refine m_meth rfl rfl (by decide) rfl PySem.F.plainAttrs_str PySem.F.slot_str_join PySem.F.type_str_join ?_
      walk_at "m"
      refine ⟨typeIs_str _ _ _, (fun a e => by cases e), ?_⟩
      repeat walk_at "m"
      refine i_sliceL F'' (IsL F'' (.head _)) (by omega) fun D₂ s₈ hD₂ hDb₂ F₇ => ?_
      have hsv : (strValues ls).toArray.toList.take (i + 1) = strValues (ls.take (i + 1)) := by simp [strValues]
      rw [hsv] at F₇
      have htx : (ls.take (i + 1)).map (·.1) = (partsFrom ⟨row.toArray⟩ word.length 0 gr).take (i + 1) := by rw [← hls, List.map_take]
      have hshort : ∀ p ∈ (partsFrom ⟨row.toArray⟩ word.length 0 gr).take (i + 1), p.length ≤ 1000 := fun p hp => by
        have := partsFrom_short ⟨row.toArray⟩ word.length gr 0 p (List.mem_of_mem_take hp)
        rw [show (⟨row.toArray⟩ : Str).length = row.length from hrs] at this
        omega
      have hwn : (⟨word.toArray⟩ : Str).length = word.length := by simp [Str.length]
      refine u_join F₇ (IsL F₇ (.head _)) ?_ fun tj s₉ F₈ => ?_
      · have := fold_short word.length 1000 _ 0 hshort
        rw [htx]
        unfold JoinOk tooLong
        rw [List.foldl_toArray, hwn]
        have h3 : ((partsFrom ⟨row.toArray⟩ word.length 0 gr).take (i + 1)).length ≤ 1002 := by rw [List.length_take]; omega
        have h4 : ((partsFrom ⟨row.toArray⟩ word.length 0 gr).take (i + 1)).length * (1000 + word.length) ≤ 1002 * 1004 := Nat.mul_le_mul h3 (by omega)
        simp; omega
      · have hjl : (Txt.join ⟨word.toArray⟩ ((ls.take (i + 1)).map (·.1))).cps.size = c := by
          obtain ⟨f, hf⟩ := hch
          have := join_take ⟨row.toArray⟩ ⟨word.toArray⟩ gr 0 f i c hf hc
          rw [hwn, Nat.add_zero] at this
          rw [htx, Txt.join, glued_eq_join]
          exact this
        have hcl := hgle c (List.mem_of_getElem? hc)
        generalize Txt.join ⟨word.toArray⟩ ((ls.take (i + 1)).map (·.1)) = jt at *
        repeat walk_at "m"
        rw [hjl]
        refine ⟨_, ?_, Fm.sub (by assumption) fun p hp => .tail _ (List.mem_append_right _ hp)⟩
        rw [List.take_add_one, hc, List.map_append]
        exact hJ.append (.cons _ _ .nil)
    · intro D' vs k s₇ hJ hvl _ hD' F₇
      rw [List.take_length] at hJ
      repeat walk_at "m"
      exact fin D' vs k _ _ _ hJ hD' F₇
end
end Mine
/- MZ -/
namespace Mine
open PyProof.Rows PySem PySem.W
section
variable {prog : Program} {w : World} {g : Heap} {A : Around} {b s : Shared} {l : List (Str × Value)} {fs : List (Addr × Obj)} {env : Env} {L : Addr} {pos : Pos}
/-- a loop whose turns make objects -/
theorem forG {n : Nat} {P : Nat → Value → Prop} {x : Str} {px : Pos} {body : List Stmt} {Q : Flow → Shared → Prop} {ex : List Addr} (hh : A.handled = none)
    (J : Nat → List (Str × Value) → List (Addr × Obj) → Prop) (hJ0 : J 0 l fs) (pe : PlainEnv env L) (hx : env.kindOf x = some .local)
    (turn : ∀ i v l₁ fs₁ mu rs s₁, i < n → P i v → J i l₁ fs₁ → (∀ p ∈ fs₁, ∀ q ∈ mu, p.1 ≠ q.1) → Fm g b L ((x, v) :: l₁) (fs₁ ++ (mu ++ rs)) s₁ →
      wpAny (model prog w) A (execs body env) (fun f s₂ => match f with
        | .next | .cont => ∃ l₂ fs₂, J (i + 1) l₂ fs₂ ∧ (∀ p ∈ fs₂, ∀ q ∈ mu, p.1 ≠ q.1) ∧ Fm g b L l₂ (fs₂ ++ (mu ++ rs)) s₂
        | .brk => Q .next s₂
        | .ret v => Q (.ret v) s₂) NoE s₁)
    (done : ∀ l₁ fs₁ s₁, J n l₁ fs₁ → Fm g b L l₁ fs₁ s₁ → Q .next s₁) :
    ItQ prog w g b L l fs ex n P (fun it s' => codeAny (model prog w) A (.forLoop (.Name x px) it body [] env) (fun r s' => match r with | .ok f => Q f s' | .error e => cameBackBy (model prog w) A env NoE e s') s') := by
  have e := pe.l
  subst e
  intro I fp St s' hex W' hnp hfp hIf hI hfs _ hst F
  have W := W' A hh
  refine codeAny_forLoop_any (fun k s₁ => ∃ i l₁ fs₁, i ≤ n ∧ k = n + 1 - i ∧ J i l₁ fs₁ ∧ (∀ p ∈ fs₁, p.1 ≠ I) ∧ St i s₁.heap ∧ Fm g b env.locals l₁ fs₁ s₁) ?_ (n + 1) ⟨0, l, fs, Nat.zero_le _, rfl, hJ0, hfs, hst, F⟩
  rintro k s₁ ⟨i, l₁, fs₁, hi, rfl, hJ, hne, hS, F₁⟩
  obtain ⟨oI, hoI, npI⟩ := hnp i _ hS
  have hIL := (hfp I hIf).2
  by_cases hlt : i < n
  · refine W.item i s₁ _ _ hlt hS fun v h' tk hP hS' hk' => ?_
    have F₂ : Fm g b env.locals l₁ fs₁ { s₁ with heap := h', toks := tk } := F₁.but hoI npI hI hIL (fun c o hc e => hk' c o (fun hm => hc (List.mem_singleton.mp hm)) e) hne
    obtain ⟨oI', hoI', npI'⟩ := hnp (i + 1) _ hS'
    show wpAny _ A (letOwnedTupleGo (.Name x px) (.ref I) v) _ _ _
    refine wpAny_pure ?_
    let mu : List (Addr × Obj) := [(I, oI')]
    let rs : List (Addr × Obj) := fp.filterMap fun y => (h'.get? y).map fun o => (y, o)
    have hm : ∀ y o, (y, o) ∈ rs ↔ (y ∈ fp ∧ h'.get? y = some o) := fun y o => by
      simp only [rs, List.mem_filterMap, Option.map_eq_some_iff]
      constructor
      · rintro ⟨z, hz, o', e, q⟩; cases q; exact ⟨hz, e⟩
      · rintro ⟨hz, e⟩; exact ⟨y, hz, o, e, rfl⟩
    have F₃ : Fm g b env.locals l₁ (fs₁ ++ (mu ++ rs)) { s₁ with heap := h', toks := tk } := F₂.addR fun p hp => by
      rcases List.mem_append.mp hp with hp | hp
      · rw [List.mem_singleton.mp hp]; exact ⟨⟨hoI', (hfp I hIf).1⟩, hIL⟩
      · obtain ⟨h1, h2⟩ := (hm p.1 p.2).mp hp
        exact ⟨⟨h2, (hfp _ h1).1⟩, (hfp _ h1).2⟩
    refine wpAny_assign_Name (stL F₃ pe.k hx fun s₃ F₄ => ?_)
    refine wpAny_mono (turn i v l₁ fs₁ mu rs s₃ hlt hP hJ (fun p hp q hq => by rw [List.mem_singleton.mp hq]; exact hne p hp) F₄) (fun f s₄ q => ?_) fun _ _ e => e.elim
    have fin : (∃ l₂ fs₂, J (i + 1) l₂ fs₂ ∧ (∀ p ∈ fs₂, ∀ q ∈ mu, p.1 ≠ q.1) ∧ Fm g b env.locals l₂ (fs₂ ++ (mu ++ rs)) s₄) → ∃ m, m < n + 1 - i ∧ ∃ i' l₁ fs₁, i' ≤ n ∧ m = n + 1 - i' ∧ J i' l₁ fs₁ ∧ (∀ p ∈ fs₁, p.1 ≠ I) ∧ St i' s₄.heap ∧ Fm g b env.locals l₁ fs₁ s₄ := by
      rintro ⟨l₂, fs₂, hJ₂, hne₂, F₅⟩
      refine ⟨n + 1 - (i + 1), by omega, i + 1, l₂, fs₂, hlt, rfl, hJ₂, fun p hp => hne₂ p hp _ (.head _), ?_, F₅.sub fun p hp => List.mem_append_left _ hp⟩
      exact W.frame _ _ _ hS' fun y hy o e => (F₅.own (y, o) (List.mem_append_right _ (List.mem_append_right _ ((hm y o).mpr ⟨hy, e⟩)))).1.1
    cases f with
    | next => exact fin q
    | cont => exact fin q
    | brk => exact q
    | ret v => exact q
  · have hin : i = n := by omega
    subst hin
    refine W.done s₁ _ _ hS fun h' tk hk' => ?_
    exact wpAny_execs_nil (done l₁ fs₁ _ hJ (F₁.but hoI npI hI hIL (fun c o hc e => hk' c o (fun hm => hc (List.mem_singleton.mp hm)) e) hne))
end
/-- the data of what is found -/
def datOf (head size : Nat) : Option (Nat × Nat) → Dat
  | none => .none
  | some (k, f) => .list [.int ((head + k : Nat) : Int), .tuple [.int (f : Nat), .int ((f + size : Nat) : Int)]]
def dueStep (size bound k : Nat) (acc : Option (Nat × Nat)) (f : Nat) : Option (Nat × Nat) := if f < bound ∧ f + size ≤ bound then some (k, f) else acc
def dueRow (size bound k : Nat) (found : Option (Nat × Nat)) (ns : List Nat) : Option (Nat × Nat) := ns.foldl (dueStep size bound k) found
def dueGo (rows nss : List (List Nat)) (size k₀ col₀ : Nat) : Nat → Option (Nat × Nat)
  | 0 => none
  | k + 1 => dueRow size (if k = k₀ then col₀ else (rows.getD k []).length) k (dueGo rows nss size k₀ col₀ k) (nss.getD k [])
/-- values that are lists of numbers -/
def ListsAre (fs : List (Addr × Obj)) (vs : List Value) (nss : List (List Nat)) : Prop := ∀ (i : Nat) ns, nss[i]? = some ns → ∃ D us k, vs[i]? = some (.ref D) ∧ (D, listOf us.toArray k) ∈ fs ∧ IntsAre us (ns.map Int.ofNat)
theorem ListsAre.mono {fs fs' : List (Addr × Obj)} {vs : List Value} {nss : List (List Nat)} (h : ListsAre fs vs nss) (k : ∀ p ∈ fs, p ∈ fs') : ListsAre fs' vs nss := fun i ns e => by
  obtain ⟨D, us, kk, h1, h2, h3⟩ := h i ns e
  exact ⟨D, us, kk, h1, k _ h2, h3⟩
section
variable {prog : Program} {w : World} {g : Heap} {A : Around} {b s : Shared} {l : List (Str × Value)} {fs : List (Addr × Obj)} {env : Env} {L : Addr} {pos : Pos} {Q : Value → Shared → Prop} {E : Value → Shared → Prop}
theorem t_tup {value slice : Expr} {a : Addr} {its : Array Value} {k : Nat} {u : Tok} {v : Value} (hs : subscripted slice false (.ref a) (.int k u) = operate [.ref a, .int k u] (getItem (.ref a) (.int k u))) (F : Fm g b L l fs s) (hm : (a, tupOf its) ∈ fs) (hk : k < 2 ^ 60) (hx : its[k]? = some v) (h : Q v s) :
    wpAny (model prog w) A (subscriptTail value slice (.ref a) (.int k u)) Q E s := by
  have hlt := (Array.getElem?_eq_some_iff.mp hx).1
  refine item_tupleT (l := its.toList) (j := k) ⟨_, (F.own _ hm).1.1, rfl, 0, by simp⟩ (by omega) (by omega) ?_ (by simpa using hx) h hs
  unfold seqIndex?
  simp
  omega
end
end Mine
/- F92 -/
namespace Mine
open PyProof.Rows PySem PySem.W
local macro_rules | `(tactic| walk_at "mem") => `(tactic| first | exact List.Mem.head _ | (refine List.Mem.tail _ ?_; walk_at "mem"))
local macro_rules | `(tactic| walk_at "m") => `(tactic| first
  | (with_reducible refine wpAny_execs_cons ?_)
  | (with_reducible refine wpAny_execs_nil ?_)
  | ((with_reducible refine x_assign ?hs ?_); (case hs => rfl))
  | (with_reducible refine wpAny_AugAssign_Name ?_)
  | (with_reducible refine wpAny_If ?_)
  | (with_reducible refine wpAny_Return_some ?_)
  | (with_reducible refine a_cons ?_)
  | (with_reducible refine a_nil ?_)
  | ((with_reducible refine k_type0 ?hs ?_); (case hs => rfl))
  | ((with_reducible refine k_bi0 ?hs ?_); (case hs => rfl))
  | ((with_reducible refine' k_def0 (by assumption) ?hk ?hs ?_); (case hk => rfl); (case hs => rfl))
  | (with_reducible refine wpAny_Call_NameR ?_)
  | (with_reducible refine wpAny_BinOp ?_)
  | (with_reducible refine wpAny_UnaryOp ?_)
  | ((with_reducible refine e_list ?hs ?_); (case hs => rfl))
  | ((with_reducible refine e_tuple ?hs ?_); (case hs => rfl))
  | ((with_reducible refine' e_comp ?hc ?hk ?hn ?hs ?_); (case hc => rfl); (case hk => rfl); (case hn => rfl); (case hs => intro _; rfl))
  | ((with_reducible refine u_ord (by assumption) ?_); intro _ _ _)
  | ((with_reducible refine i_plain ?hs ?_); (case hs => rfl))
  | ((with_reducible refine' n_ld (by assumption) (by assumption) ?h1 ?h2 ?_ ?h3); (case h1 => rfl); (case h2 => rfl); (case h3 => decide))
  | ((with_reducible refine' n_ldn (by assumption) (by assumption) ?h1 ?h2 ?_); (case h1 => rfl); (case h2 => rfl))
  | ((with_reducible refine' n_ldc (by assumption) (by assumption) ?h1 ?h2 ?h4 ?_ ?h3); (case h1 => rfl); (case h2 => rfl); (case h4 => walk_at "mem"); (case h3 => decide))
  | ((with_reducible refine' n_ldf (by assumption) (by assumption) ?h1 ?h2 ?h4 ?_ ?h3 ?h5); (case h1 => rfl); (case h2 => rfl); (case h4 => walk_at "mem"); (case h3 => decide); (case h5 => decide))
  | ((with_reducible refine n_st (by assumption) (by assumption) ?h1 ?_); (case h1 => rfl); intro _ _)
  | (with_reducible refine wpAny_Constant_none ?_)
  | (with_reducible refine wpAny_Break ?_)
  | (with_reducible refine truthy_none ?_)
  | (with_reducible refine wpAny_isTrue_Not ?_)
  | (with_reducible refine wpAny_isTrue_BoolOp ?_)
  | (with_reducible refine wpAny_allTrue_And_cons ?_)
  | (with_reducible refine wpAny_allTrue_And_nil ?_)
  | ((with_reducible refine c_int (by assumption) ?_); intro _ _ _)
  | ((with_reducible refine c_str (by assumption) ?_); intro _ _ _)
  | ((with_reducible refine o_add (by assumption) ?_); intro _ _ _)
  | ((with_reducible refine o_sub (by assumption) ?_); intro _ _ _)
  | ((with_reducible refine o_and (by assumption) ?_); intro _ _ _)
  | ((with_reducible refine o_xor (by assumption) ?_); intro _ _ _)
  | ((with_reducible refine o_shr (by decide) (by assumption) ?_); intro _ _ _)
  | ((with_reducible refine o_ishr (by decide) (by assumption) ?_); intro _ _ _)
  | ((with_reducible refine o_mul (Or.inr (by decide)) (by assumption) ?_); intro _ _ _)
  | ((with_reducible refine o_mul (Or.inl (by decide)) (by assumption) ?_); intro _ _ _)
  | ((with_reducible refine o_fdiv (by decide) (by decide) (by assumption) ?_); intro _ _ _)
  | ((with_reducible refine o_mod (by decide) (by assumption) ?_); intro _ _ _)
  | ((with_reducible refine o_pow (by decide) (by decide) (by decide) (by assumption) ?_); intro _ _ _)
  | ((with_reducible refine o_neg (by assumption) ?_); intro _ _ _)
  | ((with_reducible refine u_len (by assumption) (by omega) ?_); intro _ _ _)
  | (with_reducible refine j_eq ?_)
  | (with_reducible refine j_lt ?_)
  | (with_reducible refine j_le ?_)
  | (with_reducible refine j_ge ?_)
  | (with_reducible refine j_tr ?_)
  | ((with_reducible refine i_cmp ?hs ?_); (case hs => rfl))
  | ((with_reducible refine e_cmp ?hs ?_); (case hs => rfl))
  | ((with_reducible refine x_tup2S ?hs ?hw ?_); (case hs => rfl); (case hw => rfl))
  | ((with_reducible refine x_tup2 ?hs ?hw ?_); (case hs => rfl); (case hw => rfl))
  | ((with_reducible refine x_asub ?hs ?_); (case hs => rfl))
  | ((with_reducible refine x_expr ?hi ?hs ?_); (case hi => rfl); (case hs => rfl))
  | ((with_reducible refine Subscript_Slice ?_ ?ht); (case ht => intro _ _; rfl))
  | (with_reducible refine wpAny_Slice ?_)
  | (with_reducible refine evalPart_some_step ?_)
  | (with_reducible refine evalPart_none_step ?_)
  | (with_reducible refine Subscript_ ?_)
  | (with_reducible refine ao_name ?_)
  | (with_reducible refine ao_asg ?_)
  | (with_reducible refine ao_nil ?_)
  | (with_reducible refine truthy_int ?_)
  | ((with_reducible refine b_range (by assumption) (by assumption) (by assumption) ?h1 ?_); (case h1 => rfl))
  | ((with_reducible refine b_len (by assumption) (by assumption) (by assumption) ?h1 ?_); (case h1 => rfl))
  | ((with_reducible refine b_ord (by assumption) (by assumption) (by assumption) ?h1 ?_); (case h1 => rfl))
  | ((with_reducible refine b_chr (by assumption) (by assumption) (by assumption) ?h1 ?_); (case h1 => rfl))
  | ((with_reducible refine b_sum (by assumption) (by assumption) (by assumption) ?h1 ?_); (case h1 => rfl))
  | ((with_reducible refine b_abs (by assumption) (by assumption) (by assumption) ?h1 ?_); (case h1 => rfl))
  | ((with_reducible refine b_map (by assumption) (by assumption) (by assumption) ?h1 ?_); (case h1 => rfl))
  | ((with_reducible refine b_int (by assumption) (by assumption) (by assumption) ?h1 ?_); (case h1 => rfl))
  | ((with_reducible refine b_list (by assumption) (by assumption) (by assumption) ?h1 ?_); (case h1 => rfl))
  | ((with_reducible refine g_search_reverse (by assumption) (by assumption) (by assumption) ?h1 ?_); (case h1 => rfl))
  | ((with_reducible refine g_get_line_col (by assumption) (by assumption) (by assumption) ?h1 ?_); (case h1 => rfl))
  | ((with_reducible refine g_gen (by assumption) (by assumption) (by assumption) ?h1 ?_); (case h1 => rfl))
  | ((with_reducible refine g_page (by assumption) (by assumption) (by assumption) ?h1 ?_); (case h1 => rfl))
  | ((with_reducible refine g_turn (by assumption) (by assumption) (by assumption) ?h1 ?_); (case h1 => rfl))
  | ((with_reducible refine g_sum (by assumption) (by assumption) (by assumption) ?h1 ?_); (case h1 => rfl))
  | ((with_reducible refine g_known (by assumption) (by assumption) (by assumption) ?h1 ?_); (case h1 => rfl))
  | ((with_reducible refine g_hit (by assumption) (by assumption) (by assumption) ?h1 ?_); (case h1 => rfl))
  | ((with_reducible refine g_prog (by assumption) (by assumption) (by assumption) ?h1 ?_); (case h1 => rfl))
  | ((with_reducible refine g_found (by assumption) (by assumption) (by assumption) ?h1 ?_); (case h1 => rfl))
  | ((with_reducible refine g_firsts (by assumption) (by assumption) (by assumption) ?h1 ?_); (case h1 => rfl))
  | ((with_reducible refine g_due (by assumption) (by assumption) (by assumption) ?h1 ?_); (case h1 => rfl)))
section
variable {prog : Program} {w : World} {g : Heap} {A : Around} {b s : Shared} {L : Addr} {l : List (Str × Value)} {fs : List (Addr × Obj)} {Q : Value → Shared → Prop}
theorem cutI {env : Env} {c : Bool} {T E : Expr} {n : Int} {K : Value → Shared → Prop} (I : Shared → Prop) (hK : ∀ t s', I s' → K (.int n t) s')
    (h : if c = true then wpAny (model prog w) A (eval T env) (fun v s' => ∃ t, v = .int n t ∧ I s') NoE s else wpAny (model prog w) A (eval E env) (fun v s' => ∃ t, v = .int n t ∧ I s') NoE s) :
    if c = true then wpAny (model prog w) A (eval T env) K NoE s else wpAny (model prog w) A (eval E env) K NoE s := by
  cases c with
  | true => exact wpAny_mono h (fun v s' ⟨t, e, q⟩ => by rw [e]; exact hK t _ q) fun _ _ e => e.elim
  | false => exact wpAny_mono h (fun v s' ⟨t, e, q⟩ => by rw [e]; exact hK t _ q) fun _ _ e => e.elim
theorem d_due (G : Gs w g) (F : Fm g b L l fs s) (r : Room 1 A) {R Fs P : Addr} {vs fv : List Value} {rows nss : List (List Nat)} {kR kF size head k₀ col₀ : Nat} {ts th tp tq : Tok}
    (hR : (R, listOf vs.toArray kR) ∈ fs) (hvs : RowsAre vs rows) (hF : (Fs, listOf fv.toArray kF) ∈ fs) (hfv : ListsAre fs fv nss) (hP : (P, tupOf #[.int k₀ tp, .int col₀ tq]) ∈ fs)
    (hlen : nss.length = rows.length) (hk : k₀ < rows.length) (hn : rows.length ≤ 1000) (hrl : ∀ row ∈ rows, row.length ≤ 1000)
    (h : ∀ v ns s', DatIn ns v (datOf head size (dueGo rows nss size k₀ col₀ (k₀ + 1))) → (∀ q ∈ fs, ∀ p ∈ ns, q.1 ≠ p.1) → (∀ p ∈ ns, b.heap.objs.size ≤ p.1) → Fm g b L l (ns ++ fs) s' → Q v s') :
    wpAny (model prog w) A (call (.ref 92) [.ref R, .ref Fs, .int size ts, .int head th, .ref P]) Q NoE s := by
  have hsl := sizeLine_eq
  refine enter (fd := fdAt w 92) (body := bdAt w 92) (binds := [("rows", .ref R), ("firsts", .ref Fs), ("size", .int size ts), ("head", .int head th), ("place", .ref P)]) G F.kg F.td (Nat.le_trans F.gb F.size) r rfl (by kernel_rfl) rfl rfl (by kernel_rfl) (by kernel_rfl) (fun L s₁ F₁ R' => ?_) rfl rfl rfl
  have pe : PlainEnv (callEnv (fdAt w 92) L 92) L := ⟨rfl, rfl, rfl, rfl⟩
  have F₂ : Fm g s L [(Str.ofString "place", .ref P), (Str.ofString "head", .int head th), (Str.ofString "size", .int size ts), (Str.ofString "firsts", .ref Fs), (Str.ofString "rows", .ref R)] (fs ++ []) s₁ := F₁.addB fun q hq => (F.own _ hq).1
  rw [List.append_nil] at F₂
  clear F₁
  refine wpAny_execs_cons ?_
  repeat walk_at "m"
  refine wpAny_For ?_
  repeat walk_at "m"
  rename_i F₃
  refine t_tup (k := 0) (v := .int k₀ tp) rfl F₃ hP (by decide) rfl ?_
  repeat walk_at "m"
  rename_i F₄
  refine r_range1 F₄ ?_
  intro rr s₂ _ _ _ hr F₅
  rw [show (k₀ : Int) + 1 = ((k₀ + 1 : Nat) : Int) by omega] at hr
  refine iterRange0 (n := k₀ + 1) (F₅.weak (l' := [(Str.ofString "found", .none), (Str.ofString "place", .ref P), (Str.ofString "head", .int head th), (Str.ofString "size", .int size ts), (Str.ofString "firsts", .ref Fs), (Str.ofString "rows", .ref R)]) ⟨rfl, rfl, rfl, rfl, rfl, rfl, trivial⟩) hr (by omega) ?_
  refine forG (env := callEnv (fdAt w 92) L 92) R'.hh (fun i l fs₁ => ∃ v ns, DatIn ns v (datOf head size (dueGo rows nss size k₀ col₀ i)) ∧ (∀ p ∈ ns, s.heap.objs.size ≤ p.1) ∧ fs₁ = ns ++ fs ∧
      l = [(Str.ofString "found", v), (Str.ofString "place", .ref P), (Str.ofString "head", .int head th), (Str.ofString "size", .int size ts), (Str.ofString "firsts", .ref Fs), (Str.ofString "rows", .ref R)])
    ⟨.none, [], .none, (fun p hp => nomatch hp), rfl, rfl⟩ pe rfl ?_ ?_
  · rintro i v l₁ fs₁ mu rs s₃ hi ⟨ti, rfl⟩ ⟨vf, ns, hD, hnb, rfl, rfl⟩ hmu F₆
    obtain ⟨row, hrow⟩ : ∃ row, rows[i]? = some row := ⟨_, List.getElem?_eq_getElem (by omega)⟩
    obtain ⟨fl, hfl⟩ : ∃ fl, nss[i]? = some fl := ⟨_, List.getElem?_eq_getElem (by omega)⟩
    have hgd : rows.getD i [] = row := by rw [List.getD_eq_getElem?_getD, hrow]; rfl
    have hgf : nss.getD i [] = fl := by rw [List.getD_eq_getElem?_getD, hfl]; rfl
    have hrow1 := hrl row (List.mem_of_getElem? hrow)
    have hrz : (⟨row.toArray⟩ : Str).cps.size = row.length := by simp
    have inF : ∀ {q : Addr × Obj}, q ∈ fs → q ∈ ns ++ (fs ++ (mu ++ rs)) := fun hq => List.mem_append_right _ (List.mem_append_left _ hq)
    rw [List.append_assoc] at F₆
    refine wpAny_execs_cons ?_
    walk_at "m"
    refine wpAny_IfExp ?_
    repeat walk_at "m"
    rename_i F₇
    refine t_tup (k := 0) (v := .int k₀ tp) rfl F₇ (inF hP) (by decide) rfl ?_
    repeat walk_at "m"
    refine cutI (n := ((if i = k₀ then col₀ else row.length : Nat) : Int)) (I := fun s' => Fm g s L [(Str.ofString "k", .int i ti), (Str.ofString "found", vf), (Str.ofString "place", .ref P), (Str.ofString "head", .int head th), (Str.ofString "size", .int size ts), (Str.ofString "firsts", .ref Fs), (Str.ofString "rows", .ref R)] (ns ++ (fs ++ (mu ++ rs))) s') (fun tb s₄ F₈ => ?_) ?_
    · rw [dueGo, hgd, hgf]
      generalize (if i = k₀ then col₀ else row.length) = bound at *
      repeat walk_at "m"
      rename_i F₉
      refine wpAny_For ?_
      repeat walk_at "m"
      obtain ⟨D, us, kk, hv, hDm, hus⟩ := hfv i fl hfl
      refine t_list rfl (IsL F₉ (inF hF)) (by omega) (by omega) (show fv.toArray[((i : Int)).toNat]? = some (.ref D) by simpa using hv) ?_
      have F₁₀ := F₉.weak (l' := [(Str.ofString "bound", .int bound tb), (Str.ofString "k", .int i ti), (Str.ofString "found", vf), (Str.ofString "place", .ref P), (Str.ofString "head", .int head th), (Str.ofString "size", .int size ts), (Str.ofString "firsts", .ref Fs), (Str.ofString "rows", .ref R)]) ⟨rfl, rfl, rfl, rfl, rfl, rfl, rfl, rfl, trivial⟩
      have hDL := F₁₀.own _ (inF hDm)
      refine iterList F₁₀ (IsL F₁₀ (inF hDm)) ⟨hDL.1.2, hDL.2⟩ ?_
      generalize dueGo rows nss size k₀ col₀ i = acc₀ at *
      refine forG (env := callEnv (fdAt w 92) L 92) R'.hh (fun j l fs₂ => ∃ v ns', DatIn ns' v (datOf head size (dueRow size bound i acc₀ (fl.take j))) ∧ (∀ p ∈ ns', s.heap.objs.size ≤ p.1) ∧ (∀ p ∈ ns', ∀ q ∈ mu, p.1 ≠ q.1) ∧ fs₂ = ns' ++ (fs ++ (mu ++ rs)) ∧
          l = [(Str.ofString "bound", .int bound tb), (Str.ofString "k", .int i ti), (Str.ofString "found", v), (Str.ofString "place", .ref P), (Str.ofString "head", .int head th), (Str.ofString "size", .int size ts), (Str.ofString "firsts", .ref Fs), (Str.ofString "rows", .ref R)])
        ⟨vf, ns, hD, hnb, fun p hp => hmu p (List.mem_append_left _ hp), rfl, rfl⟩ pe rfl ?_ ?_
      · rintro j v l₁ fs₁ mu₂ rs₂ s₅ hj hv' ⟨vf', ns', hD', hnb', hmu', rfl, rfl⟩ hmu₂ F₁₁
        have hjl : j < fl.length := by have := hus.length; rw [List.length_map] at this; rw [← this]; simpa using hj
        obtain ⟨f, hf⟩ : ∃ f, fl[j]? = some f := ⟨_, List.getElem?_eq_getElem hjl⟩
        obtain ⟨tf, hx⟩ := hus.get j (Int.ofNat f) (by rw [List.getElem?_map, hf]; rfl)
        have hv2 : v = .int f tf := by
          have : us[j]? = some v := by simpa using hv'
          rw [hx] at this; exact (Option.some.inj this).symm
        subst hv2
        have hstep : dueRow size bound i acc₀ (fl.take (j + 1)) = dueStep size bound i (dueRow size bound i acc₀ (fl.take j)) f := by
          rw [List.take_add_one, hf]; unfold dueRow; rw [List.foldl_append]; rfl
        rw [hstep]
        generalize dueRow size bound i acc₀ (fl.take j) = acc at *
        repeat walk_at "m"
        have no : ¬ (f < bound ∧ f + size ≤ bound) → ∀ s', Fm g s L ([(Str.ofString "first", .int f tf), (Str.ofString "bound", .int bound tb), (Str.ofString "k", .int i ti), (Str.ofString "found", vf'), (Str.ofString "place", .ref P), (Str.ofString "head", .int head th), (Str.ofString "size", .int size ts), (Str.ofString "firsts", .ref Fs), (Str.ofString "rows", .ref R)]) (ns' ++ (fs ++ (mu ++ rs)) ++ (mu₂ ++ rs₂)) s' →
            ∃ l₂ fs₂, (∃ v ns', DatIn ns' v (datOf head size (dueStep size bound i acc f)) ∧ (∀ p ∈ ns', s.heap.objs.size ≤ p.1) ∧ (∀ p ∈ ns', ∀ q ∈ mu, p.1 ≠ q.1) ∧ fs₂ = ns' ++ (fs ++ (mu ++ rs)) ∧
              l₂ = [(Str.ofString "bound", .int bound tb), (Str.ofString "k", .int i ti), (Str.ofString "found", v), (Str.ofString "place", .ref P), (Str.ofString "head", .int head th), (Str.ofString "size", .int size ts), (Str.ofString "firsts", .ref Fs), (Str.ofString "rows", .ref R)]) ∧
              (∀ p ∈ fs₂, ∀ q ∈ mu₂, p.1 ≠ q.1) ∧ Fm g s L l₂ (fs₂ ++ (mu₂ ++ rs₂)) s' := fun hno s' F' =>
          ⟨_, _, ⟨vf', ns', by rw [dueStep, if_neg hno]; exact hD', hnb', hmu', rfl, rfl⟩, hmu₂, F'.weak ⟨rfl, rfl, rfl, rfl, rfl, rfl, rfl, rfl, trivial⟩⟩
        by_cases hc1 : f < bound
        · refine iteT (decide_eq_true (by omega)) ?_
          repeat walk_at "m"
          rename_i F₁₂
          by_cases hc2 : f + size ≤ bound
          · refine iteT (decide_eq_true (by omega)) ?_
            repeat walk_at "m"
            refine iteT rfl ?_
            repeat walk_at "m"
            rename_i ta' _ _ tb' _ F₁₃
            refine q_tuple F₁₃ (by show 2 ≤ sizeLine; omega) fun tp₁ s₆ hne₁ hb₁ F₁₄ => ?_
            repeat walk_at "m"
            refine q_list F₁₄ (by show 2 ≤ sizeLine; omega) fun a₁ s₇ hne₂ hb₂ F₁₅ => ?_
            repeat walk_at "m"
            rename_i F₁₆
            rw [show (head : Int) + (i : Int) = ((head + i : Nat) : Int) by omega, show (f : Int) + (size : Int) = ((f + size : Nat) : Int) by omega] at F₁₆
            refine ⟨_, _, ⟨_, [(a₁, listOf #[.int ((head + i : Nat) : Int) ta', .ref tp₁] 0), (tp₁, tupOf #[.int f tf, .int ((f + size : Nat) : Int) tb'])], ?_, ?_, ?_, rfl, rfl⟩, ?_, (F₁₆.sub fun p hp => ?_).weak ⟨rfl, rfl, rfl, rfl, rfl, rfl, rfl, rfl, trivial⟩⟩
            · rw [dueStep, if_pos ⟨hc1, hc2⟩]
              exact .list (vs := [_, _]) (.head _) (.cons (.int _ _) (.cons (.tuple (vs := [_, _]) (.tail _ (.head _)) (.cons (.int _ _) (.cons (.int _ _) .nil))) .nil))
            · intro p hp
              rcases List.mem_cons.mp hp with rfl | hp
              · exact hb₂
              · rw [List.mem_singleton.mp hp]; exact hb₁
            · intro p hp q hq
              have hqm : q ∈ ns' ++ (fs ++ (mu ++ rs)) ++ (mu₂ ++ rs₂) := List.mem_append_left _ (List.mem_append_right _ (List.mem_append_right _ (List.mem_append_left _ hq)))
              rcases List.mem_cons.mp hp with rfl | hp
              · exact Ne.symm (hne₂ q (.tail _ hqm))
              · rw [List.mem_singleton.mp hp]; exact Ne.symm (hne₁ q hqm)
            · intro p hp q hq
              have hqm : q ∈ ns' ++ (fs ++ (mu ++ rs)) ++ (mu₂ ++ rs₂) := List.mem_append_right _ (List.mem_append_left _ hq)
              rcases List.mem_append.mp hp with hp | hp
              · rcases List.mem_cons.mp hp with rfl | hp
                · exact Ne.symm (hne₂ q (.tail _ hqm))
                · rw [List.mem_singleton.mp hp]; exact Ne.symm (hne₁ q hqm)
              · exact hmu₂ p (List.mem_append_right _ hp) q hq
            · rcases List.mem_append.mp hp with hp | hp
              · rcases List.mem_append.mp hp with hp | hp
                · rcases List.mem_cons.mp hp with rfl | hp
                  · exact .head _
                  · rw [List.mem_singleton.mp hp]; exact .tail _ (.head _)
                · exact .tail _ (.tail _ (List.mem_append_left _ (List.mem_append_right _ hp)))
              · exact .tail _ (.tail _ (List.mem_append_right _ hp))
          · refine iteF (decide_eq_false (by omega)) ?_
            refine iteF rfl ?_
            repeat walk_at "m"
            exact no (fun q => hc2 q.2) _ F₁₂
        · refine iteF (decide_eq_false (by omega)) ?_
          refine iteF rfl ?_
          repeat walk_at "m"
          exact no (fun q => hc1 q.1) _ F₁₁
      · rintro l₁ fs₁ s₅ ⟨vf', ns', hD', hnb', hmu', rfl, rfl⟩ F₁₁
        have hul : us.toArray.size = fl.length := by have := hus.length; rw [List.length_map] at this; simpa using this
        rw [hul, List.take_length] at hD'
        repeat walk_at "m"
        refine ⟨_, ns' ++ fs, ⟨vf', ns', hD', hnb', rfl, rfl⟩, fun p hp => (List.mem_append.mp hp).elim (hmu' p) fun hp => hmu p (List.mem_append_right _ hp), ?_⟩
        rw [List.append_assoc]
        exact F₁₁.weak ⟨rfl, rfl, rfl, rfl, rfl, rfl, trivial⟩
    · by_cases hik : i = k₀
      · refine iteT (by rw [hik]; exact beq_self_eq_true _) ?_
        repeat walk_at "m"
        rename_i F₈
        exact t_tup (k := 1) (v := .int col₀ tq) rfl F₈ (inF hP) (by decide) rfl ⟨_, by rw [if_pos hik], F₈⟩
      · refine iteF (beq_eq_false_iff_ne.2 (by omega)) ?_
        repeat walk_at "m"
        obtain ⟨tr, htr⟩ := hvs.get hrow
        refine t_list rfl (IsL F₇ (inF hR)) (by omega) (by omega) (show vs.toArray[((i : Int)).toNat]? = some (.str ⟨row.toArray⟩ tr) by simpa using htr) ?_
        repeat walk_at "m"
        exact ⟨_, by rw [if_neg hik, hrz], by assumption⟩
  · rintro l₁ fs₁ s₃ ⟨vf, ns, hD, hnb, rfl, rfl⟩ F₆
    repeat walk_at "m"
    refine h vf ns _ hD (fun q hq p hp e => F.neOf (hnb p hp) q hq e) (fun p hp => Nat.le_trans F.size (hnb p hp)) (F.ret G F₆ fun p hp => ⟨List.mem_append_left _ hp, hnb p hp⟩)
end
end Mine
/- M2 -/
namespace Mine
open PyProof.Rows PySem PySem.W
abbrev lc2 (elt : Expr) (x y : Str) (px py : Pos) (iter iter2 : Expr) (scope : Scope) (pos : Pos) : Expr := .ListComp elt [⟨.Name x px, iter, [], 0⟩, ⟨.Name y py, iter2, [], 0⟩] scope pos
theorem compTurn_two (elt : Expr) (x y : Str) (px py : Pos) (iter iter2 : Expr) (scope : Scope) (pos : Pos) (it acc : Value) (env : Env) :
    compTurn (lc2 elt x y px py iter iter2 scope pos) 0 it acc env = (standAt iter.pos >>= fun _ => pyNext it >>= fun r => match r with
      | none => pure (.done .next)
      | some v => letOwnedTupleGo (.Name x px) it v >>= fun _ => assign (.Name x px) env v >>= fun _ =>
        eval iter2 env >>= fun xv => standAt iter2.pos >>= fun _ => foldedSetIterable iter2 env xv >>= fun xv => holding [xv] (pyIter xv) >>= fun it2 => runOwn (.compStart (lc2 elt x y px py iter iter2 scope pos) 1 it2 acc env) env >>= fun _ =>
          again (.compLoop (lc2 elt x y px py iter iter2 scope pos) 0 it acc env)) := by rfl
theorem compTurn_two1 (elt : Expr) (x y : Str) (px py : Pos) (iter iter2 : Expr) (scope : Scope) (pos : Pos) (it acc : Value) (env : Env) :
    compTurn (lc2 elt x y px py iter iter2 scope pos) 1 it acc env = (standAt iter2.pos >>= fun _ => pyNext it >>= fun r => match r with
      | none => pure (.done .next)
      | some v => letOwnedTupleGo (.Name y py) it v >>= fun _ => assign (.Name y py) env v >>= fun _ =>
        (eval elt env >>= fun x => call (.builtin "list.append") [acc, x] >>= fun _ => pure ()) >>= fun _ =>
          again (.compLoop (lc2 elt x y px py iter iter2 scope pos) 1 it acc env)) := by rfl
section
variable {prog : Program} {w : World} {A : Around} {R : Result → Shared → Prop} {s : Shared} {elt iter iter2 : Expr} {x y : Str} {px py : Pos} {scope : Scope} {pos : Pos} {it acc : Value} {env : Env}
theorem loop2a (I : Nat → Shared → Prop) (hs : ∀ x, foldedSetIterable iter2 env x = pure x)
    (turn : ∀ n s, I n s → wpAny (model prog w) A (pyNext it) (fun r s₁ => match r with
      | none => R (.ok .next) s₁
      | some v => wpAny (model prog w) A (assign (.Name x px) env v) (fun _ s₂ => wpAny (model prog w) A (eval iter2 env) (fun xv s₃ => wpAny (model prog w) A (pyIter xv) (fun it2 s₄ =>
          codeAny (model prog w) A (.compStart (lc2 elt x y px py iter iter2 scope pos) 1 it2 acc env) (fun r s₅ => match r with | .ok _ => ∃ m, m < n ∧ I m s₅ | .error _ => False) s₄) NoE s₃) NoE s₂) NoE s₁) NoE s)
    (n : Nat) (h : I n s) : codeAny (model prog w) A (.compLoop (lc2 elt x y px py iter iter2 scope pos) 0 it acc env) R s := by
  refine codeAny_loop rfl I (fun n s hI => ?_) n h
  show wpAny _ _ ((compTurn (lc2 elt x y px py iter iter2 scope pos) 0 it acc env).onRaise (fun x => do noteFrame x env; theTreesLotGoes x)) _ _ s
  refine wpAny_noted ?_
  rw [compTurn_two]
  refine wpAny_bind (wpAny_standAt (wpAny_bind (wpAny_mono (turn n s hI) (fun r s₁ h₁ => ?_) fun _ _ h' => h'.elim)))
  cases r with
  | none => exact wpAny_pure h₁
  | some v =>
    refine wpAny_bind (wpAny_pure ?_)
    refine wpAny_bind (wpAny_mono h₁ (fun _ s₂ h₂ => ?_) fun _ _ h' => h'.elim)
    refine wpAny_bind (wpAny_mono h₂ (fun xv s₃ h₃ => ?_) fun _ _ h' => h'.elim)
    refine wpAny_bind (wpAny_standAt (wpAny_bind (wpAny_of_eq (hs xv) ?_)))
    refine wpAny_bind (wpAny_holding (wpAny_mono h₃ (fun it2 s₄ h₄ => ?_) fun _ _ h' => h'.elim))
    refine wpAny_bind (wpAny_runOwn ?_)
    refine codeAny_mono (A := A) h₄ fun r s₅ h₅ => ?_
    cases r with
    | ok f => exact wpAny_pure ⟨rfl, h₅⟩
    | error e => exact h₅.elim
theorem start2 (h0 : codeAny (model prog w) A (.compLoop (lc2 elt x y px py iter iter2 scope pos) 1 it acc env) R s)
    (h : wpAny (model prog w) A (pyIter it) (fun it' s' => codeAny (model prog w) A (.compLoop (lc2 elt x y px py iter iter2 scope pos) 1 it' acc env) R s') NoE s) :
    codeAny (model prog w) A (.compStart (lc2 elt x y px py iter iter2 scope pos) 1 it acc env) R s := by
  refine codeAny_of_tree ?_
  show wpAny _ _ ((compStart (lc2 elt x y px py iter iter2 scope pos) 1 it acc env).onRaise (fun x => do noteFrame x env; standAt theWindowsPlace)) _ _ s
  refine wpAny_notedAt ?_
  unfold compStart
  show wpAny _ _ (ask >>= _) _ _ s
  refine wpAny_bind (wpAny_askSetting (wpAny_ite ?_))
  split
  · first
      | exact wpAny_bind (wpAny_pure (wpAny_pure (And.intro rfl h0)))
      | exact wpAny_pure (And.intro rfl h0)
  · refine wpAny_bind (wpAny_rule ?_)
    show wpAny _ _ (standAt iter2.pos >>= _) _ _ s
    exact wpAny_bind (wpAny_standAt (wpAny_bind (wpAny_mono h (fun it' s' h' => wpAny_pure (And.intro rfl h')) fun _ _ x => x.elim)))
theorem loop2b (I : Nat → Shared → Prop)
    (turn : ∀ n s, I n s → wpAny (model prog w) A (pyNext it) (fun r s₁ => match r with
      | none => R (.ok .next) s₁
      | some v => wpAny (model prog w) A (assign (.Name y py) env v) (fun _ s₂ => wpAny (model prog w) A (eval elt env) (fun x s₃ =>
          wpAny (model prog w) A (call (.builtin "list.append") [acc, x]) (fun _ s₄ => ∃ m, m < n ∧ I m s₄) NoE s₃) NoE s₂) NoE s₁) NoE s)
    (n : Nat) (h : I n s) : codeAny (model prog w) A (.compLoop (lc2 elt x y px py iter iter2 scope pos) 1 it acc env) R s := by
  refine codeAny_loop rfl I (fun n s hI => ?_) n h
  show wpAny _ _ ((compTurn (lc2 elt x y px py iter iter2 scope pos) 1 it acc env).onRaise (fun x => do noteFrame x env; theTreesLotGoes x)) _ _ s
  refine wpAny_noted ?_
  rw [compTurn_two1]
  refine wpAny_bind (wpAny_standAt (wpAny_bind (wpAny_mono (turn n s hI) (fun r s₁ h₁ => ?_) fun _ _ h' => h'.elim)))
  cases r with
  | none => exact wpAny_pure h₁
  | some v =>
    refine wpAny_bind (wpAny_pure ?_)
    exact wpAny_bind (wpAny_mono h₁ (fun _ s₂ h₂ => wpAny_bind (wpAny_bind (wpAny_mono h₂ (fun x s₃ h₃ => wpAny_bind (wpAny_mono h₃
      (fun _ s₄ h₄ => wpAny_pure (wpAny_pure ⟨rfl, h₄⟩)) fun _ _ h' => h'.elim)) fun _ _ h' => h'.elim))) fun _ _ h' => h'.elim)
end
end Mine
/- M3 -/
namespace Mine
open PyProof.Rows PySem PySem.W
section
variable {prog : Program} {w : World} {g : Heap} {A : Around} {b s : Shared} {l : List (Str × Value)} {fs : List (Addr × Obj)} {env : Env} {L : Addr}
/-- the objects at these places -/
def objsAt (h : Heap) (fp : List Addr) : List (Addr × Obj) := fp.filterMap fun y => (h.get? y).map fun o => (y, o)
theorem mem_objsAt {h : Heap} {fp : List Addr} {y : Addr} {o : Obj} : (y, o) ∈ objsAt h fp ↔ (y ∈ fp ∧ h.get? y = some o) := by
  simp only [objsAt, List.mem_filterMap, Option.map_eq_some_iff]
  constructor
  · rintro ⟨z, hz, o', e, q⟩; cases q; exact ⟨hz, e⟩
  · rintro ⟨hz, e⟩; exact ⟨y, hz, o, e, rfl⟩
/-- the inner loop of a comprehension with two -/
theorem inner2 {n : Nat} {P : Nat → Value → Prop} {x y : Str} {px py pos : Pos} {elt iter iter2 : Expr} {scope : Scope} {cenv : Env} {C D : Addr} {fx muO : List (Addr × Obj)} {l₀ : List (Str × Value)} {R : Result → Shared → Prop}
    (pe : PlainEnv cenv C) (hy : cenv.kindOf y = some .local) (hbD : b.heap.objs.size ≤ D) (hfxD : ∀ p ∈ fx, p.1 ≠ D) (hmu : ∀ q ∈ muO, q ∈ fx)
    (J : Nat → List Value → List (Addr × Obj) → Prop) (hJsz : ∀ i vs es, J i vs es → vs.length ≤ sizeLine)
    {I : Addr} {fp : List Addr} {St : Nat → Heap → Prop} (W : Walks prog w A I fp [I] n P St) (hnp : ∀ i h, St i h → ∃ o, h.get? I = some o ∧ NP o) (hfp : ∀ y ∈ fp, (y ≠ 61 ∧ y ≠ 68) ∧ y ≠ C) (hIf : I ∈ fp)
    (hI : b.heap.objs.size ≤ I) (hfpD : ∀ y ∈ fp, y ≠ D) (hfxI : ∀ p ∈ fx, p.1 ≠ I)
    (turn : ∀ j v vs es mu rs s₁, j < n → P j v → J j vs es → (∀ p ∈ es, ∀ q ∈ mu, p.1 ≠ q.1) → Fm g b C ((y, v) :: l₀) (es ++ (fx ++ (mu ++ rs))) s₁ →
      wpAny (model prog w) A (eval elt cenv) (fun z s₂ => ∃ es₂, J (j + 1) (vs ++ [z]) es₂ ∧ (∀ p ∈ es₂, ∀ q ∈ mu, p.1 ≠ q.1) ∧ Fm g b C l₀ (es₂ ++ (fx ++ (mu ++ rs))) s₂) NoE s₁)
    (done : ∀ vs es k s₁, J n vs es → (∀ p ∈ es, p.1 ≠ D ∧ ∀ q ∈ muO, p.1 ≠ q.1) → Fm g b C l₀ ((D, listOf vs.toArray k) :: (es ++ fx)) s₁ → R (.ok .next) s₁)
    {vs₀ : List Value} {es₀ : List (Addr × Obj)} {k₀ : Nat} (hJ0 : J 0 vs₀ es₀) (hes₀ : ∀ p ∈ es₀, p.1 ≠ D ∧ p.1 ≠ I ∧ ∀ q ∈ muO, p.1 ≠ q.1) (hst : St 0 s.heap) (F : Fm g b C l₀ ((D, listOf vs₀.toArray k₀) :: (es₀ ++ fx)) s) :
    codeAny (model prog w) A (.compLoop (lc2 elt x y px py iter iter2 scope pos) 1 (.ref I) (.ref D) cenv) R s := by
  have hCD : D ≠ C := (F.own _ (.head _)).2
  refine loop2b (fun k s₁ => ∃ i vs es kk, i ≤ n ∧ k = n + 1 - i ∧ J i vs es ∧ St i s₁.heap ∧ (∀ p ∈ es, p.1 ≠ D ∧ p.1 ≠ I ∧ ∀ q ∈ muO, p.1 ≠ q.1) ∧ Fm g b C l₀ ((D, listOf vs.toArray kk) :: (es ++ fx)) s₁) ?_ (n + 1) ⟨0, vs₀, es₀, k₀, Nat.zero_le _, rfl, hJ0, hst, hes₀, F⟩
  rintro k s₁ ⟨i, vs, es, kk, hi, rfl, hJ, hS, hes, F₁⟩
  obtain ⟨oI, hoI, npI⟩ := hnp i _ hS
  have hown : ∀ p ∈ ((D, listOf vs.toArray kk) :: (es ++ fx)), p.1 ≠ I := fun p hp => by
    rcases List.mem_cons.mp hp with rfl | hp
    · exact fun q => hfpD I hIf q.symm
    rcases List.mem_append.mp hp with hp | hp
    · exact (hes p hp).2.1
    · exact hfxI p hp
  have hIC := (hfp I hIf).2
  by_cases hlt : i < n
  · refine W.item i s₁ _ _ hlt hS fun v h' tk hP hS' hk' => ?_
    have F₂ := F₁.but (h' := h') (n := tk) hoI npI hI hIC (fun c o hc e => hk' c o (fun hm => hc (List.mem_singleton.mp hm)) e) hown
    obtain ⟨oI', hoI', npI'⟩ := hnp (i + 1) _ hS'
    have hDm : ((D, listOf vs.toArray kk) : Addr × Obj) ∈ (D, listOf vs.toArray kk) :: (I, oI') :: muO := .head _
    have hIm : ((I, oI') : Addr × Obj) ∈ (D, listOf vs.toArray kk) :: (I, oI') :: muO := .tail _ (.head _)
    have F₃ : Fm g b C l₀ (es ++ (fx ++ (((D, listOf vs.toArray kk) :: (I, oI') :: muO) ++ objsAt h' fp))) { s₁ with heap := h', toks := tk } := by
      refine (F₂.add (fs' := objsAt h' fp) fun p hp => ?_).sub fun p hp => ?_
      · obtain ⟨h1, h2⟩ := mem_objsAt.mp hp
        exact ⟨⟨h2, (hfp _ h1).1⟩, (hfp _ h1).2⟩
      · rcases List.mem_append.mp hp with hp | hp
        · exact List.mem_append_right _ (.tail _ (List.mem_append_left _ hp))
        rcases List.mem_append.mp hp with hp | hp
        · exact List.mem_append_right _ (.tail _ (List.mem_append_right _ hp))
        rcases List.mem_append.mp hp with hp | hp
        · rcases List.mem_cons.mp hp with rfl | hp
          · exact List.mem_append_right _ (.head _)
          rcases List.mem_cons.mp hp with rfl | hp
          · exact List.mem_append_left _ (mem_objsAt.mpr ⟨hIf, hoI'⟩)
          · exact List.mem_append_right _ (.tail _ (List.mem_append_right _ (hmu p hp)))
        · exact List.mem_append_left _ hp
    refine wpAny_assign_Name (n_st F₃ pe hy fun s₃ F₄ => ?_)
    refine wpAny_mono (turn i v vs es _ _ s₃ hlt hP hJ (fun p hp q hq => ?_) F₄) (fun z s₄ h₄ => ?_) fun _ _ e => e.elim
    · rcases List.mem_cons.mp hq with rfl | hq
      · exact (hes p hp).1
      rcases List.mem_cons.mp hq with rfl | hq
      · exact (hes p hp).2.1
      · exact (hes p hp).2.2 q hq
    obtain ⟨es₂, hJ₂, hes₂, F₆⟩ := h₄
    have hsz' : vs.toArray.size ≤ sizeLine := by rw [List.size_toArray]; exact hJsz _ _ _ hJ
    refine wpAny_list_append_plain (hsz := hsz') ⟨kk, (F₆.own _ (List.mem_append_right _ (List.mem_append_right _ (List.mem_append_left _ hDm)))).1.1⟩ fun h₅ hl₅ hs₅ => ?_
    obtain ⟨kk', hl₅⟩ := hl₅
    have F₇ : Fm g b C l₀ ((D, listOf vs.toArray kk) :: (es₂ ++ fx)) s₄ := F₆.sub fun p hp => by
      rcases List.mem_cons.mp hp with rfl | hp
      · exact List.mem_append_right _ (List.mem_append_right _ (List.mem_append_left _ hDm))
      rcases List.mem_append.mp hp with hp | hp
      · exact List.mem_append_left _ hp
      · exact List.mem_append_right _ (List.mem_append_left _ hp)
    have F₈ := F₇.chg (n := s₄.toks) (NP.seq rfl) hbD hl₅ hs₅ (fun p hp => by
      rcases List.mem_append.mp hp with hp | hp
      · exact hes₂ p hp _ hDm
      · exact hfxD p hp)
    refine ⟨n + 1 - (i + 1), by omega, i + 1, vs ++ [z], es₂, kk', hlt, rfl, hJ₂, ?_, fun p hp => ⟨hes₂ p hp _ hDm, hes₂ p hp _ hIm, fun q hq => hes₂ p hp q (.tail _ (.tail _ hq))⟩, ?_⟩
    · refine W.frame _ _ _ hS' fun y hy o e => hs₅.extBut y o (hfpD y hy) ?_
      exact (F₆.own (y, o) (List.mem_append_right _ (List.mem_append_right _ (List.mem_append_right _ (mem_objsAt.mpr ⟨hy, e⟩))))).1.1
    · have : (listOf (vs ++ [z]).toArray kk') = listOf (vs.toArray.push z) kk' := by simp
      rw [this]; exact F₈
  · have hin : i = n := by omega
    subst hin
    refine W.done s₁ _ _ hS fun h' tk hk' => ?_
    have F₂ := F₁.but (h' := h') (n := tk) hoI npI hI hIC (fun c o hc e => hk' c o (fun hm => hc (List.mem_singleton.mp hm)) e) hown
    exact done vs es kk _ hJ (fun p hp => ⟨(hes p hp).1, (hes p hp).2.2⟩) F₂
theorem comp2It {n : Nat} {P : Nat → Value → Prop} {n2 : Nat → Nat} {P2 : Nat → Nat → Value → Prop} {x y : Str} {px py pos : Pos} {elt iter iter2 : Expr} {scope : Scope} {cl : List (Str × Addr)} {RR : Value → Addr → Result → Shared → Prop} (hh : A.handled = none)
    (hcell : (scope.names.all fun y => y.2 != .cell) = true) (hkind : scope.kind = .function) (hx : scope.names.lookup x = some .local) (hy : scope.names.lookup y = some .local) (hfold : ∀ C v, foldedSetIterable iter2 (compEnvC scope cl C env) v = pure v) (pe : PlainEnv env L)
    (J : Nat → Nat → List Value → List (Addr × Obj) → Prop) (hJ0 : J 0 0 [] []) (hJn : ∀ i vs es, i < n → J i (n2 i) vs es → J (i + 1) 0 vs es) (hJsz : ∀ i j vs es, J i j vs es → vs.length ≤ sizeLine)
    (it2 : ∀ C i v fs' s₁ Q', i < n → P i v → (∀ p ∈ fs, p ∈ fs') → PlainEnv (compEnvC scope cl C env) C → Fm g b C [(x, v)] fs' s₁ → ItQ prog w g b C [(x, v)] fs' [] (n2 i) (P2 i) Q' →
      wpAny (model prog w) A (eval iter2 (compEnvC scope cl C env)) (fun xv s₂ => wpAny (model prog w) A (pyIter xv) Q' NoE s₂) NoE s₁)
    (turn : ∀ C i j v u vs (es fs' mu : List (Addr × Obj)) s₁, i < n → j < n2 i → P i v → P2 i j u → J i j vs es → (∀ p ∈ es, ∀ q ∈ mu, p.1 ≠ q.1) → (∀ q ∈ mu, q ∈ fs') → (∀ p ∈ fs, p ∈ fs') → PlainEnv (compEnvC scope cl C env) C → Fm g b C [(y, u), (x, v)] (es ++ fs') s₁ →
      wpAny (model prog w) A (eval elt (compEnvC scope cl C env)) (fun z s₂ => ∃ es₂, J i (j + 1) (vs ++ [z]) es₂ ∧ (∀ p ∈ es₂, ∀ q ∈ mu, p.1 ≠ q.1) ∧ Fm g b C [(x, v)] (es₂ ++ fs') s₂) NoE s₁)
    (done : ∀ D C vs es k s₁, J n 0 vs es → s.heap.objs.size ≤ D → (∀ p ∈ es, p.1 ≠ D) → (∃ m, s₁.heap.Ns C m) → b.heap.objs.size ≤ C → C ≠ L → (∀ p ∈ (D, listOf vs.toArray k) :: (es ++ fs), p.1 ≠ C) → Fm g b L l ((D, listOf vs.toArray k) :: (es ++ fs)) s₁ → RR (.ref D) C (.ok .next) s₁)
    {I : Addr} {fp : List Addr} {St : Nat → Heap → Prop} (W : Walks prog w A I fp [I] n P St) (hnp : ∀ i h, St i h → ∃ o, h.get? I = some o ∧ NP o) (hfp : ∀ y ∈ fp, (y ≠ 61 ∧ y ≠ 68) ∧ y ≠ L) (hIf : I ∈ fp)
    (hI : b.heap.objs.size ≤ I) (hfs : ∀ p ∈ fs, p.1 ≠ I) (hlt : ∀ y ∈ fp, y < s.heap.objs.size) (hst : St 0 s.heap) (F : Fm g b L l fs s) :
    wpAny (model prog w) A (newList []) (fun acc s₃ => wpAny (model prog w) A (newFunctionEnv scope env.globals cl [] env.qual none .none (some env)) (fun cenv s₄ =>
      codeAny (model prog w) A (.compStart (lc2 elt x y px py iter iter2 scope pos) 0 (.ref I) acc { cenv with scope := relabel scope env }) (RR acc cenv.locals) s₄) NoE s₃) NoE s := by
  have hcell' : ∀ y ∈ scope.names, y.2 ≠ .cell := fun y hy => by simpa using List.all_eq_true.mp hcell y hy
  refine wpAny_newObj_type (wpAny_newFunctionEnv hcell' (by intro y hy; simp at hy) (fun h₁ hns₁ hsb₁ => ?_) hkind)
  dsimp only at hns₁ hsb₁ ⊢
  generalize hH2 : s.heap.push { cls := .type "list", dict := none, data := .seq ([] : List Value).toArray } = H2 at hns₁ hsb₁ ⊢
  have hC : H2.objs.size = s.heap.objs.size + 1 := by rw [← hH2, Heap.size_push]
  generalize hD : s.heap.objs.size = D at *
  generalize hCC : H2.objs.size = C at *
  have hDC : D ≠ C := by rw [hC]; exact Nat.ne_of_lt (Nat.lt_succ_self _)
  have hbD : b.heap.objs.size ≤ D := hD ▸ F.size
  have hbC : b.heap.objs.size ≤ C := by rw [hC]; exact Nat.le_succ_of_le hbD
  have hLD : L ≠ D := hD ▸ Nat.ne_of_lt F.Llt
  have hLC : L ≠ C := by rw [hC, ← hD]; exact Nat.ne_of_lt (Nat.lt_succ_of_lt F.Llt)
  have hfsD : ∀ p ∈ fs, p.1 ≠ D := hD ▸ F.newNe
  have hfsC : ∀ p ∈ fs, p.1 ≠ C := fun p hp => by rw [hC, ← hD]; exact Nat.ne_of_lt (Nat.lt_succ_of_lt (Heap.lt_size (F.own p hp).1.1))
  have hfpD : ∀ y ∈ fp, y ≠ D := fun y hy => Nat.ne_of_lt (hlt y hy)
  have hfpC : ∀ y ∈ fp, y ≠ C := fun y hy => by rw [hC]; exact Nat.ne_of_lt (Nat.lt_succ_of_lt (hlt y hy))
  have F0 : Fm g b L l ((D, listOf #[] 0) :: fs) { s with heap := H2, toks := s.toks } := by
    have := F.push (o := listOf #[] 0) (n := s.toks) rfl
    rw [hD] at this
    exact hH2 ▸ this
  have F1 := F0.pushQ (o := { cls := .type "dict", data := .dict #[] }) (n := s.toks)
  have hCget : (H2.push { cls := .type "dict", data := .dict #[] }).get? C = some { cls := .type "dict", data := .dict #[] } := by
    have := Heap.get?_push_size H2 (o := { cls := .type "dict", data := .dict #[] }) rfl
    rw [hCC] at this
    exact this
  have F2' := F1.but (h' := h₁) (n := s.toks + ([] : List (Str × Value)).length) (a := C) (o := { cls := .type "dict", data := .dict #[] }) hCget (NP.dict rfl) hbC (Ne.symm hLC) (fun c o hc e => hsb₁.extBut c o hc e) (fun p hp => by
    rcases List.mem_cons.mp hp with rfl | hp
    · exact hDC
    · exact hfsC p hp)
  have F2 : Fm g b L l ((D, listOf #[] 0) :: fs) { s with heap := h₁, toks := s.toks + ([] : List (Str × Value)).length } := F2'
  obtain ⟨oL, hnL, F3⟩ := F2.switch hns₁ hbC (Ne.symm hLC) (fun p hp => by
    rcases List.mem_cons.mp hp with rfl | hp
    · exact hDC
    · exact hfsC p hp)
  have hst₁ : St 0 h₁ := W.frame _ _ _ hst fun y hy o e => hsb₁.extBut y o (hfpC y hy) (Heap.get?_push_of_some _ (hH2 ▸ Heap.get?_push_of_some _ e))
  have pe' : PlainEnv (compEnvC scope cl C env) C := ⟨hkind, pe.g, pe.b, rfl⟩
  have loop : ∀ s₃ : Shared, s₃ = { s with heap := h₁, toks := s.toks + ([] : List (Str × Value)).length } →
      codeAny (model prog w) A (.compLoop (lc2 elt x y px py iter iter2 scope pos) 0 (.ref I) (.ref D) (compEnvC scope cl C env)) (RR (.ref D) C) s₃ := by
    rintro s₃ rfl
    refine loop2a (fun k s₁ => ∃ i vs es kk l', i ≤ n ∧ k = n + 1 - i ∧ J i 0 vs es ∧ St i s₁.heap ∧ (∀ p ∈ es, p.1 ≠ D ∧ p.1 ≠ L ∧ p.1 ≠ I) ∧
      Fm g b C l' ((D, listOf vs.toArray kk) :: (L, oL) :: (es ++ fs)) s₁) (hfold C) ?_ (n + 1) ⟨0, [], [], 0, [], Nat.zero_le _, rfl, hJ0, hst₁, (fun p hp => nomatch hp), F3.sub fun p hp => ?_⟩
    · rintro k s₁ ⟨i, vs, es, kk, l', hi, rfl, hJ, hS, hes, F₁⟩
      obtain ⟨oI, hoI, npI⟩ := hnp i _ hS
      have hown : ∀ p ∈ ((D, listOf vs.toArray kk) :: (L, oL) :: (es ++ fs)), p.1 ≠ I := fun p hp => by
        rcases List.mem_cons.mp hp with rfl | hp
        · exact fun q => hfpD I hIf q.symm
        rcases List.mem_cons.mp hp with rfl | hp
        · exact fun q => (hfp I hIf).2 q.symm
        rcases List.mem_append.mp hp with hp | hp
        · exact (hes p hp).2.2
        · exact hfs p hp
      by_cases hlt' : i < n
      · refine W.item i s₁ _ _ hlt' hS fun v h' tk hP hS' hk' => ?_
        have F₂ := F₁.but (h' := h') (n := tk) hoI npI hI (hfpC I hIf) (fun c o hc e => hk' c o (fun hm => hc (List.mem_singleton.mp hm)) e) hown
        obtain ⟨oI', hoI', npI'⟩ := hnp (i + 1) _ hS'
        let muO : List (Addr × Obj) := [(L, oL), (I, oI')]
        let fx : List (Addr × Obj) := muO ++ (fs ++ objsAt h' fp)
        have F₃ : Fm g b C l' ((D, listOf vs.toArray kk) :: (es ++ fx)) { s₁ with heap := h', toks := tk } := by
          refine (F₂.add (fs' := objsAt h' fp) fun p hp => ?_).sub fun p hp => ?_
          · obtain ⟨h1, h2⟩ := mem_objsAt.mp hp
            exact ⟨⟨h2, (hfp _ h1).1⟩, hfpC _ h1⟩
          · rcases List.mem_cons.mp hp with rfl | hp
            · exact List.mem_append_right _ (.head _)
            rcases List.mem_append.mp hp with hp | hp
            · exact List.mem_append_right _ (.tail _ (.tail _ (List.mem_append_left _ hp)))
            rcases List.mem_append.mp hp with hp | hp
            · rcases List.mem_cons.mp hp with rfl | hp
              · exact List.mem_append_right _ (.tail _ (.head _))
              · rw [List.mem_singleton.mp hp]; exact List.mem_append_left _ (mem_objsAt.mpr ⟨hIf, hoI'⟩)
            rcases List.mem_append.mp hp with hp | hp
            · exact List.mem_append_right _ (.tail _ (.tail _ (List.mem_append_right _ hp)))
            · exact List.mem_append_left _ hp
        refine wpAny_assign_Name (n_st F₃ pe' (lookup_relabel_local hx) fun s₃ F₄ => ?_)
        have F₅ : Fm g b C [(x, v)] ((D, listOf vs.toArray kk) :: (es ++ fx)) s₃ := F₄.weak ⟨by rw [List.lookup_cons, beq_self_eq_true], trivial⟩
        have hfsx : ∀ p ∈ fs, p ∈ fx := fun p hp => List.mem_append_right _ (List.mem_append_left _ hp)
        refine it2 C i v _ s₃ _ hlt' hP (fun p hp => .tail _ (List.mem_append_right _ (hfsx p hp))) pe' F₅ ?_
        intro I2 fp2 St2 s₄ hex W2 hnp2 hfp2 hIf2 hI2 hfs2 hlt2 hst2 F₆
        have hI2D : I2 ≠ D := fun q => hfs2 _ (.head _) q.symm
        have hfp2D : ∀ y ∈ fp2, y ≠ D := fun y hy => (hex y hy).elim (fun e => e ▸ hI2D) fun e => nomatch e
        have inner : codeAny (model prog w) A (.compLoop (lc2 elt x y px py iter iter2 scope pos) 1 (.ref I2) (.ref D) (compEnvC scope cl C env)) (fun r s₅ => match r with
            | .ok _ => ∃ m, m < n + 1 - i ∧ ∃ i vs es kk l', i ≤ n ∧ m = n + 1 - i ∧ J i 0 vs es ∧ St i s₅.heap ∧ (∀ p ∈ es, p.1 ≠ D ∧ p.1 ≠ L ∧ p.1 ≠ I) ∧ Fm g b C l' ((D, listOf vs.toArray kk) :: (L, oL) :: (es ++ fs)) s₅
            | .error _ => False) s₄ := by
          refine inner2 (fx := fx) (muO := muO) pe' (lookup_relabel_local hy) hbD (fun p hp => ?_) (fun q hq => List.mem_append_left _ hq) (J i) (hJsz i) (W2 A hh) hnp2 hfp2 hIf2 hI2 hfp2D (fun p hp => hfs2 p (.tail _ (List.mem_append_right _ hp))) ?_ ?_ hJ (fun p hp => ?_) hst2 F₆
          · rcases List.mem_append.mp hp with hp | hp
            · rcases List.mem_cons.mp hp with rfl | hp
              · exact hLD
              · rw [List.mem_singleton.mp hp]; exact hfpD I hIf
            rcases List.mem_append.mp hp with hp | hp
            · exact hfsD p hp
            · exact hfpD p.1 (mem_objsAt.mp hp).1
          · intro j u vs₁ es₁ mu rs s₅ hj hP2 hJ₁ hes₁ F₇
            exact turn C i j v u vs₁ es₁ _ mu s₅ hlt' hj hP hP2 hJ₁ hes₁ (fun q hq => List.mem_append_right _ (List.mem_append_left _ hq)) (fun p hp => List.mem_append_left _ (hfsx p hp)) pe' F₇
          · intro vs₁ es₁ k₁ s₅ hJ₁ hes₁ F₇
            refine ⟨n + 1 - (i + 1), by omega, i + 1, vs₁, es₁, k₁, [(x, v)], hlt', rfl, hJn i vs₁ es₁ hlt' hJ₁, ?_, fun p hp => ⟨(hes₁ p hp).1, (hes₁ p hp).2 _ (.head _), (hes₁ p hp).2 _ (.tail _ (.head _))⟩, F₇.sub fun p hp => ?_⟩
            · refine W.frame _ _ _ hS' fun y hy o e => ?_
              exact (F₇.own (y, o) (.tail _ (List.mem_append_right _ (List.mem_append_right _ (List.mem_append_right _ (mem_objsAt.mpr ⟨hy, e⟩)))))).1.1
            · rcases List.mem_cons.mp hp with rfl | hp
              · exact .head _
              rcases List.mem_cons.mp hp with rfl | hp
              · exact .tail _ (List.mem_append_right _ (List.mem_append_left _ (.head _)))
              rcases List.mem_append.mp hp with hp | hp
              · exact .tail _ (List.mem_append_left _ hp)
              · exact .tail _ (List.mem_append_right _ (hfsx p hp))
          · refine ⟨(hes p hp).1, hfs2 p (.tail _ (List.mem_append_left _ hp)), fun q hq => ?_⟩
            rcases List.mem_cons.mp hq with rfl | hq
            · exact (hes p hp).2.1
            · rw [List.mem_singleton.mp hq]; exact (hes p hp).2.2
        exact start2 inner ((W2 A hh).self 0 _ _ _ hst2 inner)
      · have hin : i = n := by omega
        subst hin
        refine W.done s₁ _ _ hS fun h' tk hk' => ?_
        have F₂ := F₁.but (h' := h') (n := tk) hoI npI hI (hfpC I hIf) (fun c o hc e => hk' c o (fun hm => hc (List.mem_singleton.mp hm)) e) hown
        obtain ⟨mC, hnC, _⟩ := F₂.ns
        have F₃ : Fm g b L l ((D, listOf vs.toArray kk) :: (es ++ fs)) { s₁ with heap := h', toks := tk } := F₂.back (.tail _ (.head _)) F.nL hnL fun p hp => by
          rcases List.mem_cons.mp hp with rfl | hp
          · exact ⟨.head _, Ne.symm hLD⟩
          rcases List.mem_append.mp hp with hp' | hp'
          · exact ⟨.tail _ (.tail _ hp), (hes p hp').2.1⟩
          · exact ⟨.tail _ (.tail _ hp), (F.own p hp').2⟩
        refine done D C vs es kk _ hJ (Nat.le_refl _) (fun p hp => (hes p hp).1) ⟨mC, hnC⟩ hbC (Ne.symm hLC) (fun p hp => ?_) F₃
        rcases List.mem_cons.mp hp with rfl | hp
        · exact hDC
        · exact (F₂.own p (.tail _ (.tail _ hp))).2
    · rcases List.mem_cons.mp hp with rfl | hp
      · exact .tail _ (.head _)
      rcases List.mem_cons.mp hp with rfl | hp
      · exact .head _
      · exact .tail _ (.tail _ hp)
  exact codeAny_compStart_list (loop _ rfl) (W.self 0 _ _ _ hst₁ (loop _ rfl))
/-- y = [.. for .. for ..]: the store comes before the comprehension's names go -/
theorem x_comp2 {elt iter iter2 : Expr} {x x2 y : Str} {px px2 py : Pos} {scope : Scope} {cl : List (Str × Addr)} {pos spos : Pos} {Q : Flow → Shared → Prop}
    (hsw : swapsWith (lc2 elt x x2 px px2 iter iter2 scope pos) (some (.Name y py)) spos.line env = pure true) (hclos : closureFor scope env = pure cl) (hkind : scope.kind = .function)
    (hnames : (scope.names.all fun y => y.2 != .local || decide (scope.names.lookup y.1 = some .local)) = true) (hs : ∀ x, foldedSetIterable iter env x = pure x)
    (h : wpAny (model prog w) A (eval iter env) (fun xv s₁ => wpAny (model prog w) A (pyIter xv) (fun it s₂ =>
      wpAny (model prog w) A (newList []) (fun acc s₃ => wpAny (model prog w) A (newFunctionEnv scope env.globals cl [] env.qual none .none (some env)) (fun cenv s₄ =>
        codeAny (model prog w) A (.compStart (lc2 elt x x2 px px2 iter iter2 scope pos) 0 it acc { cenv with scope := relabel scope env }) (compPost (model prog w) A NoE (some (assign (.Name y py) env)) (fun _ s' => Q .next s') acc cenv.locals) s₄) NoE s₃) NoE s₂) NoE s₁) NoE s) :
    wpAny (model prog w) A (exec (.Assign [.Name y py] (lc2 elt x x2 px px2 iter iter2 scope pos) spos) env) Q NoE s := by
  rw [exec_Assign_Name_used _ _ _ _ hsw]
  refine wpAny_bind (wpAny_standAt (wpAny_bind ?_))
  show wpAny _ A (do let _ ← comprehension (lc2 elt x x2 px px2 iter iter2 scope pos) scope env _ (newList []) false (eval iter env) (some (assign (.Name y py) env))) _ _ s
  exact wpAny_bind (wpAny_mono (wpAny_comprehension_free (use := some (assign (.Name y py) env)) (Q := fun _ s' => Q .next s') rfl hs hclos hkind (fun y hy hl => by
    have := List.all_eq_true.mp hnames y hy
    rw [hl] at this
    simpa using this) h) (fun _ s' hq => wpAny_pure (wpAny_pure hq)) fun _ _ e => e)
theorem comp2S {ex : List Addr} {n : Nat} {P : Nat → Value → Prop} {n2 : Nat → Nat} {P2 : Nat → Nat → Value → Prop} {x x2 y : Str} {px px2 py pos : Pos} {elt iter iter2 : Expr} {scope : Scope} {cl : List (Str × Addr)} {Q : Shared → Prop} (hh : A.handled = none)
    (hcell : (scope.names.all fun y => y.2 != .cell) = true) (hkind : scope.kind = .function) (hx : scope.names.lookup x = some .local) (hx2 : scope.names.lookup x2 = some .local) (hfold : ∀ C v, foldedSetIterable iter2 (compEnvC scope cl C env) v = pure v) (pe : PlainEnv env L) (hy : env.kindOf y = some .local)
    (J : Nat → Nat → List Value → List (Addr × Obj) → Prop) (hJ0 : J 0 0 [] []) (hJn : ∀ i vs es, i < n → J i (n2 i) vs es → J (i + 1) 0 vs es) (hJsz : ∀ i j vs es, J i j vs es → vs.length ≤ sizeLine)
    (it2 : ∀ C i v fs' s₁ Q', i < n → P i v → (∀ p ∈ fs, p ∈ fs') → PlainEnv (compEnvC scope cl C env) C → Fm g b C [(x, v)] fs' s₁ → ItQ prog w g b C [(x, v)] fs' [] (n2 i) (P2 i) Q' →
      wpAny (model prog w) A (eval iter2 (compEnvC scope cl C env)) (fun xv s₂ => wpAny (model prog w) A (pyIter xv) Q' NoE s₂) NoE s₁)
    (turn : ∀ C i j v u vs (es fs' mu : List (Addr × Obj)) s₁, i < n → j < n2 i → P i v → P2 i j u → J i j vs es → (∀ p ∈ es, ∀ q ∈ mu, p.1 ≠ q.1) → (∀ q ∈ mu, q ∈ fs') → (∀ p ∈ fs, p ∈ fs') → PlainEnv (compEnvC scope cl C env) C → Fm g b C [(x2, u), (x, v)] (es ++ fs') s₁ →
      wpAny (model prog w) A (eval elt (compEnvC scope cl C env)) (fun z s₂ => ∃ es₂, J i (j + 1) (vs ++ [z]) es₂ ∧ (∀ p ∈ es₂, ∀ q ∈ mu, p.1 ≠ q.1) ∧ Fm g b C [(x, v)] (es₂ ++ fs') s₂) NoE s₁)
    (done : ∀ D vs es k s₁, J n 0 vs es → (∀ p ∈ fs, p.1 ≠ D) → (∀ p ∈ es, p.1 ≠ D) → b.heap.objs.size ≤ D → Fm g b L ((y, .ref D) :: l) ((D, listOf vs.toArray k) :: (es ++ fs)) s₁ → Q s₁) :
    ItQ prog w g b L l fs ex n P (fun it s₂ => wpAny (model prog w) A (newList []) (fun acc s₃ => wpAny (model prog w) A (newFunctionEnv scope env.globals cl [] env.qual none .none (some env)) (fun cenv s₄ =>
        codeAny (model prog w) A (.compStart (lc2 elt x x2 px px2 iter iter2 scope pos) 0 it acc { cenv with scope := relabel scope env }) (compPost (model prog w) A NoE (some (assign (.Name y py) env)) (fun _ s' => Q s') acc cenv.locals) s₄) NoE s₃) NoE s₂) := by
  intro I fp St s' _ W hnp hfp hIf hI hfs hlt hst F
  refine comp2It hh hcell hkind hx hx2 hfold pe J hJ0 hJn hJsz it2 turn (fun D C vs es k s₁ hJ hD hes hC hbC hCL hpC F' => ?_) (W A hh) hnp hfp hIf hI hfs hlt hst F
  obtain ⟨m, oC, eC, epC, hoC, hdC, rC⟩ := hC
  show wpAny _ A (assign (.Name y py) env (.ref D)) _ _ _
  have F'' := F'.has ⟨hoC, ne2 (Nat.lt_of_lt_of_le F'.lb hbC)⟩ hCL
  refine wpAny_assign_Name (n_st F'' pe hy fun s₂ F₂ => ?_)
  have hC₂ := (F₂.own _ (.head _)).1.1
  refine ⟨m, ⟨oC, eC, epC, hC₂, hdC, rC⟩, fun h' hs' => done D vs es k _ hJ (F.fresh (Heap.get?_none_of_le hD)) hes (Nat.le_trans F.size hD) ?_⟩
  exact (F₂.sub fun p hp => .tail _ hp).but (n := s₂.toks) hC₂ (NP.dict hdC) hbC hCL (fun c o hc e => hs'.extBut c o hc e) hpC
/-- x = [..] in a local, the store ahead of the names' going -/
theorem compK {ex : List Addr} {n : Nat} {P : Nat → Value → Prop} {x y : Str} {px py : Pos} {elt iter : Expr} {scope : Scope} {pos : Pos} {cl : List (Str × Addr)} {Q : Shared → Prop} (hh : A.handled = none)
    (hcell : (scope.names.all fun y => y.2 != .cell) = true) (hkind : scope.kind = .function) (hx : scope.names.lookup x = some .local) (hsz : n ≤ sizeLine) (pe : PlainEnv env L) (hy : env.kindOf y = some .local)
    (J : Nat → List Value → List (Addr × Obj) → Prop) (hJ0 : J 0 [] [])
    (turn : ∀ C i v vs es mu rs s₁, i < n → P i v → vs.length = i → J i vs es → (∀ p ∈ es, ∀ q ∈ mu, p.1 ≠ q.1) → PlainEnv (compEnvC scope cl C env) C → Fm g b C [(x, v)] (es ++ (fs ++ (mu ++ rs))) s₁ →
      wpAny (model prog w) A (eval elt (compEnvC scope cl C env)) (fun y s₂ => ∃ es₂ l₂, J (i + 1) (vs ++ [y]) es₂ ∧ (∀ p ∈ es₂, ∀ q ∈ mu, p.1 ≠ q.1) ∧ Fm g b C l₂ (es₂ ++ (fs ++ (mu ++ rs))) s₂) NoE s₁)
    (done : ∀ D vs es k s₁, J n vs es → vs.length = n → (∀ p ∈ fs, p.1 ≠ D) → (∀ p ∈ es, p.1 ≠ D) → b.heap.objs.size ≤ D → Fm g b L ((y, .ref D) :: l) ((D, listOf vs.toArray k) :: (es ++ fs)) s₁ → Q s₁) :
    ItQ prog w g b L l fs ex n P (fun it s₂ => CompB prog w A env elt iter x px scope cl pos (fun acc C => compPost (model prog w) A NoE (some (assign (.Name y py) env)) (fun _ s' => Q s') acc C) it s₂) :=
  compS (Q := fun _ => Q) hh hcell hkind hx hsz pe hy J hJ0 turn done
end
end Mine
/- MLaw -/
namespace Mine
open PyProof.Rows PySem PySem.W
/-- the last place that fits -/
def fitStep (size col : Nat) (acc : Option Nat) (f : Nat) : Option Nat := if f < col ∧ f + size ≤ col then some f else acc
def lastFit (size col : Nat) (acc : Option Nat) (fs : List Nat) : Option Nat := fs.foldl (fitStep size col) acc
theorem lastFit_none {size col : Nat} : ∀ {fs : List Nat} {acc : Option Nat}, (∀ f ∈ fs, ¬ (f < col ∧ f + size ≤ col)) → lastFit size col acc fs = acc
  | [], _, _ => rfl
  | f :: r, acc, h => by
    show lastFit size col (fitStep size col acc f) r = acc
    rw [fitStep, if_neg (h f (.head _))]
    exact lastFit_none fun g hg => h g (.tail _ hg)
theorem dueRow_fit (size bound k : Nat) : ∀ (fs : List Nat) (o : Option (Nat × Nat)) (acc : Option Nat), dueRow size bound k (match acc with | some f => some (k, f) | none => o) fs = match lastFit size bound acc fs with | some f => some (k, f) | none => o
  | [], o, acc => rfl
  | f :: r, o, acc => by
    show dueRow size bound k (dueStep size bound k _ f) r = match lastFit size bound (fitStep size bound acc f) r with | some f => some (k, f) | none => o
    rw [← dueRow_fit size bound k r o (fitStep size bound acc f)]
    congr 1
    unfold dueStep fitStep
    split <;> rfl
/-- the search backwards over the places from the front, the word not empty -/
theorem revGo_greedy {word row : List Nat} (hw : word ≠ []) (col : Nat) : ∀ n found k, row.length < k + n → srch word row k = some k →
    revGo (srch word row) word.length col n found k = lastFit word.length col found (k :: greedy word row (k + word.length) n)
  | 0, found, k, hn, hk => by
    have := (srch_some hk).2.1.1
    omega
  | n + 1, found, k, hn, hk => by
    have hwl : 0 < word.length := List.length_pos_iff.mpr hw
    rw [revGo]
    show _ = lastFit word.length col (fitStep word.length col found k) (greedy word row (k + word.length) (n + 1))
    rw [if_neg (by omega : ¬ word.length = 0)]
    by_cases hc : k < col ∧ k + word.length ≤ col
    · rw [if_pos hc, fitStep, if_pos hc, greedy]
      cases hs : srch word row (k + word.length) with
      | none => rfl
      | some c =>
        obtain ⟨h1, h2, h3⟩ := srch_some hs
        refine (revGo_greedy hw col n (some k) c (by omega) (srch_eq (Nat.le_refl _) h2 fun j j1 j2 => by omega)).trans ?_
        rfl
    · rw [if_neg hc, fitStep, if_neg hc]
      refine (lastFit_none fun f hf => ?_).symm
      have := (greedy_le word row _ _ f hf).1
      omega
theorem revGo_empty {row : List Nat} (col : Nat) : ∀ n found k, row.length + 1 ≤ k + n → k ≤ row.length → 
    revGo (srch [] row) 0 col n found k = lastFit 0 col found (List.range' k (row.length + 1 - k))
  | 0, found, k, hn, hk => by omega
  | n + 1, found, k, hn, hk => by
    rw [revGo, if_pos rfl, show row.length + 1 - k = (row.length - k) + 1 by omega, List.range'_succ]
    show _ = lastFit 0 col (fitStep 0 col found k) (List.range' (k + 1) (row.length - k))
    by_cases hc : k < col ∧ k + 0 ≤ col
    · rw [if_pos hc, fitStep, if_pos hc]
      by_cases hl : k + 1 ≤ row.length
      · rw [srch_eq (word := []) (row := row) (k := k + 1) (c := k + 1) (Nat.le_refl _) ⟨by simpa using hl, by simp⟩ fun j j1 j2 => by omega]
        show revGo _ 0 col n (some k) (k + 1) = _
        rw [revGo_empty col n (some k) (k + 1) (by omega) hl, show row.length + 1 - (k + 1) = row.length - k by omega]
      · rw [srch_eq_none fun j j1 hh => by have := hh.1; simp at this; omega, show row.length - k = 0 by omega]
        rfl
    · rw [if_neg hc, fitStep, if_neg hc]
      refine (lastFit_none fun f hf => ?_).symm
      have := List.mem_range'_1.mp hf
      omega
theorem srev_fit (word row : List Nat) (col : Nat) : srev (srch word row) word.length col (row.length + 1) = lastFit word.length col none (firstsOf word row) := by
  unfold srev firstsOf
  by_cases hw : word = []
  · subst hw
    rw [if_pos rfl, srch_eq (word := []) (row := row) (k := 0) (c := 0) (Nat.le_refl _) ⟨by simp, by simp⟩ fun j j1 j2 => by omega]
    show revGo _ 0 col (row.length + 1) none 0 = _
    rw [revGo_empty col _ none 0 (by omega) (Nat.zero_le _), List.range_eq_range']
    rfl
  · rw [if_neg hw, greedy]
    cases hs : srch word row 0 with
    | none => rfl
    | some k =>
      obtain ⟨h1, h2, h3⟩ := srch_some hs
      show revGo _ _ col (row.length + 1) none k = _
      have hk := srch_eq (k := k) (Nat.le_refl _) h2 fun j j1 j2 => by omega
      have e1 := revGo_greedy hw col (row.length + 1) none k (by omega) hk
      rw [e1]
      -- one turn more or less of fuel makes no difference
      have fuel : ∀ n m a, row.length < a + n → row.length < a + m → greedy word row a n = greedy word row a m := by
        have hwl : 0 < word.length := List.length_pos_iff.mpr hw
        intro n
        induction n with
        | zero =>
          intro m a h1 h2
          cases m with
          | zero => rfl
          | succ m => rw [greedy, greedy, srch_eq_none fun j j1 hh => by have := hh.1; omega]
        | succ n ih =>
          intro m a h1 h2
          cases m with
          | zero => rw [greedy, greedy, srch_eq_none fun j j1 hh => by have := hh.1; omega]
          | succ m =>
            rw [greedy, greedy]
            cases hs : srch word row a with
            | none => rfl
            | some c =>
              have := srch_some hs
              exact congrArg (c :: ·) (ih m _ (by omega) (by omega))
      rw [fuel (row.length + 1) row.length (k + word.length) (by omega) (by have := List.length_pos_iff.mpr hw; omega)]
/-- what is told is what is due -/
theorem told_due (word : List Nat) (rows : List (List Nat)) (k₀ col₀ : Nat) (hk : k₀ < rows.length) :
    foundAt word rows (k₀ + 1) col₀ = dueGo rows (rows.map (firstsOf word)) word.length k₀ col₀ (k₀ + 1) := by
  suffices H : ∀ n, n ≤ k₀ → foundAt word rows (n + 1) (if n = k₀ then col₀ else (rows.getD n []).length) = dueGo rows (rows.map (firstsOf word)) word.length k₀ col₀ (n + 1) by
    have := H k₀ (Nat.le_refl _)
    rwa [if_pos rfl] at this
  intro n
  induction n with
  | zero =>
    intro _
    obtain ⟨row, hrow⟩ : ∃ row, rows[0]? = some row := ⟨_, List.getElem?_eq_getElem (by omega)⟩
    have e1 : rows.getD 0 [] = row := by rw [List.getD_eq_getElem?_getD, hrow]; rfl
    have e2 : (rows.map (firstsOf word)).getD 0 [] = firstsOf word row := by rw [List.getD_eq_getElem?_getD, List.getElem?_map, hrow]; rfl
    rw [foundAt, dueGo, e1, e2, srev_fit]
    have := dueRow_fit word.length (if 0 = k₀ then col₀ else row.length) 0 (firstsOf word row) none none
    show _ = dueRow word.length (if 0 = k₀ then col₀ else row.length) 0 none (firstsOf word row)
    refine Eq.trans ?_ this.symm
    cases lastFit word.length (if 0 = k₀ then col₀ else row.length) none (firstsOf word row) <;> rfl
  | succ n ih =>
    intro hn
    obtain ⟨row, hrow⟩ : ∃ row, rows[n + 1]? = some row := ⟨_, List.getElem?_eq_getElem (by omega)⟩
    have e1 : rows.getD (n + 1) [] = row := by rw [List.getD_eq_getElem?_getD, hrow]; rfl
    have e2 : (rows.map (firstsOf word)).getD (n + 1) [] = firstsOf word row := by rw [List.getD_eq_getElem?_getD, List.getElem?_map, hrow]; rfl
    have ih' := ih (by omega)
    rw [if_neg (by omega : ¬ n = k₀)] at ih'
    rw [foundAt, dueGo, e1, e2, srev_fit, ← ih', show n + 1 - 1 = n by omega]
    have := dueRow_fit word.length (if n + 1 = k₀ then col₀ else row.length) (n + 1) (firstsOf word row) (foundAt word rows (n + 1) (rows.getD n []).length) none
    refine Eq.trans ?_ this.symm
    cases lastFit word.length (if n + 1 = k₀ then col₀ else row.length) none (firstsOf word row) <;> rfl
end Mine
/- M4 -/
namespace Mine
open PyProof.Rows PySem PySem.Builtin PySem.Builtin.Str PySem.StrLaws PySem.W
theorem RowsAre.strs {vs : List Value} {rs : List (List Nat)} (h : RowsAre vs rs) : ∃ ls, vs = strValues ls ∧ ls.map (·.1) = rs.map fun r => (⟨r.toArray⟩ : Str) := by
  induction h with
  | nil => exact ⟨[], rfl, rfl⟩
  | cons r t _ ih =>
    obtain ⟨ls, h1, h2⟩ := ih
    exact ⟨(⟨r.toArray⟩, t) :: ls, by rw [h1]; rfl, by rw [List.map_cons, h2]; rfl⟩
theorem join_empty : ∀ rs : List (List Nat), Txt.join (Str.ofString "") (rs.map fun r => (⟨r.toArray⟩ : Str)) = ⟨rs.flatten.toArray⟩ := by
  have e : (Str.ofString "").cps = #[] := by decide
  intro rs
  rw [Txt.join, glued_eq_join]
  induction rs with
  | nil => rfl
  | cons r rs ih =>
    cases rs with
    | nil => simp [Str.join]
    | cons q rs =>
      show (⟨r.toArray⟩ ++ Str.ofString "" ++ Str.join (Str.ofString "") ((q :: rs).map fun r => (⟨r.toArray⟩ : Str)) : Str) = _
      rw [ih]
      refine Str.ext' ?_
      rw [Str.cps_append, Str.cps_append, e]
      simp
theorem flat_len (m : Nat) : ∀ rs : List (List Nat), (∀ r ∈ rs, r.length ≤ m) → rs.flatten.length ≤ rs.length * m
  | [], _ => by simp
  | r :: rs, h => by
    have h1 := h r (.head _)
    have h2 := flat_len m rs fun q hq => h q (.tail _ hq)
    rw [List.flatten_cons, List.length_append, List.length_cons, Nat.add_mul]; omega
section
variable {prog : Program} {w : World} {g : Heap} {A : Around} {b s : Shared} {l : List (Str × Value)} {fs : List (Addr × Obj)} {env : Env} {L : Addr} {pos : Pos} {Q : Value → Shared → Prop} {E : Value → Shared → Prop}
theorem o_eqD {a c : Addr} {vs ws : List Value} {k k' : Nat} {n₁ n₂ : List (Addr × Obj)} {ds : List Dat} (F : Fm g b L l fs s) (ha : (a, listOf vs.toArray k) ∈ fs) (hc : (c, listOf ws.toArray k') ∈ fs) (Da : DatAll n₁ vs ds) (sa : ∀ p ∈ n₁, p ∈ fs) (Db : DatAll n₂ ws ds) (sb : ∀ p ∈ n₂, p ∈ fs)
    (hok : ∀ d ∈ ds, kqdOk 8 d = true) (hu : A.units + 64 < cLine) (h : Q (.bool true) s) : wpAny (model prog w) A (compareOp .Eq (.ref a) (.ref c)) Q E s := by
  obtain ⟨m, F1, N1, _⟩ := F.fr
  have at' : ∀ p ∈ fs, p ∈ allObjs s.heap L := fun p hp => mem_allObjs.mpr ⟨(F.own p hp).1.1, (F.own p hp).2⟩
  refine kqd_eq N1 (at' _ ha) rfl rfl Da (fun p hp => at' p (sa p hp)) (at' _ hc) rfl rfl Db (fun p hp => at' p (sb p hp)) hok hok hu ?_
  simpa using h
end
theorem datOf_ok (head size : Nat) : ∀ o, kqdOk 8 (datOf head size o) = true
  | none => rfl
  | some _ => rfl
theorem adrNe (L : Addr) (i j : Nat) (h : i ≠ j) : (show Nat from L) + i ≠ (show Nat from L) + j := fun e => h (Nat.add_left_cancel e)
/-- the law's five cells -/
abbrev cells5 (L : Addr) (o5 o4 o3 o2 o1 : Obj) : List (Addr × Obj) := [(L + 1 + 1 + 1 + 1 + 1, o5), (L + 1 + 1 + 1 + 1, o4), (L + 1 + 1 + 1, o3), (L + 1 + 1, o2), (L + 1, o1)]
section
variable {L : Addr} {o5 o4 o3 o2 o1 o' : Obj}
theorem upd1 : Upd (L + 1) o1 o' (cells5 L o5 o4 o3 o2 o1) (cells5 L o5 o4 o3 o2 o') :=
  .tail (by exact adrNe L 5 1 (by decide)) (.tail (by exact adrNe L 4 1 (by decide)) (.tail (by exact adrNe L 3 1 (by decide)) (.tail (by exact adrNe L 2 1 (by decide)) (.head fun _ hp => nomatch hp))))
theorem upd2 : Upd (L + 1 + 1) o2 o' (cells5 L o5 o4 o3 o2 o1) (cells5 L o5 o4 o3 o' o1) :=
  .tail (by exact adrNe L 5 2 (by decide)) (.tail (by exact adrNe L 4 2 (by decide)) (.tail (by exact adrNe L 3 2 (by decide)) (.head fun p hp => by
    rw [List.mem_singleton.mp hp]; exact adrNe L 1 2 (by decide))))
theorem upd3 : Upd (L + 1 + 1 + 1) o3 o' (cells5 L o5 o4 o3 o2 o1) (cells5 L o5 o4 o' o2 o1) :=
  .tail (by exact adrNe L 5 3 (by decide)) (.tail (by exact adrNe L 4 3 (by decide)) (.head fun p hp => by
    rcases List.mem_cons.mp hp with rfl | hp
    · exact adrNe L 2 3 (by decide)
    · rw [List.mem_singleton.mp hp]; exact adrNe L 1 3 (by decide)))
theorem upd4 : Upd (L + 1 + 1 + 1 + 1) o4 o' (cells5 L o5 o4 o3 o2 o1) (cells5 L o5 o' o3 o2 o1) :=
  .tail (by exact adrNe L 5 4 (by decide)) (.head fun p hp => by
    rcases List.mem_cons.mp hp with rfl | hp
    · exact adrNe L 3 4 (by decide)
    rcases List.mem_cons.mp hp with rfl | hp
    · exact adrNe L 2 4 (by decide)
    · rw [List.mem_singleton.mp hp]; exact adrNe L 1 4 (by decide))
theorem upd5 : Upd (L + 1 + 1 + 1 + 1 + 1) o5 o' (cells5 L o5 o4 o3 o2 o1) (cells5 L o' o4 o3 o2 o1) :=
  .head fun p hp => by
    rcases List.mem_cons.mp hp with rfl | hp
    · exact adrNe L 4 5 (by decide)
    rcases List.mem_cons.mp hp with rfl | hp
    · exact adrNe L 3 5 (by decide)
    rcases List.mem_cons.mp hp with rfl | hp
    · exact adrNe L 2 5 (by decide)
    · rw [List.mem_singleton.mp hp]; exact adrNe L 1 5 (by decide)
end
theorem updPre {d : Addr} {o o' : Obj} {r r' : List (Addr × Obj)} (h : Upd d o o' r r') : ∀ {l : List (Addr × Obj)}, (∀ p ∈ l, p.1 ≠ d) → Upd d o o' (l ++ r) (l ++ r')
  | [], _ => h
  | p :: l, k => .tail (k p (.head _)) (updPre h fun q hq => k q (.tail _ hq))
end Mine
/- M5 -/
namespace Mine
open PyProof.Rows PySem PySem.W
/-- every place of the first rows -/
def plc (rows : List (List Nat)) : Nat → List (Nat × Nat)
  | 0 => []
  | i + 1 => plc rows i ++ (List.range ((rows.getD i []).length + 2)).map fun c => (i, c)
theorem getD_le {rows : List (List Nat)} {m : Nat} (h : ∀ r ∈ rows, r.length ≤ m) (i : Nat) : (rows.getD i []).length ≤ m := by
  rw [List.getD_eq_getElem?_getD]
  cases e : rows[i]? with
  | none => simp
  | some r => exact h r (List.mem_of_getElem? e)
theorem plc_len {rows : List (List Nat)} (h : ∀ r ∈ rows, r.length ≤ 18) : ∀ i, (plc rows i).length ≤ 20 * i
  | 0 => Nat.le_refl _
  | i + 1 => by
    have := plc_len h i
    have := getD_le h i
    rw [plc, List.length_append, List.length_map, List.length_range]; omega
theorem plc_mem {rows : List (List Nat)} (h : ∀ r ∈ rows, r.length ≤ 18) : ∀ i, ∀ p ∈ plc rows i, p.1 < i ∧ p.2 < 20
  | 0, p, hp => nomatch hp
  | i + 1, p, hp => by
    rw [plc] at hp
    rcases List.mem_append.mp hp with hp | hp
    · have := plc_mem h i p hp
      omega
    · obtain ⟨c, hc, rfl⟩ := List.mem_map.mp hp
      have := List.mem_range.mp hc
      have := getD_le h i
      exact ⟨Nat.lt_succ_self _, by show c < 20; omega⟩
/-- values that are pairs of numbers -/
def PlacesAre (fs : List (Addr × Obj)) (vs : List Value) (ps : List (Nat × Nat)) : Prop :=
  vs.length = ps.length ∧ ∀ (t : Nat) p, ps[t]? = some p → ∃ P tk tc, vs[t]? = some (.ref P) ∧ (P, tupOf #[.int (p.1 : Nat) tk, .int (p.2 : Nat) tc]) ∈ fs
theorem PlacesAre.nil : PlacesAre [] [] [] := ⟨rfl, fun t p e => by simp at e⟩
theorem PlacesAre.mono {fs fs' : List (Addr × Obj)} {vs : List Value} {ps : List (Nat × Nat)} (h : PlacesAre fs vs ps) (k : ∀ p ∈ fs, p ∈ fs') : PlacesAre fs' vs ps :=
  ⟨h.1, fun t p e => by obtain ⟨P, tk, tc, h1, h2⟩ := h.2 t p e; exact ⟨P, tk, tc, h1, k _ h2⟩⟩
theorem PlacesAre.snoc {fs : List (Addr × Obj)} {vs : List Value} {ps : List (Nat × Nat)} {P : Addr} {k c : Nat} {tk tc : Tok} (h : PlacesAre fs vs ps) : PlacesAre ((P, tupOf #[.int (k : Nat) tk, .int (c : Nat) tc]) :: fs) (vs ++ [.ref P]) (ps ++ [(k, c)]) := by
  refine ⟨by simp [h.1], fun t p e => ?_⟩
  by_cases ht : t < ps.length
  · rw [List.getElem?_append_left ht] at e
    obtain ⟨P', tk', tc', h1, h2⟩ := h.2 t p e
    exact ⟨P', tk', tc', by rw [List.getElem?_append_left (by rw [h.1]; exact ht)]; exact h1, .tail _ h2⟩
  · have : t = ps.length := by
      have := (List.getElem?_eq_some_iff.mp e).1
      simp at this; omega
    subst this
    rw [List.getElem?_append_right (Nat.le_refl _), Nat.sub_self] at e
    obtain rfl : (k, c) = p := by simpa using e
    exact ⟨P, tk, tc, by rw [List.getElem?_append_right (by rw [h.1]; exact Nat.le_refl _), h.1, Nat.sub_self]; rfl, .head _⟩
theorem PlacesAre.next {fs : List (Addr × Obj)} {vs : List Value} {ps : List (Nat × Nat)} {P : Addr} {k c : Nat} {tk tc : Tok} (h : PlacesAre fs vs (ps ++ (List.range c).map fun c => (k, c))) :
    PlacesAre ((P, tupOf #[.int (k : Nat) tk, .int (c : Nat) tc]) :: fs) (vs ++ [.ref P]) (ps ++ (List.range (c + 1)).map fun c => (k, c)) := by
  have := h.snoc (P := P) (k := k) (c := c) (tk := tk) (tc := tc)
  rw [List.range_succ, List.map_append, ← List.append_assoc]
  exact this
end Mine
/- F97 -/
namespace Mine
open PyProof.Rows PySem PySem.Builtin PySem.Builtin.Str PySem.StrLaws PySem.W
local macro_rules | `(tactic| walk_at "mem") => `(tactic| first | exact List.Mem.head _ | (refine List.Mem.tail _ ?_; walk_at "mem"))
local macro_rules | `(tactic| walk_at "m") => `(tactic| first
  | (with_reducible refine wpAny_execs_cons ?_)
  | (with_reducible refine wpAny_execs_nil ?_)
  | ((with_reducible refine x_assign ?hs ?_); (case hs => rfl))
  | (with_reducible refine wpAny_AugAssign_Name ?_)
  | (with_reducible refine wpAny_If ?_)
  | (with_reducible refine wpAny_Return_some ?_)
  | (with_reducible refine a_cons ?_)
  | (with_reducible refine a_nil ?_)
  | ((with_reducible refine k_type0 ?hs ?_); (case hs => rfl))
  | ((with_reducible refine k_bi0 ?hs ?_); (case hs => rfl))
  | ((with_reducible refine' k_def0 (by assumption) ?hk ?hs ?_); (case hk => rfl); (case hs => rfl))
  | (with_reducible refine wpAny_Call_NameR ?_)
  | (with_reducible refine wpAny_BinOp ?_)
  | (with_reducible refine wpAny_UnaryOp ?_)
  | ((with_reducible refine e_list ?hs ?_); (case hs => rfl))
  | ((with_reducible refine e_tuple ?hs ?_); (case hs => rfl))
  | ((with_reducible refine' e_comp ?hc ?hk ?hn ?hs ?_); (case hc => rfl); (case hk => rfl); (case hn => rfl); (case hs => intro _; rfl))
  | ((with_reducible refine u_ord (by assumption) ?_); intro _ _ _)
  | ((with_reducible refine i_plain ?hs ?_); (case hs => rfl))
  | ((with_reducible refine' n_ld (by assumption) (by assumption) ?h1 ?h2 ?_ ?h3); (case h1 => rfl); (case h2 => rfl); (case h3 => decide))
  | ((with_reducible refine' n_ldn (by assumption) (by assumption) ?h1 ?h2 ?_); (case h1 => rfl); (case h2 => rfl))
  | ((with_reducible refine' n_ldc (by assumption) (by assumption) ?h1 ?h2 ?h4 ?_ ?h3); (case h1 => rfl); (case h2 => rfl); (case h4 => walk_at "mem"); (case h3 => decide))
  | ((with_reducible refine' n_ldf (by assumption) (by assumption) ?h1 ?h2 ?h4 ?_ ?h3 ?h5); (case h1 => rfl); (case h2 => rfl); (case h4 => walk_at "mem"); (case h3 => decide); (case h5 => decide))
  | ((with_reducible refine n_st (by assumption) (by assumption) ?h1 ?_); (case h1 => rfl); intro _ _)
  | (with_reducible refine wpAny_Constant_none ?_)
  | (with_reducible refine wpAny_Break ?_)
  | (with_reducible refine truthy_none ?_)
  | (with_reducible refine wpAny_isTrue_Not ?_)
  | (with_reducible refine wpAny_isTrue_BoolOp ?_)
  | (with_reducible refine wpAny_allTrue_And_cons ?_)
  | (with_reducible refine wpAny_allTrue_And_nil ?_)
  | ((with_reducible refine c_int (by assumption) ?_); intro _ _ _)
  | ((with_reducible refine c_str (by assumption) ?_); intro _ _ _)
  | ((with_reducible refine o_add (by assumption) ?_); intro _ _ _)
  | ((with_reducible refine o_sub (by assumption) ?_); intro _ _ _)
  | ((with_reducible refine o_and (by assumption) ?_); intro _ _ _)
  | ((with_reducible refine o_xor (by assumption) ?_); intro _ _ _)
  | ((with_reducible refine o_shr (by decide) (by assumption) ?_); intro _ _ _)
  | ((with_reducible refine o_ishr (by decide) (by assumption) ?_); intro _ _ _)
  | ((with_reducible refine o_mul (Or.inr (by decide)) (by assumption) ?_); intro _ _ _)
  | ((with_reducible refine o_mul (Or.inl (by decide)) (by assumption) ?_); intro _ _ _)
  | ((with_reducible refine o_fdiv (by decide) (by decide) (by assumption) ?_); intro _ _ _)
  | ((with_reducible refine o_mod (by decide) (by assumption) ?_); intro _ _ _)
  | ((with_reducible refine o_pow (by decide) (by decide) (by decide) (by assumption) ?_); intro _ _ _)
  | ((with_reducible refine o_neg (by assumption) ?_); intro _ _ _)
  | ((with_reducible refine u_len (by assumption) (by omega) ?_); intro _ _ _)
  | (with_reducible refine j_eq ?_)
  | (with_reducible refine j_lt ?_)
  | (with_reducible refine j_le ?_)
  | (with_reducible refine j_ge ?_)
  | (with_reducible refine j_tr ?_)
  | ((with_reducible refine i_cmp ?hs ?_); (case hs => rfl))
  | ((with_reducible refine e_cmp ?hs ?_); (case hs => rfl))
  | ((with_reducible refine x_tup2S ?hs ?hw ?_); (case hs => rfl); (case hw => rfl))
  | ((with_reducible refine x_tup2 ?hs ?hw ?_); (case hs => rfl); (case hw => rfl))
  | ((with_reducible refine x_asub ?hs ?_); (case hs => rfl))
  | ((with_reducible refine x_expr ?hi ?hs ?_); (case hi => rfl); (case hs => rfl))
  | ((with_reducible refine Subscript_Slice ?_ ?ht); (case ht => intro _ _; rfl))
  | (with_reducible refine wpAny_Slice ?_)
  | (with_reducible refine evalPart_some_step ?_)
  | (with_reducible refine evalPart_none_step ?_)
  | (with_reducible refine Subscript_ ?_)
  | (with_reducible refine ao_name ?_)
  | (with_reducible refine ao_asg ?_)
  | (with_reducible refine ao_nil ?_)
  | (with_reducible refine truthy_int ?_)
  | ((with_reducible refine b_range (by assumption) (by assumption) (by assumption) ?h1 ?_); (case h1 => rfl))
  | ((with_reducible refine b_len (by assumption) (by assumption) (by assumption) ?h1 ?_); (case h1 => rfl))
  | ((with_reducible refine b_ord (by assumption) (by assumption) (by assumption) ?h1 ?_); (case h1 => rfl))
  | ((with_reducible refine b_chr (by assumption) (by assumption) (by assumption) ?h1 ?_); (case h1 => rfl))
  | ((with_reducible refine b_sum (by assumption) (by assumption) (by assumption) ?h1 ?_); (case h1 => rfl))
  | ((with_reducible refine b_abs (by assumption) (by assumption) (by assumption) ?h1 ?_); (case h1 => rfl))
  | ((with_reducible refine b_map (by assumption) (by assumption) (by assumption) ?h1 ?_); (case h1 => rfl))
  | ((with_reducible refine b_int (by assumption) (by assumption) (by assumption) ?h1 ?_); (case h1 => rfl))
  | ((with_reducible refine b_list (by assumption) (by assumption) (by assumption) ?h1 ?_); (case h1 => rfl))
  | ((with_reducible refine g_search_reverse (by assumption) (by assumption) (by assumption) ?h1 ?_); (case h1 => rfl))
  | ((with_reducible refine g_get_line_col (by assumption) (by assumption) (by assumption) ?h1 ?_); (case h1 => rfl))
  | ((with_reducible refine g_gen (by assumption) (by assumption) (by assumption) ?h1 ?_); (case h1 => rfl))
  | ((with_reducible refine g_page (by assumption) (by assumption) (by assumption) ?h1 ?_); (case h1 => rfl))
  | ((with_reducible refine g_turn (by assumption) (by assumption) (by assumption) ?h1 ?_); (case h1 => rfl))
  | ((with_reducible refine g_sum (by assumption) (by assumption) (by assumption) ?h1 ?_); (case h1 => rfl))
  | ((with_reducible refine g_known (by assumption) (by assumption) (by assumption) ?h1 ?_); (case h1 => rfl))
  | ((with_reducible refine g_hit (by assumption) (by assumption) (by assumption) ?h1 ?_); (case h1 => rfl))
  | ((with_reducible refine g_prog (by assumption) (by assumption) (by assumption) ?h1 ?_); (case h1 => rfl))
  | ((with_reducible refine g_found (by assumption) (by assumption) (by assumption) ?h1 ?_); (case h1 => rfl))
  | ((with_reducible refine g_firsts (by assumption) (by assumption) (by assumption) ?h1 ?_); (case h1 => rfl))
  | ((with_reducible refine g_due (by assumption) (by assumption) (by assumption) ?h1 ?_); (case h1 => rfl)))
section
variable {prog : Program} {w : World} {g : Heap} {A : Around} {s : Shared} {Q : Value → Shared → Prop}
theorem d_tail {B : Around} {b : Shared} {L R₀ : Addr} {oF oP oH oW oR : Obj} {ls : List (Str × Tok)} {rows : List (List Nat)} {word : List Nat} {hd kr : Nat} {tj tw th : Tok} (G : Gs w g) (R : Room 7 B) (hoF : oF.data = .cell none) (hoP : oP.data = .cell none)
    (hL4 : b.heap.objs.size ≤ L + 1 + 1 + 1 + 1) (hL5 : b.heap.objs.size ≤ L + 1 + 1 + 1 + 1 + 1)
    (hrv : RowsAre (strValues ls) rows) (hls : ls.map (·.1) = rows.map fun r => (⟨r.toArray⟩ : Str)) (hpz1 : rows.length ≤ 19) (hpz2 : ∀ r ∈ rows, r.length ≤ 18) (hplt : ∀ r ∈ rows, ∀ c ∈ r, c < 256)
    (hsg : (⟨rows.flatten.toArray⟩ : Str).cps.size = rows.flatten.length) (hfl2 : rows.flatten.length ≤ 19 * 18) (hw4 : word.length ≤ 4) (hwc : ∀ c ∈ word, c < 256) (hhl : (hd : Int) < 10 ^ 35)
    (F : Fm g b L [(Str.ofString "signs", .str ⟨rows.flatten.toArray⟩ tj)] ((R₀, listOf (strValues ls).toArray kr) :: cells5 L oF oP (setC oH (.int hd th)) (setC oW (.str ⟨word.toArray⟩ tw)) (setC oR (.ref R₀))) s)
    (h : ∀ s', Le b s' → Td s'.heap → Q (.bool true) s') :
    wpAny (model prog w) B (execs ((bdAt w 97).drop 6) (callEnvC (fdAt w 97) L 97)) (fun f s'' => Q (match f with | .ret v => v | _ => .none) s'') NoE s := by
  have hsl := sizeLine_eq
  have pe : PlainEnv (callEnvC (fdAt w 97) L 97) L := ⟨rfl, rfl, rfl, rfl⟩
  have hwz : (⟨word.toArray⟩ : Str).cps.size = word.length := by simp
  have hs256 : ∀ c ∈ rows.flatten, c < 256 := fun c hc => by
    obtain ⟨r, hr, hcr⟩ := List.mem_flatten.mp hc
    exact hplt r hr c hcr
  have hok : ∀ row ∈ rows, row.length ≤ 1000 ∧ ∀ c ∈ row, c ∈ rows.flatten := fun row hr => ⟨by have := hpz2 row hr; omega, fun c hc => List.mem_flatten.mpr ⟨row, hr, hc⟩⟩
  have hrl : ∀ row ∈ rows, row.length ≤ 1000 := fun row hr => (hok row hr).1
  refine wpAny_execs_cons ?_
  repeat walk_at "m"
  rename_i F₁
  refine ⟨F₁.kg, ?_⟩
  refine d_known G F₁ (R.mono (by decide)) (by omega) hwc fun tk s₁ F₂ => ?_
  repeat walk_at "m"
  refine ⟨F₂.kg, ?_⟩
  rw [hwz, show (⟨word.toArray⟩ : Str).cps.toList = word from rfl]
  refine d_prog G F₂ (R.mono (by decide)) hw4 hwc hs256 (by omega) fun p hs s₂ hP hnw hnc F₃ => ?_
  have hsP : ∀ q ∈ hs, q.1 ≠ L + 1 + 1 + 1 + 1 := fun q hq => F₃.neO (o := q.2) (o' := oP) (List.mem_append_left _ hq) (List.mem_append_right _ (.tail _ (.tail _ (.head _)))) (by rw [hoP]; exact hnc q hq)
  have hsF : ∀ q ∈ hs, q.1 ≠ L + 1 + 1 + 1 + 1 + 1 := fun q hq => F₃.neO (o := q.2) (o' := oF) (List.mem_append_left _ hq) (List.mem_append_right _ (.tail _ (.head _))) (by rw [hoF]; exact hnc q hq)
  have hRP : R₀ ≠ L + 1 + 1 + 1 + 1 := F₃.neO (o := listOf (strValues ls).toArray kr) (o' := oP) (List.mem_append_right _ (.head _)) (List.mem_append_right _ (.tail _ (.tail _ (.head _)))) (by rw [hoP]; nofun)
  have hRF : R₀ ≠ L + 1 + 1 + 1 + 1 + 1 := F₃.neO (o := listOf (strValues ls).toArray kr) (o' := oF) (List.mem_append_right _ (.head _)) (List.mem_append_right _ (.tail _ (.head _))) (by rw [hoF]; nofun)
  refine n_stc F₃ pe rfl rfl hoP hL4 (updPre (.tail hRP upd4) hsP) fun s₃ F₄ => ?_
  have F₅ : Fm g b L [] (cells5 L oF (setC oP (.ref p)) (setC oH (.int hd th)) (setC oW (.str ⟨word.toArray⟩ tw)) (setC oR (.ref R₀)) ++ ((R₀, listOf (strValues ls).toArray kr) :: hs)) s₃ := (F₄.weak (l' := []) trivial).sub fun q hq => by
    rcases List.mem_append.mp hq with hq | hq
    · exact List.mem_append_right _ (.tail _ hq)
    rcases List.mem_cons.mp hq with rfl | hq
    · exact List.mem_append_right _ (.head _)
    · exact List.mem_append_left _ hq
  clear F F₁ F₂ F₃ F₄
  repeat walk_at "m"
  have mR : (R₀, listOf (strValues ls).toArray kr) ∈ cells5 L oF (setC oP (.ref p)) (setC oH (.int hd th)) (setC oW (.str ⟨word.toArray⟩ tw)) (setC oR (.ref R₀)) ++ ((R₀, listOf (strValues ls).toArray kr) :: hs) := List.mem_append_right _ (.head _)
  have hRL := F₅.own _ mR
  have hlsl : (strValues ls).toArray.size = rows.length := by rw [List.size_toArray]; exact hrv.length
  refine iterList F₅ (IsL F₅ mR) ⟨hRL.1.2, hRL.2⟩ ?_
  refine compQ R.hh rfl rfl rfl (by omega) pe (fun i vs es => ListsAre es vs ((rows.take i).map (firstsOf word)) ∧ ∀ p ∈ es, p.1 ≠ L + 1 + 1 + 1 + 1 + 1) ⟨fun i ns e => by simp at e, fun p hp => nomatch hp⟩ ?_ ?_
  · rintro C i v vs es mu rs s₄ hi hv hvl ⟨hJ, hes⟩ hmu pe' F₆
    obtain ⟨row, hrow⟩ : ∃ row, rows[i]? = some row := ⟨_, List.getElem?_eq_getElem (by omega)⟩
    obtain ⟨tr, htr⟩ := hrv.get hrow
    have hv2 : v = .str ⟨row.toArray⟩ tr := by
      have : (strValues ls)[i]? = some v := by simpa using hv
      rw [htr] at this; exact (Option.some.inj this).symm
    subst hv2
    have hmem := List.mem_of_getElem? hrow
    have F₇ : Fm g b C _ (cells5 L oF (setC oP (.ref p)) (setC oH (.int hd th)) (setC oW (.str ⟨word.toArray⟩ tw)) (setC oR (.ref R₀)) ++ (es ++ ((R₀, listOf (strValues ls).toArray kr) :: hs ++ (mu ++ rs)))) s₄ := F₆.sub fun q hq => by
      rcases List.mem_append.mp hq with hq | hq
      · exact List.mem_append_right _ (List.mem_append_left _ (List.mem_append_left _ hq))
      rcases List.mem_append.mp hq with hq | hq
      · exact List.mem_append_left _ hq
      rcases List.mem_append.mp hq with hq | hq
      · exact List.mem_append_right _ (List.mem_append_left _ (List.mem_append_right _ hq))
      · exact List.mem_append_right _ (List.mem_append_right _ hq)
    clear F₆
    repeat walk_at "m"
    refine ⟨F₇.kg, ?_⟩
    refine d_firsts G F₇ (R.mono (by decide)) (hrl row hmem) hw4 hwc (hplt row hmem) fun D us ku s₅ hus hD hDb F₈ => ?_
    refine ⟨(D, listOf us.toArray ku) :: es, _, ⟨?_, fun q hq => ?_⟩, fun q hq q' hq' => ?_, F₈.sub fun q hq => ?_⟩
    · intro j nj hj
      rw [List.take_add_one, hrow] at hj
      by_cases hji : j < i
      · have hj' : ((rows.take i).map (firstsOf word))[j]? = some nj := by
          rw [Option.toList_some, List.map_append, List.getElem?_append_left (by rw [List.length_map, List.length_take]; omega)] at hj
          exact hj
        obtain ⟨D', us', k', h1, h2, h3⟩ := hJ j nj hj'
        exact ⟨D', us', k', by rw [List.getElem?_append_left (by omega)]; exact h1, .tail _ h2, h3⟩
      · have hml : ((rows.take i).map (firstsOf word)).length = i := by rw [List.length_map, List.length_take]; omega
        rw [Option.toList_some, List.map_append, List.getElem?_append_right (by omega), hml] at hj
        have hji' : j = i := by
          have := (List.getElem?_eq_some_iff.mp hj).1
          simp at this; omega
        subst hji'
        rw [Nat.sub_self] at hj
        obtain rfl : firstsOf word row = nj := by simpa using hj
        exact ⟨D, us, ku, by rw [List.getElem?_append_right (by omega), hvl, Nat.sub_self]; rfl, .head _, hus⟩
    · rcases List.mem_cons.mp hq with rfl | hq
      · exact fun e => hD (L + 1 + 1 + 1 + 1 + 1, oF) (.head _) e.symm
      · exact hes q hq
    · rcases List.mem_cons.mp hq with rfl | hq
      · exact fun e => hD q' (List.mem_append_right _ (List.mem_append_right _ (List.mem_append_right _ (List.mem_append_left _ hq')))) e.symm
      · exact hmu q hq q' hq'
    · rcases List.mem_append.mp hq with hq | hq
      · rcases List.mem_cons.mp hq with rfl | hq
        · exact .head _
        · exact .tail _ (List.mem_append_right _ (List.mem_append_left _ hq))
      rcases List.mem_append.mp hq with hq | hq
      · rcases List.mem_append.mp hq with hq | hq
        · exact .tail _ (List.mem_append_left _ hq)
        · exact .tail _ (List.mem_append_right _ (List.mem_append_right _ (List.mem_append_left _ hq)))
      · exact .tail _ (List.mem_append_right _ (List.mem_append_right _ (List.mem_append_right _ hq)))
  · intro Df fv es kf s₄ hJ hfl hDf hDes hDb F₆
    rw [hlsl, List.take_length] at hJ
    rw [hlsl] at hfl
    obtain ⟨hJ₀, hes⟩ := hJ
    have hDF : Df ≠ L + 1 + 1 + 1 + 1 + 1 := fun e => hDf (L + 1 + 1 + 1 + 1 + 1, oF) (.head _) e.symm
    have F₇ : Fm g b L [] (((Df, listOf fv.toArray kf) :: (es ++ ((R₀, listOf (strValues ls).toArray kr) :: hs))) ++ cells5 L oF (setC oP (.ref p)) (setC oH (.int hd th)) (setC oW (.str ⟨word.toArray⟩ tw)) (setC oR (.ref R₀))) s₄ := F₆.sub fun q hq => by
      rcases List.mem_append.mp hq with hq | hq
      · rcases List.mem_cons.mp hq with rfl | hq
        · exact .head _
        rcases List.mem_append.mp hq with hq | hq
        · exact .tail _ (List.mem_append_left _ hq)
        · exact .tail _ (List.mem_append_right _ (List.mem_append_right _ hq))
      · exact .tail _ (List.mem_append_right _ (List.mem_append_left _ hq))
    refine n_stc F₇ pe rfl rfl hoF hL5 (updPre upd5 fun q hq => ?_) fun s₅ F₈ => ?_
    · rcases List.mem_cons.mp hq with rfl | hq
      · exact hDF
      rcases List.mem_append.mp hq with hq | hq
      · exact hes q hq
      rcases List.mem_cons.mp hq with rfl | hq
      · exact hRF
      · exact hsF q hq
    obtain ⟨X, hX⟩ : ∃ X, X = (R₀, listOf (strValues ls).toArray kr) :: (Df, listOf fv.toArray kf) :: (es ++ hs) := ⟨_, rfl⟩
    obtain ⟨Z, hZ⟩ : ∃ Z, Z = cells5 L (setC oF (.ref Df)) (setC oP (.ref p)) (setC oH (.int hd th)) (setC oW (.str ⟨word.toArray⟩ tw)) (setC oR (.ref R₀)) := ⟨_, rfl⟩
    have F₉ : Fm g b L [] (Z ++ X) s₅ := F₈.sub fun q hq => by
      subst hX hZ
      rcases List.mem_append.mp hq with hq | hq
      · exact List.mem_append_right _ hq
      rcases List.mem_cons.mp hq with rfl | hq
      · exact .tail _ (List.mem_append_left _ (List.mem_append_right _ (.head _)))
      rcases List.mem_cons.mp hq with rfl | hq
      · exact .head _
      rcases List.mem_append.mp hq with hq | hq
      · exact .tail _ (List.mem_append_left _ (List.mem_append_left _ hq))
      · exact .tail _ (List.mem_append_left _ (List.mem_append_right _ (.tail _ hq)))
    have mR : (R₀, listOf (strValues ls).toArray kr) ∈ X := by rw [hX]; exact .head _
    have mF : (Df, listOf fv.toArray kf) ∈ X := by rw [hX]; exact .tail _ (.head _)
    have mes : ∀ q ∈ es, q ∈ X := fun q hq => by rw [hX]; exact .tail _ (.tail _ (List.mem_append_left _ hq))
    have mhs : ∀ q ∈ hs, q ∈ X := fun q hq => by rw [hX]; exact .tail _ (.tail _ (List.mem_append_right _ hq))
    clear F₅ F₆ F₇ F₈ hX
    repeat walk_at "m"
    refine x_comp2 rfl rfl rfl rfl (fun _ => rfl) ?_
    subst hZ
    repeat walk_at "m"
    refine u_lenL F₉ (IsL F₉ (List.mem_append_right _ mR)) (by omega) fun tl s₆ F₁₀ => ?_
    rw [hlsl]
    repeat walk_at "m"
    refine r_range1 F₁₀ ?_
    intro rr s₇ _ _ _ hr₁ F₁₁
    refine iterRange0 (n := rows.length) F₁₁ hr₁ (by omega) ?_
    clear F₉ F₁₀ F₁₁
    refine comp2S (n2 := fun i => (rows.getD i []).length + 2) (P2 := fun i j v => ∃ t, v = .int j t) R.hh rfl rfl rfl rfl (fun _ _ => rfl) pe rfl
      (fun i j vs es' => PlacesAre es' vs (plc rows i ++ (List.range j).map fun c => (i, c)) ∧ i ≤ 19 ∧ j ≤ 20) ⟨.nil, by omega, by omega⟩ (fun i vs es' hi hJ => ?_) (fun i j vs es' hJ => ?_) ?_ ?_ ?_
    · refine ⟨?_, by omega, by omega⟩
      rw [plc, List.range_zero, List.map_nil, List.append_nil]
      exact hJ.1
    · have := plc_len hpz2 i
      rw [hJ.1.1, List.length_append, List.length_map, List.length_range]; omega
    · rintro C i v fs' s₈ Q' hi ⟨ti, rfl⟩ hsub pe' F₁₂ hQ
      obtain ⟨row, hrow⟩ : ∃ row, rows[i]? = some row := ⟨_, List.getElem?_eq_getElem hi⟩
      have hgd : rows.getD i [] = row := by rw [List.getD_eq_getElem?_getD, hrow]; rfl
      obtain ⟨tr, htr⟩ := hrv.get hrow
      have hrow1 := hpz2 row (List.mem_of_getElem? hrow)
      have hrz : (⟨row.toArray⟩ : Str).cps.size = row.length := by simp
      rw [hgd] at hQ
      have F₁₃ := F₁₂.sub (fs' := cells5 L (setC oF (.ref Df)) (setC oP (.ref p)) (setC oH (.int hd th)) (setC oW (.str ⟨word.toArray⟩ tw)) (setC oR (.ref R₀)) ++ (X ++ fs')) fun q hq => by
        rcases List.mem_append.mp hq with hq | hq
        · exact hsub q (List.mem_append_left _ hq)
        rcases List.mem_append.mp hq with hq | hq
        · exact hsub q (List.mem_append_right _ hq)
        · exact hq
      clear F₁₂
      repeat walk_at "m"
      refine t_list rfl (IsL F₁₃ (List.mem_append_right _ (List.mem_append_left _ mR))) (by omega) (by omega) (show (strValues ls).toArray[((i : Int)).toNat]? = some (.str ⟨row.toArray⟩ tr) by simpa using htr) ?_
      repeat walk_at "m"
      rename_i F₁₄
      refine r_range1 F₁₄ ?_
      intro rr₂ s₉ _ _ _ hr₂ F₁₅
      rw [hrz, show (row.length : Int) + 2 = ((row.length + 2 : Nat) : Int) by omega] at hr₂
      exact iterRange0 (F₁₅.sub fun q hq => List.mem_append_right _ (List.mem_append_right _ hq)) hr₂ (by omega) hQ
    · rintro C i j v u vs es' fs' mu s₈ hi hj ⟨ti, rfl⟩ ⟨tj', rfl⟩ ⟨hJ, hi19, hj20⟩ hes' hmu hsub pe' F₁₂
      have hgl := getD_le hpz2 i
      repeat walk_at "m"
      refine q_tuple F₁₂ (by show 2 ≤ sizeLine; omega) fun P s₉ hP' _ F₁₃ => ?_
      refine ⟨_, ⟨hJ.next (P := P), hi19, by omega⟩, fun q hq q' hq' => ?_, F₁₃.weak ⟨rfl, trivial⟩⟩
      rcases List.mem_cons.mp hq with rfl | hq
      · exact fun e => hP' q' (List.mem_append_right _ (hmu q' hq')) e.symm
      · exact hes' q hq q' hq'
    · intro Dp pv ep kp s₈ ⟨hpl, _, _⟩ hDp hDpe hDpb F₁₂
      rw [List.range_zero, List.map_nil, List.append_nil] at hpl
      have hps := plc_mem hpz2 rows.length
      have hpn := plc_len hpz2 rows.length
      have hpvn : pv.toArray.size = (plc rows rows.length).length := by rw [List.size_toArray]; exact hpl.1
      generalize plc rows rows.length = ps at *
      obtain ⟨X2, hX2⟩ : ∃ X2, X2 = (Dp, listOf pv.toArray kp) :: (ep ++ X) := ⟨_, rfl⟩
      have mX : ∀ q ∈ X, q ∈ X2 := fun q hq => by rw [hX2]; exact .tail _ (List.mem_append_right _ hq)
      have mep : ∀ q ∈ ep, q ∈ X2 := fun q hq => by rw [hX2]; exact .tail _ (List.mem_append_left _ hq)
      have mDp : (Dp, listOf pv.toArray kp) ∈ X2 := by rw [hX2]; exact .head _
      have F₁₃ : Fm g b L [(Str.ofString "places", .ref Dp)] (cells5 L (setC oF (.ref Df)) (setC oP (.ref p)) (setC oH (.int hd th)) (setC oW (.str ⟨word.toArray⟩ tw)) (setC oR (.ref R₀)) ++ X2) s₈ := F₁₂.sub fun q hq => by
        subst hX2
        rcases List.mem_append.mp hq with hq | hq
        · exact .tail _ (List.mem_append_right _ (List.mem_append_left _ hq))
        rcases List.mem_cons.mp hq with rfl | hq
        · exact .head _
        rcases List.mem_append.mp hq with hq | hq
        · exact .tail _ (List.mem_append_left _ hq)
        · exact .tail _ (List.mem_append_right _ (List.mem_append_right _ hq))
      clear F₁₂ hX2 hDp hDpe
      have at_ : ∀ {i : Nat} {v : Value}, i < ps.length → pv.toArray[i]? = some v → ∃ q P tk tc, ps[i]? = some q ∧ q.1 < rows.length ∧ q.2 < 20 ∧ v = .ref P ∧ (P, tupOf #[.int (q.1 : Nat) tk, .int (q.2 : Nat) tc]) ∈ X2 := fun {i v} hi hv => by
        obtain ⟨q, hq⟩ : ∃ q, ps[i]? = some q := ⟨_, List.getElem?_eq_getElem hi⟩
        obtain ⟨P, tk, tc, h1, h2⟩ := hpl.2 i q hq
        have hq' := hps q (List.mem_of_getElem? hq)
        have hv' : pv[i]? = some v := by simpa using hv
        rw [h1] at hv'
        exact ⟨q, P, tk, tc, hq, hq'.1, hq'.2, (Option.some.inj hv').symm, mep _ h2⟩
      repeat walk_at "m"
      refine x_comp rfl rfl rfl rfl (fun _ => rfl) ?_
      repeat walk_at "m"
      have hDL := F₁₃.own _ (List.mem_append_right _ mDp)
      refine iterList F₁₃ (IsL F₁₃ (List.mem_append_right _ mDp)) ⟨hDL.1.2, hDL.2⟩ ?_
      refine compK R.hh rfl rfl rfl (by omega) pe rfl (fun i vs es => DatAll es vs ((ps.take i).map fun q => datOf hd word.length (foundAt word rows (q.1 + 1) q.2))) .nil ?_ ?_
      · rintro C i v vs es' mu rs s₉ hi hv hvl hJ hmu pe' F₁₄
        obtain ⟨q, P, tk', tc', hq, hq1, hq2, rfl, hPm⟩ := at_ (by omega) hv
        have F₁₅ : Fm g b C _ (cells5 L (setC oF (.ref Df)) (setC oP (.ref p)) (setC oH (.int hd th)) (setC oW (.str ⟨word.toArray⟩ tw)) (setC oR (.ref R₀)) ++ (X2 ++ (es' ++ (mu ++ rs)))) s₉ := F₁₄.sub fun q hq => by
          rcases List.mem_append.mp hq with hq | hq
          · exact List.mem_append_right _ (List.mem_append_left _ (List.mem_append_left _ hq))
          rcases List.mem_append.mp hq with hq | hq
          · exact List.mem_append_right _ (List.mem_append_left _ (List.mem_append_right _ hq))
          rcases List.mem_append.mp hq with hq | hq
          · exact List.mem_append_left _ hq
          · exact List.mem_append_right _ (List.mem_append_right _ hq)
        have back : ∀ q ∈ es' ++ (cells5 L (setC oF (.ref Df)) (setC oP (.ref p)) (setC oH (.int hd th)) (setC oW (.str ⟨word.toArray⟩ tw)) (setC oR (.ref R₀)) ++ X2 ++ (mu ++ rs)), q ∈ cells5 L (setC oF (.ref Df)) (setC oP (.ref p)) (setC oH (.int hd th)) (setC oW (.str ⟨word.toArray⟩ tw)) (setC oR (.ref R₀)) ++ (X2 ++ (es' ++ (mu ++ rs))) := fun q hq => by
          rcases List.mem_append.mp hq with hq | hq
          · exact List.mem_append_right _ (List.mem_append_right _ (List.mem_append_left _ hq))
          rcases List.mem_append.mp hq with hq | hq
          · rcases List.mem_append.mp hq with hq | hq
            · exact List.mem_append_left _ hq
            · exact List.mem_append_right _ (List.mem_append_left _ hq)
          · exact List.mem_append_right _ (List.mem_append_right _ (List.mem_append_right _ hq))
        have inX : ∀ {q : Addr × Obj}, q ∈ X2 → q ∈ cells5 L (setC oF (.ref Df)) (setC oP (.ref p)) (setC oH (.int hd th)) (setC oW (.str ⟨word.toArray⟩ tw)) (setC oR (.ref R₀)) ++ (X2 ++ (es' ++ (mu ++ rs))) := fun hq => List.mem_append_right _ (List.mem_append_left _ hq)
        have hstep : (ps.take (i + 1)).map (fun q => datOf hd word.length (foundAt word rows (q.1 + 1) q.2)) = (ps.take i).map (fun q => datOf hd word.length (foundAt word rows (q.1 + 1) q.2)) ++ [datOf hd word.length (foundAt word rows (q.1 + 1) q.2)] := by
          rw [List.take_add_one, hq, List.map_append]; rfl
        rw [hstep]
        clear F₁₄
        repeat walk_at "m"
        rename_i F₁₆
        refine t_tup (k := 0) (v := .int (q.1 : Nat) tk') rfl F₁₆ (inX hPm) (by decide) rfl ?_
        repeat walk_at "m"
        rename_i F₁₇
        refine t_tup (k := 1) (v := .int (q.2 : Nat) tc') rfl F₁₇ (inX hPm) (by decide) rfl ?_
        repeat walk_at "m"
        refine q_tuple F₁₇ (by show 2 ≤ sizeLine; omega) fun pl s₁₀ hpl' _ F₁₈ => ?_
        refine o_fmt F₁₈ (.head _) (by omega) (by omega) (by omega) (by omega) fun tf s₁₁ F₁₉ => ?_
        have F₂₀ := F₁₉.sub fun q hq => List.Mem.tail _ hq
        clear F₁₅ F₁₆ F₁₇ F₁₈ F₁₉
        repeat walk_at "m"
        refine ⟨F₂₀.kg, ?_⟩
        refine d_found G F₂₀ R hP (fun q hq => inX (mX q (mhs q hq))) (inX (mX _ mR)) hrv hw4 hok hrl hq1 (by omega) (by omega) (by omega) (fun hno s₁₂ F₂₁ => ?_) fun k' f a' tp' t₁ u₁ v₁ s₁₂ hsome ha' htp' _ _ hatp F₂₁ => ?_
        · rw [hno]
          exact ⟨es', _, hJ.append (.one .none), hmu, F₂₁.sub back⟩
        · rw [hsome]
          refine ⟨(a', listOf #[.int ((hd + k' : Nat) : Int) t₁, .ref tp'] 0) :: (tp', tupOf #[.int f u₁, .int ((f + word.length : Nat) : Int) v₁]) :: es', _, ?_, fun q hq q' hq' => ?_, F₂₁.sub fun q hq => ?_⟩
          · refine (hJ.mono fun q hq => .tail _ (.tail _ hq)).append (.one ?_)
            exact .list (vs := [_, _]) (.head _) (.cons (.int _ _) (.cons (.tuple (vs := [_, _]) (.tail _ (.head _)) (.cons (.int _ _) (.cons (.int _ _) .nil))) .nil))
          · have hqm := back q' (List.mem_append_right _ (List.mem_append_right _ (List.mem_append_left _ hq')))
            rcases List.mem_cons.mp hq with rfl | hq
            · exact fun e => ha' q' hqm e.symm
            rcases List.mem_cons.mp hq with rfl | hq
            · exact fun e => htp' q' hqm e.symm
            · exact hmu q hq q' hq'
          · rcases List.mem_append.mp hq with hq | hq
            · rcases List.mem_cons.mp hq with rfl | hq
              · exact .head _
              rcases List.mem_cons.mp hq with rfl | hq
              · exact .tail _ (.head _)
              · exact .tail _ (.tail _ (back q (List.mem_append_left _ hq)))
            · exact .tail _ (.tail _ (back q (List.mem_append_right _ hq)))
      · intro D vs es' k s₉ hJ hvl hD hDe hDb F₁₄
        rw [hpvn, List.take_length] at hJ
        have hpd : ps.map (fun q => datOf hd word.length (foundAt word rows (q.1 + 1) q.2)) = ps.map fun q => datOf hd word.length (dueGo rows (rows.map (firstsOf word)) word.length q.1 q.2 (q.1 + 1)) := by
          refine List.map_congr_left fun q hq => ?_
          rw [told_due word rows q.1 q.2 (hps q hq).1]
        rw [hpd] at hJ
        obtain ⟨X3, hX3⟩ : ∃ X3, X3 = (D, listOf vs.toArray k) :: (es' ++ X2) := ⟨_, rfl⟩
        have mX2 : ∀ q ∈ X2, q ∈ X3 := fun q hq => by rw [hX3]; exact .tail _ (List.mem_append_right _ hq)
        have mes' : ∀ q ∈ es', q ∈ X3 := fun q hq => by rw [hX3]; exact .tail _ (List.mem_append_left _ hq)
        have mD : (D, listOf vs.toArray k) ∈ X3 := by rw [hX3]; exact .head _
        have F₁₅ : Fm g b L [(Str.ofString "told", .ref D), (Str.ofString "places", .ref Dp)] (cells5 L (setC oF (.ref Df)) (setC oP (.ref p)) (setC oH (.int hd th)) (setC oW (.str ⟨word.toArray⟩ tw)) (setC oR (.ref R₀)) ++ X3) s₉ := F₁₄.sub fun q hq => by
          subst hX3
          rcases List.mem_append.mp hq with hq | hq
          · exact .tail _ (List.mem_append_right _ (List.mem_append_left _ hq))
          rcases List.mem_cons.mp hq with rfl | hq
          · exact .head _
          rcases List.mem_append.mp hq with hq | hq
          · exact .tail _ (List.mem_append_left _ hq)
          · exact .tail _ (List.mem_append_right _ (List.mem_append_right _ hq))
        clear F₁₄ F₁₃ hX3 hD hDe
        repeat walk_at "m"
        have hDL2 := F₁₅.own _ (List.mem_append_right _ (mX2 _ mDp))
        refine iterList F₁₅ (IsL F₁₅ (List.mem_append_right _ (mX2 _ mDp))) ⟨hDL2.1.2, hDL2.2⟩ ?_
        refine compQ R.hh rfl rfl rfl (by omega) pe (fun i vs es => DatAll es vs ((ps.take i).map fun q => datOf hd word.length (dueGo rows (rows.map (firstsOf word)) word.length q.1 q.2 (q.1 + 1)))) .nil ?_ ?_
        · rintro C i v vs₂ es₂ mu rs s₁₀ hi hv hvl₂ hJ₂ hmu pe' F₁₆
          obtain ⟨q, P, tk', tc', hq, hq1, hq2, rfl, hPm⟩ := at_ (by omega) hv
          have F₁₇ : Fm g b C _ (cells5 L (setC oF (.ref Df)) (setC oP (.ref p)) (setC oH (.int hd th)) (setC oW (.str ⟨word.toArray⟩ tw)) (setC oR (.ref R₀)) ++ (X3 ++ (es₂ ++ (mu ++ rs)))) s₁₀ := F₁₆.sub fun q hq => by
            rcases List.mem_append.mp hq with hq | hq
            · exact List.mem_append_right _ (List.mem_append_left _ (List.mem_append_left _ hq))
            rcases List.mem_append.mp hq with hq | hq
            · exact List.mem_append_right _ (List.mem_append_left _ (List.mem_append_right _ hq))
            rcases List.mem_append.mp hq with hq | hq
            · exact List.mem_append_left _ hq
            · exact List.mem_append_right _ (List.mem_append_right _ hq)
          have back : ∀ q ∈ es₂ ++ (cells5 L (setC oF (.ref Df)) (setC oP (.ref p)) (setC oH (.int hd th)) (setC oW (.str ⟨word.toArray⟩ tw)) (setC oR (.ref R₀)) ++ X3 ++ (mu ++ rs)), q ∈ cells5 L (setC oF (.ref Df)) (setC oP (.ref p)) (setC oH (.int hd th)) (setC oW (.str ⟨word.toArray⟩ tw)) (setC oR (.ref R₀)) ++ (X3 ++ (es₂ ++ (mu ++ rs))) := fun q hq => by
            rcases List.mem_append.mp hq with hq | hq
            · exact List.mem_append_right _ (List.mem_append_right _ (List.mem_append_left _ hq))
            rcases List.mem_append.mp hq with hq | hq
            · rcases List.mem_append.mp hq with hq | hq
              · exact List.mem_append_left _ hq
              · exact List.mem_append_right _ (List.mem_append_left _ hq)
            · exact List.mem_append_right _ (List.mem_append_right _ (List.mem_append_right _ hq))
          have inX : ∀ {q : Addr × Obj}, q ∈ X3 → q ∈ cells5 L (setC oF (.ref Df)) (setC oP (.ref p)) (setC oH (.int hd th)) (setC oW (.str ⟨word.toArray⟩ tw)) (setC oR (.ref R₀)) ++ (X3 ++ (es₂ ++ (mu ++ rs))) := fun hq => List.mem_append_right _ (List.mem_append_left _ hq)
          have hstep : (ps.take (i + 1)).map (fun q => datOf hd word.length (dueGo rows (rows.map (firstsOf word)) word.length q.1 q.2 (q.1 + 1))) = (ps.take i).map (fun q => datOf hd word.length (dueGo rows (rows.map (firstsOf word)) word.length q.1 q.2 (q.1 + 1))) ++ [datOf hd word.length (dueGo rows (rows.map (firstsOf word)) word.length q.1 q.2 (q.1 + 1))] := by
            rw [List.take_add_one, hq, List.map_append]; rfl
          rw [hstep]
          clear F₁₆
          repeat walk_at "m"
          rename_i F₁₈
          refine ⟨F₁₈.kg, ?_⟩
          rw [hwz]
          refine d_due G F₁₈ (R.mono (by decide)) (inX (mX2 _ (mX _ mR))) hrv (inX (mX2 _ (mX _ mF))) (hJ₀.mono fun q hq => inX (mX2 _ (mX _ (mes q hq)))) (inX (mX2 _ hPm)) (by rw [List.length_map]) hq1 (by omega) hrl fun v' nn s₁₁ hD' hdis hnb F₁₉ => ?_
          refine ⟨nn ++ es₂, _, (hJ₂.mono fun q hq => List.mem_append_right _ hq).append (.one (hD'.mono fun q hq => List.mem_append_left _ hq)), fun q hq q' hq' => ?_, F₁₉.sub fun q hq => ?_⟩
          · rcases List.mem_append.mp hq with hq | hq
            · exact fun e => hdis q' (back q' (List.mem_append_right _ (List.mem_append_right _ (List.mem_append_left _ hq')))) q hq e.symm
            · exact hmu q hq q' hq'
          · rcases List.mem_append.mp hq with hq | hq
            · rcases List.mem_append.mp hq with hq | hq
              · exact List.mem_append_left _ hq
              · exact List.mem_append_right _ (back q (List.mem_append_left _ hq))
            · exact List.mem_append_right _ (back q (List.mem_append_right _ hq))
        · intro U us es₂ ku s₁₀ hJ₂ hul hUf hUe hUb F₁₆
          rw [hpvn, List.take_length] at hJ₂
          repeat walk_at "m"
          refine o_eqD F₁₆ (List.Mem.tail _ (List.mem_append_right _ (List.mem_append_right _ mD))) (.head _) hJ (fun q hq => List.Mem.tail _ (List.mem_append_right _ (List.mem_append_right _ (mes' q hq)))) hJ₂ (fun q hq => List.Mem.tail _ (List.mem_append_left _ hq)) (fun d hd' => ?_) (by have := R.un; omega) ?_
          · obtain ⟨q, _, rfl⟩ := List.mem_map.mp hd'
            exact datOf_ok _ _ _
          · exact h _ F₁₆.le F₁₆.td
end
end Mine
/- F98 -/
namespace Mine
open PyProof.Rows PySem PySem.Builtin PySem.Builtin.Str PySem.StrLaws PySem.W
local macro_rules | `(tactic| walk_at "mem") => `(tactic| first | exact List.Mem.head _ | (refine List.Mem.tail _ ?_; walk_at "mem"))
local macro_rules | `(tactic| walk_at "m") => `(tactic| first
  | (with_reducible refine wpAny_execs_cons ?_)
  | (with_reducible refine wpAny_execs_nil ?_)
  | ((with_reducible refine x_assign ?hs ?_); (case hs => rfl))
  | (with_reducible refine wpAny_AugAssign_Name ?_)
  | (with_reducible refine wpAny_If ?_)
  | (with_reducible refine wpAny_Return_some ?_)
  | (with_reducible refine a_cons ?_)
  | (with_reducible refine a_nil ?_)
  | ((with_reducible refine k_type0 ?hs ?_); (case hs => rfl))
  | ((with_reducible refine k_bi0 ?hs ?_); (case hs => rfl))
  | ((with_reducible refine' k_def0 (by assumption) ?hk ?hs ?_); (case hk => rfl); (case hs => rfl))
  | (with_reducible refine wpAny_Call_NameR ?_)
  | (with_reducible refine wpAny_BinOp ?_)
  | (with_reducible refine wpAny_UnaryOp ?_)
  | ((with_reducible refine e_list ?hs ?_); (case hs => rfl))
  | ((with_reducible refine e_tuple ?hs ?_); (case hs => rfl))
  | ((with_reducible refine' e_comp ?hc ?hk ?hn ?hs ?_); (case hc => rfl); (case hk => rfl); (case hn => rfl); (case hs => intro _; rfl))
  | ((with_reducible refine u_ord (by assumption) ?_); intro _ _ _)
  | ((with_reducible refine i_plain ?hs ?_); (case hs => rfl))
  | ((with_reducible refine' n_ld (by assumption) (by assumption) ?h1 ?h2 ?_ ?h3); (case h1 => rfl); (case h2 => rfl); (case h3 => decide))
  | ((with_reducible refine' n_ldn (by assumption) (by assumption) ?h1 ?h2 ?_); (case h1 => rfl); (case h2 => rfl))
  | ((with_reducible refine' n_ldc (by assumption) (by assumption) ?h1 ?h2 ?h4 ?_ ?h3); (case h1 => rfl); (case h2 => rfl); (case h4 => walk_at "mem"); (case h3 => decide))
  | ((with_reducible refine' n_ldf (by assumption) (by assumption) ?h1 ?h2 ?h4 ?_ ?h3 ?h5); (case h1 => rfl); (case h2 => rfl); (case h4 => walk_at "mem"); (case h3 => decide); (case h5 => decide))
  | ((with_reducible refine n_st (by assumption) (by assumption) ?h1 ?_); (case h1 => rfl); intro _ _)
  | (with_reducible refine wpAny_Constant_none ?_)
  | (with_reducible refine wpAny_Break ?_)
  | (with_reducible refine truthy_none ?_)
  | (with_reducible refine wpAny_isTrue_Not ?_)
  | (with_reducible refine wpAny_isTrue_BoolOp ?_)
  | (with_reducible refine wpAny_allTrue_And_cons ?_)
  | (with_reducible refine wpAny_allTrue_And_nil ?_)
  | ((with_reducible refine c_int (by assumption) ?_); intro _ _ _)
  | ((with_reducible refine c_str (by assumption) ?_); intro _ _ _)
  | ((with_reducible refine o_add (by assumption) ?_); intro _ _ _)
  | ((with_reducible refine o_sub (by assumption) ?_); intro _ _ _)
  | ((with_reducible refine o_and (by assumption) ?_); intro _ _ _)
  | ((with_reducible refine o_xor (by assumption) ?_); intro _ _ _)
  | ((with_reducible refine o_shr (by decide) (by assumption) ?_); intro _ _ _)
  | ((with_reducible refine o_ishr (by decide) (by assumption) ?_); intro _ _ _)
  | ((with_reducible refine o_mul (Or.inr (by decide)) (by assumption) ?_); intro _ _ _)
  | ((with_reducible refine o_mul (Or.inl (by decide)) (by assumption) ?_); intro _ _ _)
  | ((with_reducible refine o_fdiv (by decide) (by decide) (by assumption) ?_); intro _ _ _)
  | ((with_reducible refine o_mod (by decide) (by assumption) ?_); intro _ _ _)
  | ((with_reducible refine o_pow (by decide) (by decide) (by decide) (by assumption) ?_); intro _ _ _)
  | ((with_reducible refine o_neg (by assumption) ?_); intro _ _ _)
  | ((with_reducible refine u_len (by assumption) (by omega) ?_); intro _ _ _)
  | (with_reducible refine j_eq ?_)
  | (with_reducible refine j_lt ?_)
  | (with_reducible refine j_le ?_)
  | (with_reducible refine j_ge ?_)
  | (with_reducible refine j_tr ?_)
  | ((with_reducible refine i_cmp ?hs ?_); (case hs => rfl))
  | ((with_reducible refine e_cmp ?hs ?_); (case hs => rfl))
  | ((with_reducible refine x_tup2S ?hs ?hw ?_); (case hs => rfl); (case hw => rfl))
  | ((with_reducible refine x_tup2 ?hs ?hw ?_); (case hs => rfl); (case hw => rfl))
  | ((with_reducible refine x_asub ?hs ?_); (case hs => rfl))
  | ((with_reducible refine x_expr ?hi ?hs ?_); (case hi => rfl); (case hs => rfl))
  | ((with_reducible refine Subscript_Slice ?_ ?ht); (case ht => intro _ _; rfl))
  | (with_reducible refine wpAny_Slice ?_)
  | (with_reducible refine evalPart_some_step ?_)
  | (with_reducible refine evalPart_none_step ?_)
  | (with_reducible refine Subscript_ ?_)
  | (with_reducible refine ao_name ?_)
  | (with_reducible refine ao_asg ?_)
  | (with_reducible refine ao_nil ?_)
  | (with_reducible refine truthy_int ?_)
  | ((with_reducible refine b_range (by assumption) (by assumption) (by assumption) ?h1 ?_); (case h1 => rfl))
  | ((with_reducible refine b_len (by assumption) (by assumption) (by assumption) ?h1 ?_); (case h1 => rfl))
  | ((with_reducible refine b_ord (by assumption) (by assumption) (by assumption) ?h1 ?_); (case h1 => rfl))
  | ((with_reducible refine b_chr (by assumption) (by assumption) (by assumption) ?h1 ?_); (case h1 => rfl))
  | ((with_reducible refine b_sum (by assumption) (by assumption) (by assumption) ?h1 ?_); (case h1 => rfl))
  | ((with_reducible refine b_abs (by assumption) (by assumption) (by assumption) ?h1 ?_); (case h1 => rfl))
  | ((with_reducible refine b_map (by assumption) (by assumption) (by assumption) ?h1 ?_); (case h1 => rfl))
  | ((with_reducible refine b_int (by assumption) (by assumption) (by assumption) ?h1 ?_); (case h1 => rfl))
  | ((with_reducible refine b_list (by assumption) (by assumption) (by assumption) ?h1 ?_); (case h1 => rfl))
  | ((with_reducible refine g_search_reverse (by assumption) (by assumption) (by assumption) ?h1 ?_); (case h1 => rfl))
  | ((with_reducible refine g_get_line_col (by assumption) (by assumption) (by assumption) ?h1 ?_); (case h1 => rfl))
  | ((with_reducible refine g_gen (by assumption) (by assumption) (by assumption) ?h1 ?_); (case h1 => rfl))
  | ((with_reducible refine g_page (by assumption) (by assumption) (by assumption) ?h1 ?_); (case h1 => rfl))
  | ((with_reducible refine g_turn (by assumption) (by assumption) (by assumption) ?h1 ?_); (case h1 => rfl))
  | ((with_reducible refine g_sum (by assumption) (by assumption) (by assumption) ?h1 ?_); (case h1 => rfl))
  | ((with_reducible refine g_known (by assumption) (by assumption) (by assumption) ?h1 ?_); (case h1 => rfl))
  | ((with_reducible refine g_hit (by assumption) (by assumption) (by assumption) ?h1 ?_); (case h1 => rfl))
  | ((with_reducible refine g_prog (by assumption) (by assumption) (by assumption) ?h1 ?_); (case h1 => rfl))
  | ((with_reducible refine g_found (by assumption) (by assumption) (by assumption) ?h1 ?_); (case h1 => rfl))
  | ((with_reducible refine g_firsts (by assumption) (by assumption) (by assumption) ?h1 ?_); (case h1 => rfl))
  | ((with_reducible refine g_due (by assumption) (by assumption) (by assumption) ?h1 ?_); (case h1 => rfl)))
section
variable {prog : Program} {w : World} {g : Heap} {A : Around} {s : Shared} {Q : Value → Shared → Prop}
theorem page_pos (xs : List Int) : 0 < (page (xs ++ [0])).flatten.length := by
  rw [page_snoc, pageStep, if_neg (by decide), List.flatten_append]
  simp
  omega
theorem d_law (G : Gs w g) (kg : Kg g s.heap) (td : Td s.heap) (gb : g.objs.size ≤ s.heap.objs.size) (r : Room 8 A) {a : Addr} {vs : List Value} {ns : List Int} (hl : s.heap.IsList a vs.toArray) (hi : IntsAre vs ns) (hlen : ns.length ≤ 63)
    (h : ∀ s', Le s s' → Td s'.heap → Q (.bool true) s') : wpAny (model prog w) A (call (.ref 97) [.ref a]) Q NoE s := by
  have hsl := sizeLine_eq
  obtain ⟨oa, hoa, hca, ka, hda⟩ := hl
  have pa : Pt s.heap a oa := td.pt hoa (NP.seq hda)
  have hvl : vs.length ≤ 63 := by rw [hi.length]; exact hlen
  refine enterC (fd := fdAt w 97) (body := bdAt w 97) (binds := [("script", .ref a)]) G kg td gb r rfl (by kernel_rfl) rfl rfl rfl (by kernel_rfl)
    [(Str.ofString "script", .ref a)] (fun L => ⟨rfl, trivial⟩)
    (fun L => [(Str.ofString "firsts", L + 1 + 1 + 1 + 1 + 1), (Str.ofString "prog", L + 1 + 1 + 1 + 1), (Str.ofString "head", L + 1 + 1 + 1), (Str.ofString "word", L + 1 + 1), (Str.ofString "rows", L + 1)]) (fun L => rfl)
    [Str.ofString "firsts", Str.ofString "prog", Str.ofString "head", Str.ofString "word", Str.ofString "rows"] (fun L => rfl) (by decide) (fun L s₁ fs₁ F₁ hcs R => ?_) rfl rfl rfl
  obtain ⟨oF, fs', rfl, hoF, _, oP, fs'', rfl, hoP, _, oH, fs''', rfl, hoH, _, oW, fs'''', rfl, hoW, _, oR, fs5, rfl, hoR, _, rfl⟩ := hcs
  have pe : PlainEnv (callEnvC (fdAt w 97) L 97) L := ⟨rfl, rfl, rfl, rfl⟩
  have hL1 : s.heap.objs.size ≤ L + 1 := Nat.le_succ_of_le F₁.nL
  have hL2 : s.heap.objs.size ≤ L + 1 + 1 := Nat.le_succ_of_le hL1
  have hL3 : s.heap.objs.size ≤ L + 1 + 1 + 1 := Nat.le_succ_of_le hL2
  have hL4 : s.heap.objs.size ≤ L + 1 + 1 + 1 + 1 := Nat.le_succ_of_le hL3
  have hL5 : s.heap.objs.size ≤ L + 1 + 1 + 1 + 1 + 1 := Nat.le_succ_of_le hL4
  refine wpAny_execs_cons ?_
  repeat walk_at "m"
  rename_i F₂
  have pa2 := F₂.base pa
  refine i_sliceL (k := 6) F₂ ⟨oa, pa2.1.1, hca, ka, hda⟩ (by rw [List.size_toArray]; omega) fun D s₂ hD hDb F₃ => ?_
  have hid : IntsAre (vs.take 6) (ns.take 6) := hi.take 6
  have hdl : (vs.take 6).length ≤ 6 := by rw [List.length_take]; omega
  have hnl : (ns.take 6).length ≤ 6 := by rw [List.length_take]; omega
  rw [show vs.toArray.toList = vs from rfl] at F₃
  generalize vs.take 6 = ds at *
  generalize ns.take 6 = dn at *
  repeat walk_at "m"
  rename_i F₄
  refine q_list F₄ (by show 12 ≤ sizeLine; omega) fun T s₃ hT hTb F₅ => ?_
  repeat walk_at "m"
  refine o_addL F₅ (IsL F₅ (.tail _ (.head _))) (IsL F₅ (.head _)) (by show ds.length + 12 ≤ sizeLine; omega) fun V s₄ hV hVb F₆ => ?_
  repeat walk_at "m"
  refine ⟨F₆.kg, ?_⟩
  refine d_page G F₆ (R.mono (by decide)) (F₆.own _ (.head _)).1 (hid.append (ms := [0, 0, 0, 1, 3, 0, 0, 3, 3, 1, 0, 0]) (.cons _ _ (.cons _ _ (.cons _ _ (.cons _ _ (.cons _ _ (.cons _ _ (.cons _ _ (.cons _ _ (.cons _ _ (.cons _ _ (.cons _ _ (.cons _ _ .nil))))))))))))) (by rw [List.length_append]; show _ + 12 ≤ 1000; omega) fun R₀ rv kr s₅ hR hRb hrv F₇ => ?_
  have F₈ : Fm g s L _ (([(R₀, listOf rv.toArray kr), (D, listOf ds.toArray 0)] : List (Addr × Obj)) ++ cells5 L oF oP oH oW oR) s₅ := F₇.sub fun p hp => by
    rcases List.mem_cons.mp hp with rfl | hp
    · exact .head _
    rcases List.mem_cons.mp hp with rfl | hp
    · exact .tail _ (.tail _ (.tail _ (.head _)))
    · exact .tail _ (.tail _ (.tail _ (.tail _ hp)))
  refine n_stc F₈ pe rfl rfl hoR hL1 (updPre upd1 fun p hp => ?_) fun s₆ F₉ => ?_
  · rcases List.mem_cons.mp hp with rfl | hp
    · exact fun e => hR (L + 1, oR) (.tail _ (.tail _ (.tail _ (.tail _ (.tail _ (.tail _ (.tail _ (.head _)))))))) e.symm
    · rw [List.mem_singleton.mp hp]
      exact fun e => hD (L + 1, oR) (.tail _ (.tail _ (.tail _ (.tail _ (.head _))))) e.symm
  have hDc : ∀ p ∈ cells5 L oF oP oH oW oR, p.1 ≠ D := hD
  have hRc : ∀ p ∈ cells5 L oF oP oH oW oR, p.1 ≠ R₀ := fun p hp => hR p (.tail _ (.tail _ (.tail _ hp)))
  have hRD : D ≠ R₀ := hR _ (.tail _ (.tail _ (.head _)))
  have hpz := page_size (dn ++ [0, 0, 0, 1, 3, 0, 0, 3, 3, 1, 0, 0])
  rw [List.length_append, show ([0, 0, 0, 1, 3, 0, 0, 3, 3, 1, 0, 0] : List Int).length = 12 from rfl] at hpz
  have hplt := page_lt (dn ++ [0, 0, 0, 1, 3, 0, 0, 3, 3, 1, 0, 0])
  have hpne : 0 < (page (dn ++ [0, 0, 0, 1, 3, 0, 0, 3, 3, 1, 0, 0])).flatten.length := by
    have e : dn ++ [0, 0, 0, 1, 3, 0, 0, 3, 3, 1, 0, 0] = (dn ++ [0, 0, 0, 1, 3, 0, 0, 3, 3, 1, 0]) ++ [0] := by simp
    rw [e]
    exact page_pos (dn ++ [0, 0, 0, 1, 3, 0, 0, 3, 3, 1, 0])
  clear F₁ F₂ F₃ F₄ F₅ F₆ F₇ F₈
  generalize page (dn ++ [0, 0, 0, 1, 3, 0, 0, 3, 3, 1, 0, 0]) = rows at *
  obtain ⟨ls, rfl, hls⟩ := hrv.strs
  have hpz2 : ∀ r ∈ rows, r.length ≤ 18 := fun r hr => by have := hpz.2 r hr; omega
  have hpz1 : rows.length ≤ 19 := by have := hpz.1; omega
  have hfl := flat_len 18 rows hpz2
  have hfl2 : rows.flatten.length ≤ 19 * 18 := Nat.le_trans hfl (Nat.mul_le_mul_right 18 hpz1)
  clear hfl hpz
  repeat walk_at "m"
  refine m_meth rfl rfl (by decide) rfl PySem.F.plainAttrs_str PySem.F.slot_str_join PySem.F.type_str_join ?_
  walk_at "m"
  rename_i F₁₀
  refine ⟨typeIs_str _ _ _, (fun a e => by cases e), ?_⟩
  repeat walk_at "m"
  refine u_join F₁₀ (IsL F₁₀ (.head _)) ?_ fun tj s₇ F₁₁ => ?_
  · have := fold_short 0 18 (ls.map (·.1)) 0 (fun p hp => by
      rw [hls] at hp
      obtain ⟨r, hr, rfl⟩ := List.mem_map.mp hp
      have := hpz2 r hr
      simpa [Str.length] using this)
    unfold JoinOk tooLong
    rw [List.foldl_toArray, show (Str.ofString "").length = 0 from by decide]
    have h3 : (ls.map (·.1)).length ≤ 19 := by rw [hls, List.length_map]; exact hpz1
    have h4 := Nat.mul_le_mul_right 18 h3
    simp at this h3 h4 ⊢; omega
  rw [hls, join_empty]
  have hsg : (⟨rows.flatten.toArray⟩ : Str).cps.size = rows.flatten.length := by simp
  clear F₉ F₁₀
  repeat walk_at "m"
  refine u_sum R.hh F₁₁ (IsL F₁₁ (.tail _ (.head _))) hid fun ts s₈ F₁₂ => ?_
  repeat walk_at "m"
  rename_i tt _ F₁₃
  refine q_tuple F₁₃ (by show 2 ≤ sizeLine; omega) fun tp s₉ htp _ F₁₄ => ?_
  refine unp2 R.hh F₁₄ (IsT F₁₄ (.head _)) fun s₁₀ F₁₅ => ?_
  generalize dn.sum + 2 = tot at *
  simp only [List.reverse_cons, List.reverse_nil, List.nil_append, List.cons_append]
  repeat walk_at "m"
  rename_i F₁₆
  have F₁₇ : Fm g s L [(Str.ofString "signs", .str ⟨rows.flatten.toArray⟩ tj), (Str.ofString "total", .int tot tt)] ((R₀, listOf (strValues ls).toArray kr) :: cells5 L oF oP oH oW (setC oR (.ref R₀))) _ := (F₁₆.sub fun p hp => by
    rcases List.mem_cons.mp hp with rfl | hp
    · exact .tail _ (.head _)
    · exact .tail _ (.tail _ (.tail _ hp))).weak ⟨rfl, rfl, trivial⟩
  clear F₁₁ F₁₂ F₁₃ F₁₄ F₁₅ F₁₆ htp
  obtain ⟨bg, hbg, hbl⟩ : ∃ bg : Nat, (tot.fdiv 5).fmod (((⟨rows.flatten.toArray⟩ : Str).cps.size : Nat) : Int) = (bg : Int) ∧ bg < rows.flatten.length := by
    rw [hsg]
    have h0 := Int.fmod_nonneg_of_pos (tot.fdiv 5) (show (0 : Int) < (rows.flatten.length : Int) by omega)
    have h1 := Int.fmod_lt_of_pos (tot.fdiv 5) (show (0 : Int) < (rows.flatten.length : Int) by omega)
    exact ⟨((tot.fdiv 5).fmod rows.flatten.length).toNat, by omega, by omega⟩
  obtain ⟨m, hm, hm5⟩ : ∃ m : Nat, tot.fmod 5 = (m : Int) ∧ m < 5 := by
    have h0 := Int.fmod_nonneg_of_pos tot (show (0 : Int) < 5 by decide)
    have h1 := Int.fmod_lt_of_pos tot (show (0 : Int) < 5 by decide)
    exact ⟨(tot.fmod 5).toNat, by omega, by omega⟩
  refine o_mod (by rw [hsg]; omega) F₁₇ fun tb s₁₁ F₁₈ => ?_
  rw [hbg]
  clear F₁₇
  repeat walk_at "m"
  rename_i F₁₉
  rw [hm, show (bg : Int) + (m : Int) = ((bg + m : Nat) : Int) by omega]
  refine i_slice (i := bg) (j := bg + m) F₁₉ (by omega) (by show (⟨rows.flatten.toArray⟩ : Str).cps.size ≤ sizeLine; omega) fun tw s₁₂ F₂₀ => ?_
  rw [show (⟨rows.flatten.toArray⟩ : Str).cps.toList = rows.flatten from rfl, show bg + m - bg = m by omega] at *
  have hw4 : ((rows.flatten.drop bg).take m).length ≤ 4 := by rw [List.length_take]; omega
  have hwc : ∀ c ∈ (rows.flatten.drop bg).take m, c < 256 := fun c hc => by
    obtain ⟨r, hr, hcr⟩ := List.mem_flatten.mp (List.mem_of_mem_drop (List.mem_of_mem_take hc))
    exact hplt r hr c hcr
  generalize (rows.flatten.drop bg).take m = word at *
  clear F₁₈ F₁₉
  repeat walk_at "m"
  refine n_stc F₂₀ pe rfl rfl hoW hL2 (.tail (fun e => hRc (L + 1 + 1, oW) (.tail _ (.tail _ (.tail _ (.head _)))) e.symm) upd2) fun s₁₃ F₂₁ => ?_
  repeat walk_at "m"
  rename_i F₂₂
  refine u_abs F₂₂ fun tab s₁₄ F₂₃ => ?_
  repeat walk_at "m"
  rename_i F₂₄
  obtain ⟨hd, hhd, hhl⟩ : ∃ hd : Nat, 98 + ((if tot < 0 then -tot else tot).fdiv 7).fmod (10 ^ Int.toNat 30) = (hd : Int) ∧ (hd : Int) < 10 ^ 35 := by
    have h0 := Int.fmod_nonneg_of_pos ((if tot < 0 then -tot else tot).fdiv 7) (show (0 : Int) < 10 ^ Int.toNat 30 by decide)
    have h1 := Int.fmod_lt_of_pos ((if tot < 0 then -tot else tot).fdiv 7) (show (0 : Int) < 10 ^ Int.toNat 30 by decide)
    have h2 : (10 : Int) ^ Int.toNat 30 + 98 < 10 ^ 35 := by decide
    exact ⟨(98 + ((if tot < 0 then -tot else tot).fdiv 7).fmod (10 ^ Int.toNat 30)).toNat, by omega, by omega⟩
  rw [hhd]
  refine n_stc F₂₄ pe rfl rfl hoH hL3 (.tail (fun e => hRc (L + 1 + 1 + 1, oH) (.tail _ (.tail _ (.head _))) e.symm) upd3) fun s₁₅ F₂₅ => ?_
  refine d_tail G R (hoF.trans rfl) (hoP.trans rfl) hL4 hL5 hrv hls hpz1 hpz2 hplt hsg hfl2 hw4 hwc hhl (F₂₅.weak ⟨rfl, trivial⟩) h
end
end Mine
/- F99 -/
namespace Mine
open PyProof.Rows PySem PySem.W
theorem law_end : PySem.Challenge.rw_mq0057_01.Holds := hd (by
  intro w s₀ s₁ mg mb G Y fa o pm cd doc dV kV ho hd' hcd hD hmg hg args vals as hpre hlay hrd hwl hlo
  have KX := km_in_of Y
  have hT8 := km_tabs_of Y
  refine Ground.open G ?_
  intro T B D TE TW
  have hT9 : TabsAt [(65, 61), (72, 68)] s₁.heap := fun q hq => by
    rcases List.mem_cons.mp hq with rfl | hq
    · exact ⟨codeHd_of_K (c := 65) (P := 61) KX (by kernel_rfl), hT8 61 (.head _)⟩
    · rw [List.mem_singleton.mp hq]
      exact ⟨codeHd_of_K (c := 72) (P := 68) KX (by kernel_rfl), hT8 68 (.tail _ (.head _))⟩
  have Gg : Gs w (ghostOf s₁.heap [(65, 61), (72, 68)]) := {
    K := ghost_K hT9 KX (by kernel_rfl)
    T := ⟨_, _, _, _, ghost_top hT9 T⟩
    C1 := (ghost_code hT9).1
    C2 := (ghost_code hT9).2.1
    n1 := hideAll_none _ (.head _)
    n2 := hideAll_none _ (.tail _ (.head _)) }
  have tab : ∀ P, P ∈ [61, 68] → TabOk s₁.heap P := fun P hP => ⟨#[], hT8 P hP, trivial, fun pos cv e => by cases e⟩
  have td : Td s₁.heap := ⟨tab 61 (.head _), tab 68 (.tail _ (.head _))⟩
  have hfa : fa = 97 := by
    have e := mg_of (n := Str.ofString "law") KX T.g (v := .ref 97) (by kernel_rfl)
    have hmg' : mg (Str.ofString "law") = some (.ref fa) := hmg
    rw [hmg'] at e
    cases e
    rfl
  subst hfa
  clear hmg hd' ho hcd hD
  wrow_args hpre hlay hrd hwl hlo
  rename_i ns _ _ _ _ _ _ _ a vs _ hL _ _ _ hI _ hc _
  refine wpAny_mono (d_law Gg (fun b o e => of_hideAll _ e) td (Nat.le_of_eq (hideAll_size _ _)) ⟨rfl, by decide, by decide⟩ hL hI (by omega) (Q := fun v s' => v = .bool true ∧ Le s₁ s' ∧ Td s'.heap) fun s' hle htd => ⟨rfl, hle, htd⟩) (fun v s' q => ?_) fun _ _ e => e.elim
  obtain ⟨rfl, hle, htd⟩ := q
  have tabs : ∀ b o, b ∈ [61, 68] → s₁.heap.get? b = some o → isCodeTable s₁.heap b ∧ o = tabObj #[] ∧ ∃ ps, s'.heap.get? b = some (tabObj ps) := fun b o hb e => by
    have e2 := hT8 b hb
    rw [e] at e2
    rcases List.mem_cons.mp hb with rfl | hb
    · obtain ⟨ps, hP, _⟩ := htd.1
      exact ⟨((hT9 (65, 61) (.head _)).1.tab (hT8 61 (.head _))).isCodeTable, Option.some.inj e2, ps, hP⟩
    · obtain rfl := List.mem_singleton.mp hb
      obtain ⟨ps, hP, _⟩ := htd.2
      exact ⟨((hT9 (72, 68) (.tail _ (.head _))).1.tab (hT8 68 (.tail _ (.head _)))).isCodeTable, Option.some.inj e2, ps, hP⟩
  have keep : ∀ b o, b ∉ [61, 68] → s₁.heap.get? b = some o → s'.heap.get? b = some o := fun b o hb e =>
    hle.kp b o (fun q => hb (q ▸ .head _)) (fun q => hb (q ▸ .tail _ (.head _))) e
  refine ⟨.inl ⟨_, .bool true, [], rfl, fun _ => rfl, .bool true, by kernel_rfl, fun _ => ⟨.nil, fun _ ha => nomatch ha⟩⟩, ⟨fun b o e => ?_, fun b o e => ?_⟩, hle.os, .of_eq (hle.gens.trans hg)⟩
  · by_cases hb : b ∈ [61, 68]
    · obtain ⟨ht, rfl, ps, hP⟩ := tabs b o hb e
      exact .inr (.inl ⟨ht, rfl, #[], ps, rfl, by rw [Array.empty_append]; exact hP⟩)
    · exact .inl (keep b o hb e)
  · by_cases hb : b ∈ [61, 68]
    · obtain ⟨_, _, ps, hP⟩ := tabs b o hb e
      exact ⟨_, hP⟩
    · exact ⟨o, keep b o hb e⟩)
end Mine
theorem PySem.Challenge.cw_mq0057_01_holds : PySem.Challenge.rw_mq0057_01.Holds :=
  Mine.law_end
