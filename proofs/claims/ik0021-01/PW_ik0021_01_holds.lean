import PyProof.Rows.All
import Wide.All
import OpenK.AllK
import Wide.FinOn
import PySem.Challenge.RW_ik0021_01
set_option Elab.async false
section
open PySem PySem.W PyProof.Rows
set_option maxRecDepth 100000
set_option maxHeartbeats 8000000
namespace Mine
open_top hd for PySem.Challenge.rw_ik0021_01
end Mine
end
section
open PySem PySem.W PyProof.Rows
namespace Mine
def digs (n : Nat) : List Nat := if _h : n = 0 then [] else digs (n / 16) ++ [n % 16]
def ap (n : Nat) : Array UInt8 := ((digs n).map fun d => UInt8.ofNat (65 + d)).toArray
theorem digs_zero : digs 0 = [] := by unfold digs; simp
theorem digs_pos {n : Nat} (h : n ≠ 0) : digs n = digs (n / 16) ++ [n % 16] := by rw [digs, dif_neg h]
theorem ap_zero : ap 0 = #[] := by simp [ap, digs_zero]
theorem ap_pos {n : Nat} (h : n ≠ 0) : ap n = ap (n / 16) ++ #[UInt8.ofNat (65 + n % 16)] := by simp [ap, digs_pos h]
theorem ap_size (n : Nat) : (ap n).size = (digs n).length := by simp [ap]
theorem pick16 (r : Nat) (hr : r < 16) : KBy.picked #[65, 66, 67, 68, 69, 70, 71, 72, 73, 74, 75, 76, 77, 78, 79, 80] (some (r : Int)) (some ((r : Int) + 1)) = #[UInt8.ofNat (65 + r)] := by
  have e : ((r : Int) + 1) = ((r + 1 : Nat) : Int) := by omega
  rw [KBc.picked_eq, e]
  simp only [Option.elim, clipAt_nat]
  have : r = 0 ∨ r = 1 ∨ r = 2 ∨ r = 3 ∨ r = 4 ∨ r = 5 ∨ r = 6 ∨ r = 7 ∨ r = 8 ∨ r = 9 ∨ r = 10 ∨ r = 11 ∨ r = 12 ∨ r = 13 ∨ r = 14 ∨ r = 15 := by omega
  rcases this with h | h | h | h | h | h | h | h | h | h | h | h | h | h | h | h <;> subst h <;> decide +kernel
theorem ap_start {n : Int} (h : 0 ≤ n ∧ (digs n.toNat).length ≤ 4096) :
    (0 ≤ if n < 0 then -n else n) ∧ ap n.toNat = ap (if n < 0 then -n else n).toNat ++ #[] ∧ (ap n.toNat).size ≤ 4096 := by
  have : ¬ n < 0 := by omega
  rw [if_neg this]
  exact ⟨h.1, by simp, by rw [ap_size]; exact h.2⟩
theorem ap_turn {n : Nat} {x : Int} {val : Array UInt8} (h0 : 0 ≤ x) (hx : x ≠ 0) (h1 : ap n = ap x.toNat ++ val) (h2 : (ap n).size ≤ 4096) :
    0 ≤ x.fdiv 16 ∧ ap n = ap (x.fdiv 16).toNat ++ ((KBy.picked #[65, 66, 67, 68, 69, 70, 71, 72, 73, 74, 75, 76, 77, 78, 79, 80] (some (x.fmod 16)) (some (x.fmod 16 + 1))).toList ++ val.toList).toArray ∧ (ap n).size ≤ 4096 := by
  obtain ⟨k, rfl⟩ := Int.eq_ofNat_of_zero_le h0
  have e1 : (k : Int).fdiv 16 = ((k / 16 : Nat) : Int) := by rw [Int.fdiv_eq_ediv_of_nonneg _ (by omega)]; omega
  have e2 : (k : Int).fmod 16 = ((k % 16 : Nat) : Int) := by rw [Int.fmod_eq_emod_of_nonneg _ (by omega)]; omega
  rw [e1, e2, pick16 _ (Nat.mod_lt _ (by omega))]
  refine ⟨by omega, ?_, h2⟩
  rw [h1]
  simp only [Int.toNat_natCast]
  rw [ap_pos (n := k) (by omega)]
  apply Array.toList_inj.mp
  simp
theorem ap_less {x : Int} (h0 : 0 ≤ x) (hx : x ≠ 0) : (x.fdiv 16).toNat < x.toNat := by
  have : x.fdiv 16 = x / 16 := by rw [Int.fdiv_eq_ediv_of_nonneg _ (by omega)]
  omega
theorem ap_room {n : Nat} {x : Int} {val b : Array UInt8} {lo hi : Option Int} (hb : b.size ≤ 16) (h1 : ap n = ap x.toNat ++ val) (h2 : (ap n).size ≤ 4096) : (KBy.picked b lo hi).size + val.size ≤ 16777216 := by
  have := KBc.size_picked_le b lo hi
  have e := congrArg Array.size h1
  rw [Array.size_append] at e
  omega
theorem ap_end {n : Nat} {x : Int} {val : Array UInt8} (h1 : ap n = ap x.toNat ++ val) (hx : x = 0) : val = ap n := by
  rw [h1, hx]; simp [ap_zero]
theorem ret_bytes {h₀ h' : Heap} {L : Addr} {m : Str → Option Value} {news : List (Addr × Obj)} {s : Shared} {Q : Value → Shared → Prop} {t : Tok} {tk' : Nat} {x y : Array UInt8} (hret : ∀ (t : Tok) (h' : Heap) (tk' : Nat), Fr h₀ L h' m → News h₀ L h' news → Q (.bytes x t) { s with heap := h', toks := tk' }) (e : y = x) (F : Fr h₀ L h' m) (N : News h₀ L h' news) : Q (.bytes y t) { s with heap := h', toks := tk' } := by
  subst e
  exact hret t h' tk' F N
def wd (n : Nat) : Str := ⟨((digs n).map fun d => 65 + d).toArray⟩
theorem digs_lt : ∀ (n : Nat), ∀ d ∈ digs n, d < 16 := by
  intro n
  induction n using Nat.strongRecOn with
  | _ n ih =>
    intro d hd
    by_cases h : n = 0
    · subst h; rw [digs_zero] at hd; cases hd
    · rw [digs_pos h] at hd
      rcases List.mem_append.mp hd with hd | hd
      · exact ih (n / 16) (by omega) d hd
      · rw [List.mem_singleton.mp hd]; omega
theorem strs_snoc {ys : List Value} {l : List Int} {g : Int → Str} {i : Nat} {k : Int} {t : Tok} (hS : StrsAre ys ((l.take i).map g)) (hk : l[i]? = some k) : StrsAre (ys ++ [.str (g k) t]) ((l.take (i + 1)).map g) := by
  rw [List.take_add_one, hk]
  simpa using kct_snoc hS
theorem join_flat : ∀ (l : List Str), (Txt.join (Str.ofString "") l).cps.toList = (l.map fun a => a.cps.toList).flatten := by
  intro l
  show (Builtin.Str.glued (Str.ofString "") l).cps.toList = _
  rw [StrLaws.glued_eq_join]
  have z : (Str.ofString "").cps.toList = [] := by decide
  induction l with
  | nil => rfl
  | cons a r ih =>
    cases r with
    | nil => simp [Str.join]
    | cons b r' =>
      show (a ++ Str.ofString "" ++ Str.join (Str.ofString "") (b :: r')).cps.toList = _
      rw [Str.cps_append, Str.cps_append, Array.toList_append, Array.toList_append, z, ih]
      simp
theorem str_ext {a b : Str} (h : a.cps.toList = b.cps.toList) : a = b := by
  cases a; cases b
  simp only [Str.mk.injEq]
  exact Array.toList_inj.mp h
theorem join_word (n : Nat) : Txt.join (Str.ofString "") ((KBw.bInts (ap n)).map fun k => (⟨#[k.toNat]⟩ : Str)) = wd n := by
  apply str_ext
  rw [join_flat]
  have h := digs_lt n
  simp only [KBw.bInts, ap, wd, List.map_map]
  generalize digs n = l at h
  induction l with
  | nil => rfl
  | cons d r ih =>
    have hd := h d (by simp)
    have ih' := ih (fun x hx => h x (by simp [hx]))
    simp only [List.map_cons, List.flatten_cons] at ih' ⊢
    rw [ih']
    have : (UInt8.ofNat (65 + d)).toNat = 65 + d := by rw [UInt8.toNat_ofNat']; omega
    simp [Function.comp]; omega
theorem ret_str {h₀ h' : Heap} {L : Addr} {m : Str → Option Value} {news : List (Addr × Obj)} {s : Shared} {Q : Value → Shared → Prop} {t : Tok} {tk' : Nat} {x y : Str} (hret : ∀ (t : Tok) (h' : Heap) (tk' : Nat), Fr h₀ L h' m → News h₀ L h' news → Q (.str x t) { s with heap := h', toks := tk' }) (e : y = x) (F : Fr h₀ L h' m) (N : News h₀ L h' news) : Q (.str y t) { s with heap := h', toks := tk' } := by
  subst e
  exact hret t h' tk' F N
theorem ap_size_le {n : Nat} {x : Int} (h : 0 ≤ x ∧ (digs n).length ≤ 4096) : (ap n).size ≤ sizeLine := by
  rw [ap_size, sizeLine_eq]; omega
theorem ap_size_le' {n : Nat} {x : Int} (h : 0 ≤ x ∧ (digs n).length ≤ 4096) : (ap n).size ≤ 1048576 := by
  rw [ap_size]; omega
/-- the parts of a table, joined along figures -/
def jstep (ps : Nat → Nat × Nat) (r : Nat × Nat) (d : Nat) : Nat × Nat := (r.1 * 16 ^ (ps d).2 + (ps d).1, r.2 + (ps d).2)
def jn (ps : Nat → Nat × Nat) (ds : List Nat) : Nat × Nat := ds.foldl (jstep ps) (0, 0)
inductive TupObj (o : Obj) (p : Nat × Nat) : Prop where
  | mk (hc : o.cls = .type "tuple") (t0 t1 : Tok) (n : Nat) (hd : o.data = .seq #[.int (p.1 : Int) t0, .int (p.2 : Int) t1] n)
inductive PartAt (news : List (Addr × Obj)) (a : Addr) (p : Nat × Nat) : Prop where
  | mk (o : Obj) (hm : (a, o) ∈ news) (ho : TupObj o p)
inductive PartsObj (news : List (Addr × Obj)) (o : Obj) (ps : Nat → Nat × Nat) : Prop where
  | mk (vs : List Value) (hc : o.cls = .type "list") (c : Nat) (hd : o.data = .seq vs.toArray c) (hl : vs.length = 16) (at' : ∀ i, i < 16 → ∃ a, vs[i]? = some (.ref a) ∧ PartAt news a (ps i))
inductive PartsAt (news : List (Addr × Obj)) (pl : Addr) (ps : Nat → Nat × Nat) : Prop where
  | mk (o : Obj) (hm : (pl, o) ∈ news) (ho : PartsObj news o ps)
structure Sized (B : Nat) (ps : Nat → Nat × Nat) : Prop where
  each : ∀ d, d < 16 → (ps d).2 ≤ B ∧ (ps d).1 < 16 ^ (ps d).2
theorem PartAt.mono {news news' : List (Addr × Obj)} {a : Addr} {p : Nat × Nat} (h : PartAt news a p) (hs : ∀ q ∈ news, q ∈ news') : PartAt news' a p := let ⟨o, hm, r⟩ := h; ⟨o, hs _ hm, r⟩
theorem PartsObj.mono {news news' : List (Addr × Obj)} {o : Obj} {ps : Nat → Nat × Nat} (h : PartsObj news o ps) (hs : ∀ q ∈ news, q ∈ news') : PartsObj news' o ps :=
  let ⟨vs, h1, c, h2, h3, h4⟩ := h; ⟨vs, h1, c, h2, h3, fun i hi => let ⟨a, e, x⟩ := h4 i hi; ⟨a, e, x.mono hs⟩⟩
theorem PartsAt.mono {news news' : List (Addr × Obj)} {a : Addr} {ps : Nat → Nat × Nat} (h : PartsAt news a ps) (hs : ∀ q ∈ news, q ∈ news') : PartsAt news' a ps := let ⟨o, hm, r⟩ := h; ⟨o, hs _ hm, r.mono hs⟩
theorem jn_snoc (ps : Nat → Nat × Nat) (l : List Nat) (d : Nat) : jn ps (l ++ [d]) = jstep ps (jn ps l) d := by simp [jn]
theorem jstep_sized {B : Nat} {ps : Nat → Nat × Nat} (hB : Sized B ps) {r : Nat × Nat} {d : Nat} (hd : d < 16) (hr : r.1 < 16 ^ r.2) : (jstep ps r d).2 ≤ r.2 + B ∧ (jstep ps r d).1 < 16 ^ (jstep ps r d).2 := by
  have h2 := hB.each d hd
  simp only [jstep]
  refine ⟨by omega, ?_⟩
  rw [Nat.pow_add]
  have h3 : r.1 + 1 ≤ 16 ^ r.2 := hr
  have h4 := Nat.mul_le_mul_right (16 ^ (ps d).2) h3
  rw [Nat.add_mul, Nat.one_mul] at h4
  omega
theorem fold_sized {B : Nat} {ps : Nat → Nat × Nat} (hB : Sized B ps) : ∀ (l : List Nat) (r : Nat × Nat), (∀ d ∈ l, d < 16) → r.1 < 16 ^ r.2 → (l.foldl (jstep ps) r).2 ≤ r.2 + l.length * B ∧ (l.foldl (jstep ps) r).1 < 16 ^ (l.foldl (jstep ps) r).2
  | [], r, _, hr => by simpa using hr
  | d :: l, r, hl, hr => by
    have h1 := jstep_sized hB (r := r) (hl d (by simp)) hr
    have h2 := fold_sized hB l (jstep ps r d) (fun x hx => hl x (by simp [hx])) h1.2
    rw [List.foldl_cons]
    refine ⟨?_, h2.2⟩
    rw [List.length_cons, Nat.add_mul, Nat.one_mul]
    omega
theorem jn_sized {B : Nat} {ps : Nat → Nat × Nat} (hB : Sized B ps) (l : List Nat) (hl : ∀ d ∈ l, d < 16) : (jn ps l).2 ≤ l.length * B ∧ (jn ps l).1 < 16 ^ (jn ps l).2 := by
  have := fold_sized hB l (0, 0) hl (by decide)
  simpa [jn] using this
structure Figs (n : Nat) (x : Int) (fs : List Int) : Prop where
  pos : 0 ≤ x
  eq : (digs n).map (fun (d : Nat) => (d : Int)) = (digs x.toNat).map (fun (d : Nat) => (d : Int)) ++ fs.reverse
  le : (digs n).length ≤ 8
theorem figs_start {n : Int} (h : 0 ≤ n) (h8 : (digs n.toNat).length ≤ 8) : Figs n.toNat n [] := ⟨h, by simp, h8⟩
theorem figs_turn {n : Nat} {x : Int} {fs : List Int} (hx : x ≠ 0) (h : Figs n x fs) : Figs n (x.fdiv 16) (fs ++ [x.fmod 16]) := by
  obtain ⟨h0, h1, h8⟩ := h
  obtain ⟨k, rfl⟩ := Int.eq_ofNat_of_zero_le h0
  have e1 : (k : Int).fdiv 16 = ((k / 16 : Nat) : Int) := by rw [Int.fdiv_eq_ediv_of_nonneg _ (by omega)]; omega
  have e2 : (k : Int).fmod 16 = ((k % 16 : Nat) : Int) := by rw [Int.fmod_eq_emod_of_nonneg _ (by omega)]; omega
  rw [e1, e2]
  refine ⟨by omega, ?_, h8⟩
  rw [h1]
  simp only [Int.toNat_natCast]
  rw [digs_pos (n := k) (by omega)]
  simp
theorem figs_len {n : Nat} {x : Int} {fs : List Int} (h : Figs n x fs) : fs.length ≤ 8 := by
  have := congrArg List.length h.eq
  have h8 := h.le
  simp at this
  omega
theorem figs_size {n : Nat} {x : Int} {fs : List Int} {vs : List Value} (hi : IntsAre vs fs) (h : Figs n x fs) : vs.toArray.size ≤ sizeLine := by
  have := hi.length
  have h2 := figs_len h
  rw [List.size_toArray, sizeLine_eq]
  omega
theorem figs_end {n : Nat} {x : Int} {fs : List Int} (h : Figs n x fs) (hx : x = 0) : fs = ((digs n).map (fun (d : Nat) => (d : Int))).reverse := by
  subst hx
  have := h.eq
  simp [digs_zero] at this
  rw [this]; simp
structure JAt (ps : Nat → Nat × Nat) (ds : List Nat) (j : Nat) (W S : Int) : Prop where
  w : W = ((jn ps (ds.take j)).1 : Int)
  s : S = ((jn ps (ds.take j)).2 : Int)
theorem jat_start (ps : Nat → Nat × Nat) (ds : List Nat) : JAt ps ds 0 0 0 := ⟨by simp [jn], by simp [jn]⟩
theorem fig_at {ds : List Nat} {fs : List Int} {i : Nat} (h : fs = (ds.map (fun (d : Nat) => (d : Int))).reverse) (hi : i < fs.length) : fs.getD ((fs.length : Int) - 1 + (i : Int) * -1).toNat 0 = ((ds.getD i 0 : Nat) : Int) := by
  have e : ((fs.length : Int) - 1 + (i : Int) * -1).toNat = fs.length - 1 - i := by omega
  rw [e]
  have hl : fs.length = ds.length := by rw [h]; simp
  have hi' : i < ds.length := by omega
  rw [List.getD_eq_getElem?_getD, List.getD_eq_getElem?_getD]
  subst h
  rw [List.getElem?_reverse (by simp at hi ⊢; omega)]
  have : (List.map (fun (d : Nat) => (d : Int)) ds).length - 1 - ((List.map (fun (d : Nat) => (d : Int)) ds).reverse.length - 1 - i) = i := by simp; omega
  rw [this]
  simp [hi']
theorem jat_turn {ps : Nat → Nat × Nat} {ds : List Nat} {i : Nat} {W S : Int} (h : JAt ps ds i W S) (hi : i < ds.length) :
    JAt ps ds (i + 1) (W * 16 ^ (((ps (ds.getD i 0)).2 : Nat) : Int).toNat + (((ps (ds.getD i 0)).1 : Nat) : Int)) (S + (((ps (ds.getD i 0)).2 : Nat) : Int)) := by
  have e : ds.take (i + 1) = ds.take i ++ [ds.getD i 0] := by
    rw [List.take_add_one]; simp [hi, List.getD_eq_getElem?_getD]
  constructor
  · rw [e, jn_snoc, h.w]; simp [jstep]
  · rw [e, jn_snoc, h.s]; simp [jstep]
theorem jat_tup {ps : Nat → Nat × Nat} {ds : List Nat} {j : Nat} {W S : Int} {tw ts : Tok} {n : Nat} (h : JAt ps ds j W S) (hj : j = ds.length) : TupObj { cls := .type "tuple", data := .seq #[.int W tw, .int S ts] n } (jn ps ds) := by
  subst hj
  have h1 := h.w
  have h2 := h.s
  rw [List.take_length] at h1 h2
  exact ⟨rfl, tw, ts, n, by rw [h1, h2]⟩
theorem bits_of_lt {x k : Nat} (h : x < 16 ^ k) (hk : k ≤ 100000) : Builtin.Int.intBits (x : Int) ≤ 2 ^ 20 := by
  have h1 : (x : Int).natAbs < 2 ^ (4 * k) := by
    have : (16 : Nat) ^ k = 2 ^ (4 * k) := by rw [Nat.pow_mul]
    rw [← this]; simpa using h
  have h2 := PyProof.Rows.intBits_le h1
  have : (2 : Nat) ^ 20 = 1048576 := by decide
  omega
theorem jn_take_bound {ps : Nat → Nat × Nat} {ds : List Nat} (hB : Sized 64 ps) (h8 : ds.length ≤ 8) (hlt : ∀ d ∈ ds, d < 16) (i : Nat) : (jn ps (ds.take i)).2 ≤ 512 ∧ (jn ps (ds.take i)).1 < 16 ^ (jn ps (ds.take i)).2 := by
  have h := jn_sized hB (ds.take i) fun d hd => hlt d (List.mem_of_mem_take hd)
  have hl : (ds.take i).length ≤ 8 := by rw [List.length_take]; omega
  exact ⟨by omega, h.2⟩
theorem jat_mul {ps : Nat → Nat × Nat} {ds : List Nat} {i : Nat} {W S : Int} (h : JAt ps ds i W S) (hB : Sized 64 ps) (h8 : ds.length ≤ 8) (hlt : ∀ d ∈ ds, d < 16) {k : Nat} (hk : k ≤ 64) : IntMulOk W (16 ^ ((k : Nat) : Int).toNat) := by
  have h1 := jn_take_bound hB h8 hlt i
  rw [h.w]
  refine IntMulOk.of_bits (bits_of_lt h1.2 (by omega)) ?_
  have : ((16 : Int) ^ ((k : Nat) : Int).toNat) = ((16 ^ k : Nat) : Int) := by simp
  rw [this]
  exact bits_of_lt (k := k + 1) (by rw [Nat.pow_succ]; have := Nat.pow_pos (n := k) (show 0 < 16 by decide); omega) (by omega)
section
variable {prog : Program} {w : World} {A : Around} {E : Value → Shared → Prop} {s : Shared} {h₀ : Heap} {L : Addr} {m : Str → Option Value}
theorem parts_item {value slice : Expr} {news nw : List (Addr × Obj)} {pl : Addr} {ps : Nat → Nat × Nat} {d : Int} {k : Nat} {u : Tok} {Q : Value → Shared → Prop} (hP : PartsAt news pl ps) (N : News h₀ L s.heap nw) (hsub : ∀ p ∈ news, p ∈ nw) (e : d = ((k : Nat) : Int)) (hk : k < 16)
    (h : ∀ a, PartAt news a (ps k) → Q (.ref a) s)
    (hs : subscripted slice false (.ref pl) (.int d u) = operate [.ref pl, .int d u] (getItem (.ref pl) (.int d u)) := by with_unfolding_all rfl) :
    wpAny (model prog w) A (subscriptTail value slice (.ref pl) (.int d u)) Q E s := by
  obtain ⟨o, hm, vs, hc, c, hd, hl, hat⟩ := hP
  obtain ⟨a, ha, hpa⟩ := hat k hk
  have hL : s.heap.IsList pl vs.toArray := ⟨o, (N _ (hsub _ hm)).1, hc, c, hd⟩
  exact tail_any hL.typeIs slot_list_getitem.lookup (wpAny_getItem_list hL (by omega) (by omega) (by rw [e]; simpa using ha) (h a hpa)) hs
theorem part_one {value slice : Expr} {news nw : List (Addr × Obj)} {a : Addr} {p : Nat × Nat} {u : Tok} {Q : Value → Shared → Prop} (hA : PartAt news a p) (N : News h₀ L s.heap nw) (hsub : ∀ p ∈ news, p ∈ nw)
    (h : ∀ t, Q (.int (p.2 : Int) t) s)
    (hs : subscripted slice false (.ref a) (.int 1 u) = operate [.ref a, .int 1 u] (getItem (.ref a) (.int 1 u)) := by with_unfolding_all rfl) :
    wpAny (model prog w) A (subscriptTail value slice (.ref a) (.int 1 u)) Q E s := by
  obtain ⟨o, hm, hc, t0, t1, n, hd⟩ := hA
  exact item_tupleT (l := [.int (p.1 : Int) t0, .int (p.2 : Int) t1]) ⟨o, (N _ (hsub _ hm)).1, hc, n, hd⟩ (by decide) (by decide) rfl rfl (h t1) hs
theorem part_zero {value slice : Expr} {news nw : List (Addr × Obj)} {a : Addr} {p : Nat × Nat} {u : Tok} {Q : Value → Shared → Prop} (hA : PartAt news a p) (N : News h₀ L s.heap nw) (hsub : ∀ p ∈ news, p ∈ nw)
    (h : ∀ t, Q (.int (p.1 : Int) t) s)
    (hs : subscripted slice false (.ref a) (.int 0 u) = operate [.ref a, .int 0 u] (getItem (.ref a) (.int 0 u)) := by with_unfolding_all rfl) :
    wpAny (model prog w) A (subscriptTail value slice (.ref a) (.int 0 u)) Q E s := by
  obtain ⟨o, hm, hc, t0, t1, n, hd⟩ := hA
  exact item_tupleT (l := [.int (p.1 : Int) t0, .int (p.2 : Int) t1]) ⟨o, (N _ (hsub _ hm)).1, hc, n, hd⟩ (by decide) (by decide) rfl rfl (h t0) hs
end
end Mine
end
section
open PySem PySem.W PyProof.Rows
set_option maxRecDepth 100000
set_option maxHeartbeats 8000000
namespace Mine
noncomputable abbrev lo : List Str := looseW hd.view_39 [Str.ofString "escape", Str.ofString "unescape", Str.ofString "quoteattr"]
local macro_rules | `(tactic| walk_at "subscriptTail") => `(tactic| (k_here; (with_reducible show wpAny _ _ (subscriptTail _ (Expr.Slice _ _ none _) (Value.bytes _ _) (Value.ref _)) _ _ _); (with_reducible rename Fr _ _ _ _ => F'); (with_reducible rename News _ _ _ _ => N'); (refine KBc.slice_K (s := ⟨_, _, _, _, _⟩) F' N' rfl (by constructor) (by constructor) (by decide) ?_); intro _ _ _ _ _ _))
local macro_rules | `(tactic| kby_size) => `(tactic| exact ap_room (by decide) (by assumption) (by assumption))
abbrev Spec (w : World) (mean : ExcName → Option Value) (mg mb : Str → Option Value) (f : Addr) (vs : List Value) (news : List (Addr × Obj)) (pre : Prop) (d u : Nat) (Ret : Heap → Addr → (Str → Option Value) → Shared → (Value → Shared → Prop) → Prop) : Prop :=
  ∀ (dp un : Nat) (gd : Option (List Code)) (cn : Str) (cs : Scope) (a : Addr) (ccd : Value) (cl : List (Str × Addr)) (outer : List Env) (A₀ : Around) (base h₀ : Heap) (L : Addr) (m : Str → Option Value) (s : Shared) (Q E : Value → Shared → Prop),
    Below A₀ base outer h₀ → Fr h₀ L s.heap m → (hd.heap_39 w.params).In h₀ → News h₀ L s.heap news → Top hd.view_39 lo mean mg mb h₀ → cs.kind = .function →
    pre → dp + d < recursionLimit → un + u < cLine → Ret h₀ L m s Q →
    wpAny (model PySem.Challenge.rw_ik0021_01.row.prog w) (ktrTop dp un gd cn cs L a ccd cl outer) (call (.ref f) vs) Q E s
local macro_rules | `(tactic| walk_at "mine open") => `(tactic| (dsimp only [Spec]; k_fill; (try dsimp only [CbRet]); intros))
theorem int2ap {w : World} {mean : ExcName → Option Value} {mg mb : Str → Option Value} (news : List (Addr × Obj)) (n : Int) (tk : Tok) :
    Spec w mean mg mb 21 [.int n tk] news (0 ≤ n ∧ (digs n.toNat).length ≤ 4096) 1 8 (fun h₀ L m s Q => CbRet h₀ L m news s Q fun t => .bytes (ap n.toNat) t) := by
  w_top off
  walk_at "mine open"
  rename_i hret
  refine wpAny_call ?_
  k_dflt cell_enter
  k_with "state" => first | exact ap_start (by assumption) | exact ap_turn (by assumption) (by assumption) (by assumption) (by assumption)
  k_with "measure" => exact ap_less (by assumption) (by assumption)
  k_with "exec While Name cons nil" => k_while (fun _ num val => 0 ≤ num ∧ ap n.toNat = ap num.toNat ++ val ∧ (ap n.toNat).size ≤ 4096) (fun _ num _ => num.toNat) "num" "val"
  k_steps
  all_goals exact ret_bytes hret (ap_end (by assumption) (by assumption)) (by assumption) (by assumption)
end Mine
end
section
open PySem PySem.W PyProof.Rows PySem.Calls
namespace Mine
section
variable {prog : Program} {w : World} {A : Around} {E : Value → Shared → Prop} {s : Shared} {h₀ : Heap} {L : Addr} {m : Str → Option Value} {env : Env}
theorem comp_rest {elt : Expr} {x : Str} {scope : Scope} {cl : List (Str × Addr)} {S : List (Addr × Obj) → Prop} {P : Nat → Value → Prop} {Fin : List Value → List (Addr × Obj) → Prop} {n : Nat} {news : List (Addr × Obj)}
    (R : Nat → List Value → List (Addr × Obj) → Prop) (h0 : R 0 [] news)
    (turn : ∀ i ys nw v I oI C oC D m₂ h tk (E' : Value → Shared → Prop), i < n → R i ys nw → P i v → LCg.NsObj oC m₂ → m₂ x = some v → Fr h₀ L h m → News h₀ L h ((I, oI) :: (C, oC) :: (D, LCg.lst ys) :: nw) → LCg.Off3 I C D nw → ((@Ne Nat I C) ∧ (@Ne Nat I D) ∧ (@Ne Nat C D)) →
      wpAny (model prog w) A (eval elt (compEnvC scope cl C env)) (LCg.CompEnd h₀ L m { s with heap := h, toks := tk } I oI C oC D (LCg.lst ys) S (fun y news' => R (i + 1) (ys ++ [y]) news')) E' { s with heap := h, toks := tk })
    (fin : ∀ ys nw, R n ys nw → Fin ys nw) : LCg.CompRest prog w A h₀ L m env elt x scope cl s S P Fin n 0 [] news := by
  have key : ∀ (j i : Nat) (ys : List Value) (nw : List (Addr × Obj)), i + j = n → R i ys nw → LCg.CompRest prog w A h₀ L m env elt x scope cl s S P Fin j i ys nw := by
    intro j
    induction j with
    | zero =>
      intro i ys nw hi hr
      have e : i = n := by omega
      subst e
      exact LCg.CompRest.zero (fin ys nw hr)
    | succ j ih =>
      intro i ys nw hi hr
      refine LCg.CompRest.succ ?_
      intro v I oI C oC D m₂ h tk E' hv hC hx F N off ne
      refine wpAny_mono (turn i ys nw v I oI C oC D m₂ h tk E' (by omega) hr hv hC hx F N off ne) (fun y s₂ hq => ?_) fun _ _ e => e
      obtain ⟨h', tk', nw', e, F', N', off', hS, hn⟩ := hq
      exact ⟨h', tk', nw', e, F', N', off', hS, ih (i + 1) _ _ (by omega) hn⟩
  exact key n 0 [] news (by omega) h0

/-- a list comprehension's source, whatever it is -/
def CSrc (prog : Program) (w : World) (A : Around) (h₀ : Heap) (L : Addr) (m : Str → Option Value) (env : Env) (elt : Expr) (x : Str) (scope : Scope) (cl : List (Str × Addr)) (Fin : Shared → List Value → List (Addr × Obj) → Prop) (it : Value) (s₂ : Shared) : Prop :=
  ∃ (I : Addr) (fp : List Addr) (n : Nat) (P : Nat → Value → Prop) (St : Nat → Heap → Prop) (S : List (Addr × Obj) → Prop) (news : List (Addr × Obj)), it = .ref I ∧ Walks prog w A I fp [I] n P St ∧ n ≤ sizeLine ∧ (∀ i h, St i h → ∃ o, h.get? I = some o) ∧
    (∀ i h h' o nw, St i h → h.get? I = some o → h'.get? I = some o → (∀ b o, h₀.get? b = some o → h'.get? b = some o) → News h₀ L h' nw → S nw → St i h') ∧
    St 0 s₂.heap ∧ (∀ b ∈ fp, b < s₂.heap.objs.size) ∧ Fr h₀ L s₂.heap m ∧ News h₀ L s₂.heap news ∧ L ≠ I ∧ h₀.get? I = none ∧ (∀ p ∈ news, p.1 ≠ I) ∧ S news ∧
    LCg.CompRest prog w A h₀ L m env elt x scope cl s₂ S P (Fin s₂) n 0 [] news

theorem ListComp_G {elt iter : Expr} {x : Str} {px : Pos} {scope : Scope} {cl : List (Str × Addr)} {pos : Pos} {Q : Value → Shared → Prop} (F₀ : Fr h₀ L s.heap m)
    (hclos : closureFor scope env = pure cl) (hcell : ∀ y ∈ scope.names, y.2 ≠ .cell) (hkind : scope.kind = .function)
    (hnames : ∀ y ∈ scope.names, y.2 = .local → scope.names.lookup y.1 = some .local) (hx : scope.names.lookup x = some .local)
    (h : wpAny (model prog w) A (eval iter env) (fun xv s₁ => wpAny (model prog w) A (pyIter xv) (CSrc prog w A h₀ L m env elt x scope cl (fun s₂ => LCg.FinE h₀ L m s₂ Q)) E s₁) E s)
    (hs : ∀ x, foldedSetIterable iter env x = pure x := by intro _; rfl) :
    wpAny (model prog w) A (eval (.ListComp elt [⟨.Name x px, iter, [], 0⟩] scope pos) env) Q E s := by
  rw [eval_ListComp]
  refine wpAny_comprehension_free (use := none) rfl hs hclos hkind hnames (wpAny_mono h (fun xv s₁ h₁ => wpAny_mono h₁ (fun it s₂ h₂ => ?_) fun _ _ e => e) fun _ _ e => e)
  obtain ⟨I, fp, n, P, St, S, news, rfl, W, hsz, hIo, hSt, hst, hfp, F, N, hIL, hI₀, off, hS, R⟩ := h₂
  refine LCg.block_U W hsz hIo hSt hcell hkind hx hst hfp F N hIL hI₀ off hS R ?_
  intro D C h tk m' ys news' F' N' o1 hn hC₀ hD₀ hCL hDL hCD offC fin
  refine ⟨m', hn, fun h'' hs'' => fin D h'' tk (F'.change hs'' hCL hC₀) (fun p hp => ?_) o1⟩
  refine ⟨hs''.extBut _ _ ?_ (N' p hp).1, (N' p hp).2⟩
  rcases List.mem_cons.mp hp with rfl | hp
  · exact Ne.symm hCD
  · exact offC p hp

theorem Assign_ListComp_G {elt iter : Expr} {x y : Str} {px py : Pos} {scope : Scope} {cl : List (Str × Addr)} {pos spos : Pos} {Q : Flow → Shared → Prop} (F₀ : Fr h₀ L s.heap m) (hLe : env.locals = L)
    (hsw : swapsWith (.ListComp elt [⟨.Name x px, iter, [], 0⟩] scope pos) (some (.Name y py)) spos.line env = pure true)
    (hclos : closureFor scope env = pure cl) (hcell : ∀ z ∈ scope.names, z.2 ≠ .cell) (hkind : scope.kind = .function)
    (hnames : ∀ z ∈ scope.names, z.2 = .local → scope.names.lookup z.1 = some .local) (hx : scope.names.lookup x = some .local)
    (hy : env.kindOf y = some .local) (hp : (env.scope.kind == .class || (env.scope.kind == .module && env.locals != env.globals)) = false)
    (h : wpAny (model prog w) A (eval iter env) (fun xv s₁ => wpAny (model prog w) A (pyIter xv) (CSrc prog w A h₀ L m env elt x scope cl (fun s₂ => LCg.FinA h₀ L m s₂ y Q)) E s₁) E s)
    (hs : ∀ x, foldedSetIterable iter env x = pure x := by intro _; rfl) :
    wpAny (model prog w) A (exec (.Assign [.Name y py] (.ListComp elt [⟨.Name x px, iter, [], 0⟩] scope pos) spos) env) Q E s := by
  subst hLe
  rw [exec_Assign_Name_used _ _ _ _ hsw]
  refine wpAny_bind (wpAny_standAt (wpAny_bind ?_))
  show wpAny _ A (do let _ ← comprehension (.ListComp elt [⟨.Name x px, iter, [], 0⟩] scope pos) scope env _ (newList []) false (eval iter env) (some (assign (.Name y py) env))) _ _ s
  refine wpAny_bind (wpAny_mono (wpAny_comprehension_free (use := some (assign (.Name y py) env)) (Q := fun _ s' => Q .next s') rfl hs hclos hkind hnames
    (wpAny_mono h (fun xv s₁ h₁ => wpAny_mono h₁ (fun it s₂ h₂ => ?_) fun _ _ e => e) fun _ _ e => e)) (fun _ s' hq => wpAny_pure (wpAny_pure hq)) fun _ _ e => e)
  obtain ⟨I, fp, n, P, St, S, news, rfl, W, hsz, hIo, hSt, hst, hfp, F, N, hIL, hI₀, off, hS, R⟩ := h₂
  refine LCg.block_U W hsz hIo hSt hcell hkind hx hst hfp F N hIL hI₀ off hS R ?_
  intro D C h' tk m' ys news' F' N' o1 hn hC₀ hD₀ hCL hDL hCD offC fin
  show wpAny _ A (assign (.Name y py) env (.ref D)) _ _ _
  refine wpAny_assign_Name (wpAny_storeName_local hy F'.ns (fun h₂ hn₂ hs₂ => ?_) hp)
  have hL₀ : h₀.get? env.locals = none := Heap.get?_none_of_le F'.above
  have F₂ : Fr h₀ env.locals h₂ (fun z => if z = y then some (.ref D) else m z) := ⟨hn₂, fun b o e => hs₂.extBut b o (fun q => by rw [q, hL₀] at e; cases e) (F'.keep b o e), F'.above⟩
  refine ⟨m', hn.sameBut hs₂ hCL, fun h'' hs'' => fin D h'' _ (F₂.change hs'' hCL hC₀) (fun p hp => ?_) o1⟩
  have z : h₂.get? p.1 = some p.2 := hs₂.extBut _ _ (N' p hp).2.1 (N' p hp).1
  refine ⟨hs''.extBut _ _ ?_ z, (N' p hp).2⟩
  rcases List.mem_cons.mp hp with rfl | hp
  · exact Ne.symm hCD
  · exact offC p hp

section
variable {elt : Expr} {x : Str} {scope : Scope} {cl : List (Str × Addr)} {Fin : Shared → List Value → List (Addr × Obj) → Prop} {news : List (Addr × Obj)}
/-- over a bytes -/
theorem csrc_bytes {b : Array UInt8} {t : Tok} (hh : A.handled = none) (F : Fr h₀ L s.heap m) (N : News h₀ L s.heap news) (hsz : b.size ≤ sizeLine)
    (R : ∀ g, LCg.CompRest prog w A h₀ L m env elt x scope cl { s with heap := g } (fun _ => True) (fun i v => ∃ c u, b[i]? = some c ∧ v = .int (c.toNat : Int) u) (Fin { s with heap := g }) b.size 0 [] news) :
    wpAny (model prog w) A (pyIter (.bytes b t)) (CSrc prog w A h₀ L m env elt x scope cl Fin) E s := by
  refine KBw.pyIter_bytes ?_
  have up : ∀ b' o, s.heap.get? b' = some o → (s.heap.push { cls := .type "bytes_iterator", data := .fields #[.bytes b t, .int 0 0] }).get? b' = some o := fun b' o e => Heap.get?_push_of_some _ e
  refine ⟨s.heap.objs.size, [s.heap.objs.size], b.size, _, _, fun _ => True, news, rfl, KBw.walks hh s.heap.objs.size b t, hsz, fun i h st => ?_, fun i h h' o nw st e e' _ _ _ => ?_, ⟨_, Heap.get?_push_size _ rfl, rfl, rfl⟩, fun b' hb => ?_, F.keeps up, N.grown up, Nat.ne_of_lt F.ns.lt, next_is_new F, fun p hp => Nat.ne_of_lt (Heap.lt_size (N p hp).1), trivial, R _⟩
  · obtain ⟨o, e, _⟩ := st; exact ⟨o, e⟩
  · obtain ⟨o', q, r⟩ := st; rw [e] at q; cases q; exact ⟨o, e', r⟩
  · rw [List.mem_singleton.mp hb]
    show s.heap.objs.size < (s.heap.push _).objs.size
    rw [Heap.size_push]; exact Nat.lt_succ_self _
/-- over a list, of the call's own or the base's -/
theorem csrc_list {ax : Addr} {its : Array Value} (hh : A.handled = none) (F : Fr h₀ L s.heap m) (N : News h₀ L s.heap news) (S : LCg.SrcAt h₀ ax its news) (hsz : its.size ≤ sizeLine)
    (R : ∀ g, LCg.CompRest prog w A h₀ L m env elt x scope cl { s with heap := g } (LCg.SrcAt h₀ ax its) (fun i v => its[i]? = some v) (Fin { s with heap := g }) its.size 0 [] news) :
    wpAny (model prog w) A (pyIter (.ref ax)) (CSrc prog w A h₀ L m env elt x scope cl Fin) E s := by
  have hl := S.list F.keep N
  have hlt : ax < s.heap.objs.size := by obtain ⟨_, e, _⟩ := hl; exact Heap.lt_size e
  refine wpAny_pyIter_list hl ?_
  have up : ∀ b o, s.heap.get? b = some o → (s.heap.push { cls := .type "list_iterator", data := .fields #[.ref ax, .int 0 0] }).get? b = some o := fun b o e => Heap.get?_push_of_some _ e
  refine ⟨s.heap.objs.size, [s.heap.objs.size, ax], its.size, _, _, LCg.SrcAt h₀ ax its, news, rfl, Walks.list hh s.heap.objs.size ax (Nat.ne_of_lt hlt) its, hsz, (fun i h st => by obtain ⟨o, e, _⟩ := st.1; exact ⟨o, e⟩), LCg.list_st, ⟨⟨_, Heap.get?_push_size _ rfl, rfl, rfl⟩, hl.push _⟩, (fun b hb => ?_), F.keeps up, N.grown up, Nat.ne_of_lt F.ns.lt, next_is_new F, fun p hp => Nat.ne_of_lt (Heap.lt_size (N p hp).1), S, R _⟩
  show b < (s.heap.push _).objs.size
  rw [Heap.size_push]
  rcases List.mem_cons.mp hb with rfl | hb
  · exact Nat.lt_succ_self _
  · rw [List.mem_singleton.mp hb]; exact Nat.lt_succ_of_lt hlt
/-- over a range, of any step -/
theorem csrc_range {r : Addr} {a b c : Int} {t u v : Tok} {n : Nat} (hh : A.handled = none) (F : Fr h₀ L s.heap m) (N : News h₀ L s.heap news)
    (hr : IsRange s.heap r a b c t u v) (hsm : Builtin.Range.small a b c = true) (hn : Builtin.Range.rangeSize a b c = ((n : Nat) : Int)) (hsz : n ≤ sizeLine)
    (R : ∀ g, LCg.CompRest prog w A h₀ L m env elt x scope cl { s with heap := g } (fun _ => True) (fun i v => ∃ t, v = .int (a + (i : Int) * c) t) (Fin { s with heap := g }) n 0 [] news) :
    wpAny (model prog w) A (pyIter (.ref r)) (CSrc prog w A h₀ L m env elt x scope cl Fin) E s := by
  refine wpAny_pyIter_range hr hsm ?_
  refine ⟨s.heap.objs.size, [s.heap.objs.size], n, _, _, fun _ => True, news, rfl, Walks.range hh s.heap.objs.size a c n, hsz, (fun i h st => ⟨_, st⟩), (fun i h h' o nw st e e' _ _ _ => ?_), (by show IsRangeIter _ _ _ _ _; rw [hn]; simpa using Heap.get?_push_size _ rfl), (fun b hb => ?_), F.keeps fun _ _ e => Heap.get?_push_of_some _ e, N.grown fun _ _ e => Heap.get?_push_of_some _ e, Nat.ne_of_lt F.ns.lt, next_is_new F, fun p hp => Nat.ne_of_lt (Heap.lt_size (N p hp).1), trivial, R _⟩
  · have st' : h.get? s.heap.objs.size = some _ := st
    show h'.get? s.heap.objs.size = some _
    rw [e', ← e]; exact st'
  · rw [List.mem_singleton.mp hb]
    show s.heap.objs.size < (s.heap.push _).objs.size
    rw [Heap.size_push]; exact Nat.lt_succ_self _
end
end
theorem drop_mid {h₀ h : Heap} {L : Addr} {a b : Addr × Obj} {r : List (Addr × Obj)} (N : News h₀ L h (a :: b :: r)) : News h₀ L h (a :: r) := fun p hp => by
  rcases List.mem_cons.mp hp with rfl | hp
  · exact N _ List.mem_cons_self
  · exact N _ (List.mem_cons_of_mem _ (List.mem_cons_of_mem _ hp))
/-- a frame's names, written -/
def bnd : List (Str × Value) → Str → Option Value
  | [], _ => none
  | (k, v) :: r, y => if y = k then some v else bnd r y
theorem bnd_lookup : ∀ (l : List (Str × Value)), (fun y => List.lookup y l) = bnd l
  | [] => by funext y; simp [bnd]
  | (a, v) :: r => by
    funext y
    have ih := congrFun (bnd_lookup r) y
    simp only [List.lookup_cons]
    rw [ih]
    by_cases h : y = a
    · subst h; simp [bnd]
    · rw [beq_eq_false_iff_ne.mpr h]; simp only [bnd, if_neg h]
theorem fr_bnd {g h : Heap} {L : Addr} (l : List (Str × Value)) (F : Fr g L h (fun y => List.lookup y l)) : Fr g L h (bnd l) := by rw [← bnd_lookup l]; exact F
theorem fr_as {g h : Heap} {L : Addr} {m m' : Str → Option Value} (F : Fr g L h m) (e : m = m') : Fr g L h m' := e ▸ F
/-- the same, beside one name that a loop sets -/
def bndO (x : Str) (u : Option Value) (l : List (Str × Value)) : Str → Option Value := fun y => if y = x then u else bnd l y
theorem bndO_of {m : Str → Option Value} {x : Str} {u : Option Value} {r : List (Str × Value)} (h : ∀ y, y ≠ x → m y = bnd r y) (hx : m x = u) : m = bndO x u r := funext fun y => by
  by_cases e : y = x
  · subst e; simp [bndO, hx]
  · simp only [bndO, if_neg e]; exact h y e
structure BndOn (ks : List Str) (m : Str → Option Value) (r : List (Str × Value)) : Prop where
  on : ∀ y, y ∉ ks → m y = bnd r y
theorem bnd_of {m : Str → Option Value} {r : List (Str × Value)} (h : BndOn [] m r) : m = bnd r := funext fun y => h.on y (fun q => nomatch q)
theorem bndO_on {m : Str → Option Value} {x : Str} {u : Option Value} {r : List (Str × Value)} (hx : m x = u) (h : BndOn [x] m r) : m = bndO x u r := bndO_of (fun y hy => h.on y (by simpa using hy)) hx
theorem bnd_cons {ks : List Str} {m : Str → Option Value} {k : Str} {v : Value} {r : List (Str × Value)} (h1 : m k = some v) (h2 : BndOn (k :: ks) m r) : BndOn ks m ((k, v) :: r) := ⟨fun y hy => by
  by_cases h : y = k
  · subst h; rw [h1]; simp [bnd]
  · rw [h2.on y (fun q => (List.mem_cons.mp q).elim h hy)]; simp only [bnd, if_neg h]⟩
theorem bnd_nil {ks : List Str} {m : Str → Option Value} (h : ∀ y, y ∉ ks → m y = none) : BndOn ks m [] := ⟨h⟩
/-- a frame's names, each with what stands under it, if anything -/
def bndU : List (Str × Option Value) → Str → Option Value
  | [], _ => none
  | (k, v) :: r, y => if y = k then v else bndU r y
structure BndUOn (ks : List Str) (m : Str → Option Value) (r : List (Str × Option Value)) : Prop where
  on : ∀ y, y ∉ ks → m y = bndU r y
theorem bndU_of {m : Str → Option Value} {r : List (Str × Option Value)} (h : BndUOn [] m r) : m = bndU r := funext fun y => h.on y (fun q => nomatch q)
theorem bndU_cons {ks : List Str} {m : Str → Option Value} {k : Str} {v : Option Value} {r : List (Str × Option Value)} (h1 : m k = v) (h2 : BndUOn (k :: ks) m r) : BndUOn ks m ((k, v) :: r) := ⟨fun y hy => by
  by_cases h : y = k
  · subst h; rw [h1]; simp [bndU]
  · rw [h2.on y (fun q => (List.mem_cons.mp q).elim h hy)]; simp only [bndU, if_neg h]⟩
theorem bndU_nil {ks : List Str} {m : Str → Option Value} (h : ∀ y, y ∉ ks → m y = none) : BndUOn ks m [] := ⟨h⟩
/-- a turn's end: what it has made stands behind the iterator -/
def TEnd (h₀ : Heap) (L I : Addr) (oI : Obj) (J : (Str → Option Value) → List (Addr × Obj) → Prop) (s₁ s₂ : Shared) : Prop :=
  ∃ h' tk m' nx, s₂ = { s₁ with heap := h', toks := tk } ∧ Fr h₀ L h' m' ∧ News h₀ L h' ((I, oI) :: nx) ∧ (∀ p ∈ nx, p.1 ≠ I) ∧ J m' nx
def TPost (h₀ : Heap) (L I : Addr) (oI : Obj) (J : (Str → Option Value) → List (Addr × Obj) → Prop) (s₁ : Shared) (Q : Flow → Shared → Prop) (f : Flow) (s₂ : Shared) : Prop :=
  match f with
  | .ret v => Q (.ret v) s₂
  | .brk => Q .next s₂
  | _ => TEnd h₀ L I oI J s₁ s₂
theorem TEnd.intro {h₀ : Heap} {L I : Addr} {oI : Obj} {J : (Str → Option Value) → List (Addr × Obj) → Prop} {s₁ : Shared} {h' : Heap} {tk : Nat} {m' : Str → Option Value} {all : List (Addr × Obj)} (nx : List (Addr × Obj))
    (F : Fr h₀ L h' m') (N : News h₀ L h' all) (sub : ∀ p ∈ (I, oI) :: nx, p ∈ all) (off : ∀ p ∈ nx, p.1 ≠ I) (j : J m' nx) : TEnd h₀ L I oI J s₁ { s₁ with heap := h', toks := tk } :=
  ⟨h', tk, m', nx, rfl, F, fun p hp => N p (sub p hp), off, j⟩
section
variable {prog : Program} {w : World} {A : Around} {E : Value → Shared → Prop} {s : Shared} {env : Env} {h₀ : Heap} {x : Str} {body : List Stmt} {Q : Flow → Shared → Prop}
theorem loop_W {I : Addr} {fp : List Addr} {n : Nat} {P : Nat → Value → Prop} {St : Nat → Heap → Prop} {m₀ : Str → Option Value} {nx₀ : List (Addr × Obj)} (J : Nat → (Str → Option Value) → List (Addr × Obj) → Prop)
    (W : Walks prog w A I fp [I] n P St) (hLf : env.locals ∉ fp) (hI₀ : h₀.get? I = none) (hIo : ∀ i h, St i h → ∃ o, h.get? I = some o) (hnw : ∀ p ∈ nx₀, p.1 ≠ I) (hst : St 0 s.heap) (F : Fr h₀ env.locals s.heap m₀) (N : News h₀ env.locals s.heap nx₀) (h0 : J 0 m₀ nx₀)
    (fixed : ∀ b ∈ fp, b = I ∨ (∃ ob, ∀ i m nx, J i m nx → (b, ob) ∈ nx) ∨ (∃ ob, h₀.get? b = some ob))
    (turn : ∀ i v m nx h tk oI, i < n → P i v → J i m nx → (∀ p ∈ nx, p.1 ≠ I) → Fr h₀ env.locals h (fun y => if y = x then some v else m y) → News h₀ env.locals h ((I, oI) :: nx) →
      wpAny (model prog w) A (execs body env) (TPost h₀ env.locals I oI (J (i + 1)) { s with heap := h, toks := tk } Q) E { s with heap := h, toks := tk })
    (done : ∀ m nx h tk, J n m nx → Fr h₀ env.locals h m → News h₀ env.locals h nx → Q .next { s with heap := h, toks := tk }) :
    LoopAtV prog w A h₀ env x body Q E (.ref I) s := by
  refine ⟨I, fp, [I], n, P, St, m₀, nx₀, J, rfl, W, hLf, ?_, ?_, hst, F, N, h0, ?_, ?_⟩
  · intro b' hb; rw [List.mem_singleton.mp hb]; exact hI₀
  · intro p hp hI; exact hnw p hp (List.mem_singleton.mp hI)
  · rintro i v m₁ nx s₁ own ⟨h, tk, rfl⟩ hi hP hJ hoff hown hget hmem hst F₁ N₁
    obtain ⟨oI, hI⟩ := hIo _ _ hst
    have hIm : (I, oI) ∈ own := hmem I (W.sub I (List.mem_singleton.mpr rfl)) hI₀ oI hI
    have hI' : h.get? I = some oI := hI
    refine wpAny_mono (turn i v m₁ nx h tk oI hi hP hJ (fun p hp q => hoff p hp (List.mem_singleton.mpr q)) F₁ (fun p hp => by
      rcases List.mem_cons.mp hp with rfl | hp
      · exact N₁ _ (List.mem_append_left _ hIm)
      · exact N₁ _ (List.mem_append_right _ hp))) (fun f s₂ p => ?_) fun _ _ e => e
    have fin : TEnd h₀ env.locals I oI (J (i + 1)) { s with heap := h, toks := tk } s₂ → LoopStepU h₀ env.locals [I] own (J (i + 1)) { s with heap := h, toks := tk } .next s₂ := by
      rintro ⟨h', tk', m', nx', e, F', N', off', hj⟩
      refine ⟨rfl, h', tk', m', nx', e, F', fun p hp => ?_, fun p hp hq => off' p hp (List.mem_singleton.mp hq), hj⟩
      rcases List.mem_append.mp hp with hp | hp
      · have e3 : h.get? p.1 = some p.2 := hget p hp
        have z1 := N₁ p (List.mem_append_left _ hp)
        refine ⟨?_, z1.2⟩
        rcases fixed p.1 (hown p hp) with e2 | ⟨ob, hob⟩ | ⟨ob, hob⟩
        · have z := (N' _ List.mem_cons_self).1
          rw [e2, hI'] at e3
          rw [e2, z]; exact e3
        · have z0 := (N₁ _ (List.mem_append_right _ (hob _ _ _ hJ))).1
          have z := (N' _ (List.mem_cons_of_mem _ (hob _ _ _ hj))).1
          have z0' : h.get? p.1 = some ob := z0
          have z' : h'.get? p.1 = some ob := z
          rw [z', ← z0']; exact e3
        · rw [hob] at z1; exact absurd z1.2.2 (by simp)
      · exact N' p (List.mem_cons_of_mem _ hp)
    cases f with
    | ret v => exact .ret p
    | brk => exact .brk p
    | next => exact .next (fin p)
    | cont => exact .cont (fin p)
  · rintro h' tk m' nx' F' N' _ hJ
    exact done m' nx' h' tk hJ F' N'
theorem loop_range {r : Addr} {a b c : Int} {t u v : Tok} {n : Nat} {m₀ : Str → Option Value} {nx₀ : List (Addr × Obj)} (J : Nat → (Str → Option Value) → List (Addr × Obj) → Prop)
    (hh : A.handled = none) (hr : IsRange s.heap r a b c t u v) (hsm : Builtin.Range.small a b c = true) (hn : Builtin.Range.rangeSize a b c = ((n : Nat) : Int)) (F : Fr h₀ env.locals s.heap m₀) (N : News h₀ env.locals s.heap nx₀) (h0 : J 0 m₀ nx₀)
    (turn : ∀ i v m nx h tk I oI, i < n → (∃ t, v = .int (a + (i : Int) * c) t) → J i m nx → (∀ p ∈ nx, p.1 ≠ I) → Fr h₀ env.locals h (fun y => if y = x then some v else m y) → News h₀ env.locals h ((I, oI) :: nx) →
      wpAny (model prog w) A (execs body env) (TPost h₀ env.locals I oI (J (i + 1)) { s with heap := h, toks := tk } Q) E { s with heap := h, toks := tk })
    (done : ∀ m nx h tk, J n m nx → Fr h₀ env.locals h m → News h₀ env.locals h nx → Q .next { s with heap := h, toks := tk }) :
    wpAny (model prog w) A (pyIter (.ref r)) (fun it s₂ => LoopAtV prog w A h₀ env x body Q E it s₂) E s := by
  refine wpAny_pyIter_range hr hsm ?_
  have up : ∀ b' o, s.heap.get? b' = some o → (s.heap.push { cls := .type "range_iterator", data := .fields #[rawInt a, rawInt (Builtin.Range.rangeSize a b c), rawInt c] }).get? b' = some o := fun b' o e => Heap.get?_push_of_some _ e
  refine loop_W J (Walks.range hh s.heap.objs.size a c n) ?_ (next_is_new F) (fun i h st => ⟨_, st⟩) (fun p hp => Nat.ne_of_lt (Heap.lt_size (N p hp).1)) (by show IsRangeIter _ _ _ _ _; rw [hn]; simpa using Heap.get?_push_size _ rfl) (F.keeps up) (N.grown up) h0 (fun b hb => .inl (List.mem_singleton.mp hb)) ?_ done
  · intro hm; exact absurd F.ns.lt ((List.mem_singleton.mp hm) ▸ Nat.lt_irrefl _)
  · intro i v m nx h tk oI hi hP hJ off F N
    exact turn i v m nx h tk _ oI hi hP hJ off F N
theorem loop_list {l : Addr} {its : Array Value} {k : Nat} {m₀ : Str → Option Value} {nx₀ : List (Addr × Obj)} (J : Nat → (Str → Option Value) → List (Addr × Obj) → Prop)
    (hh : A.handled = none) (hm : ∀ i m nx, J i m nx → (l, W.listOf its k) ∈ nx) (F : Fr h₀ env.locals s.heap m₀) (N : News h₀ env.locals s.heap nx₀) (h0 : J 0 m₀ nx₀)
    (turn : ∀ i v m nx h tk I oI, i < its.size → its[i]? = some v → J i m nx → (∀ p ∈ nx, p.1 ≠ I) → Fr h₀ env.locals h (fun y => if y = x then some v else m y) → News h₀ env.locals h ((I, oI) :: nx) →
      wpAny (model prog w) A (execs body env) (TPost h₀ env.locals I oI (J (i + 1)) { s with heap := h, toks := tk } Q) E { s with heap := h, toks := tk })
    (done : ∀ m nx h tk, J its.size m nx → Fr h₀ env.locals h m → News h₀ env.locals h nx → Q .next { s with heap := h, toks := tk }) :
    wpAny (model prog w) A (pyIter (.ref l)) (fun it s₂ => LoopAtV prog w A h₀ env x body Q E it s₂) E s := by
  have z := N _ (hm _ _ _ h0)
  have hl : s.heap.IsList l its := ⟨_, z.1, rfl, k, rfl⟩
  have hlt : l < s.heap.objs.size := Heap.lt_size z.1
  refine wpAny_pyIter_list hl ?_
  have up : ∀ b o, s.heap.get? b = some o → (s.heap.push { cls := .type "list_iterator", data := .fields #[.ref l, .int 0 0] }).get? b = some o := fun b o e => Heap.get?_push_of_some _ e
  refine loop_W J (Walks.list hh s.heap.objs.size l (Nat.ne_of_lt hlt) its) ?_ (next_is_new F) (fun i h st => by obtain ⟨o, e, _⟩ := st.1; exact ⟨o, e⟩) (fun p hp => Nat.ne_of_lt (Heap.lt_size (N p hp).1)) ⟨⟨_, Heap.get?_push_size _ rfl, rfl, rfl⟩, hl.push _⟩ (F.keeps up) (N.grown up) h0 (fun b hb => ?_) ?_ done
  · intro hm'
    rcases List.mem_cons.mp hm' with e | e
    · exact absurd F.ns.lt (e ▸ Nat.lt_irrefl _)
    · exact z.2.1 (List.mem_singleton.mp e).symm
  · rcases List.mem_cons.mp hb with e | e
    · exact .inl e
    · exact .inr (.inl ⟨_, fun i m nx hj => (List.mem_singleton.mp e) ▸ hm i m nx hj⟩)
  · intro i v m nx h tk oI hi hP hJ off F N
    exact turn i v m nx h tk _ oI hi hP hJ off F N
end
section
variable {prog : Program} {w : World} {A : Around} {E : Value → Shared → Prop} {s : Shared} {h₀ : Heap} {L : Addr} {m : Str → Option Value}
theorem append_head {l : Addr} {its : Array Value} {c : Nat} {nw : List (Addr × Obj)} {v : Value} {Q : Value → Shared → Prop} (F : Fr h₀ L s.heap m) (N : News h₀ L s.heap ((l, W.listOf its c) :: nw)) (off : ∀ p ∈ nw, p.1 < l)
    (h : ∀ h', Fr h₀ L h' m → News h₀ L h' ((l, W.listOf (its.push v) (c + 1)) :: nw) → Q .none { s with heap := h' }) (hsz : its.size ≤ sizeLine) : wpAny (model prog w) A (call (.builtin "list.append") [.ref l, v]) Q E s :=
  append_K F N (Upd.head fun p hp => Nat.ne_of_lt (off p hp)) h hsz
end
end Mine
end
section
open PySem PySem.W PyProof.Rows PySem.Calls
set_option maxRecDepth 100000
set_option maxHeartbeats 2000000
namespace Mine
/-- what one turn of a comprehension does for its accumulator: a transformer -/
abbrev Step := Addr → Env → (Shared → Prop) → (Value → Shared → Prop) → Shared → Prop
/-- the end of a turn -/
def CEnd (h₀ : Heap) (L : Addr) (m : Str → Option Value) (I : Addr) (oI : Obj) (C : Addr) (oC : Obj) (D : Addr) (R : Obj → List (Addr × Obj) → Prop) (s₁ s₂ : Shared) : Prop :=
  ∃ h' tk oD nw, s₂ = { s₁ with heap := h', toks := tk } ∧ Fr h₀ L h' m ∧ News h₀ L h' ((I, oI) :: (C, oC) :: (D, oD) :: nw) ∧ LCg.Off3 I C D nw ∧ R oD nw
section
variable {prog : Program} {w : World} {A : Around} {E : Value → Shared → Prop} {s : Shared} {h₀ : Heap} {L : Addr} {m : Str → Option Value} {env : Env}
structure StepOk (step : Step) : Prop where
  after : ∀ D c Q Q' E s n, n ≤ s.toks → step D c Q E s → (∀ s', n ≤ s'.toks → Q s' → Q' s') → step D c Q' E s
abbrev lstep (prog : Program) (w : World) (A : Around) (elt : Expr) : Step := fun D c Q E s =>
  wpAny (model prog w) A (eval elt c) (fun x s₄ => wpAny (model prog w) A (call (.builtin "list.append") [.ref D, x]) (fun _ s₅ => Q s₅) E s₄) E s
abbrev dstep (prog : Program) (w : World) (A : Around) (kx vx : Expr) : Step := fun D c Q E s =>
  wpAny (model prog w) A (eval kx c) (fun kv s₄ => wpAny (model prog w) A (eval vx c) (fun vv s₅ => wpAny (model prog w) A (dictSet D kv vv) (fun _ s₆ => Q s₆) E s₅) E s₄) E s
theorem lstep_ok (elt : Expr) : StepOk (lstep prog w A elt) := ⟨fun _ _ _ _ _ _ _ hn h hQ =>
  wpAny_mono (wpAny_toks_of hn h) (fun _ _ h4 => wpAny_mono (wpAny_toks_of h4.1 h4.2) (fun _ _ h5 => hQ _ h5.1 h5.2) fun _ _ e => e.2) fun _ _ e => e.2⟩
theorem dstep_ok (kx vx : Expr) : StepOk (dstep prog w A kx vx) := ⟨fun _ _ _ _ _ _ _ hn h hQ =>
  wpAny_mono (wpAny_toks_of hn h) (fun _ _ h4 => wpAny_mono (wpAny_toks_of h4.1 h4.2) (fun _ _ h5 => wpAny_mono (wpAny_toks_of h5.1 h5.2) (fun _ _ h6 => hQ _ h6.1 h6.2) fun _ _ e => e.2) fun _ _ e => e.2) fun _ _ e => e.2⟩
/-- the road from a turn to the whole loop -/
def LoopBy (prog : Program) (w : World) (A : Around) (step : Step) (x : Str) (px : Pos) (e : Expr) : Prop :=
  ∀ (it : Value) (D : Addr) (c : Env) (RR : Result → Shared → Prop) (Inv : Nat → Shared → Prop) (n : Nat) (s : Shared), Inv n s →
    (∀ E' k s, Inv k s → wpAny (model prog w) A (pyNext it) (fun r s₁ => match r with
      | none => RR (.ok .next) s₁
      | some v => wpAny (model prog w) A (assign (.Name x px) c v) (fun _ s₂ => step D c (fun s' => ∃ j, j < k ∧ Inv j s') E' s₂) E' s₁) E' s) →
    codeAny (model prog w) A (.compLoop e 0 it (.ref D) c) RR s
theorem loopBy_list {elt iter : Expr} {x : Str} {px : Pos} {scope : Scope} {pos : Pos} : LoopBy prog w A (lstep prog w A elt) x px (.ListComp elt [⟨.Name x px, iter, [], 0⟩] scope pos) := by
  intro it D c RR Inv n s hs turn
  refine codeAny_compLoop_tests Inv (fun k s hI => wpAny_mono (turn _ k s hI) (fun r s₁ h₁ => ?_) fun _ _ e => e) n hs
  cases r with
  | none => exact h₁
  | some v => exact wpAny_mono h₁ (fun _ s₂ h₂ => wpAny_tests_nil (by simpa using h₂)) fun _ _ e => e
theorem loopBy_dict {kx vx iter : Expr} {x : Str} {px : Pos} {scope : Scope} {pos : Pos} : LoopBy prog w A (dstep prog w A kx vx) x px (.DictComp kx vx [⟨.Name x px, iter, [], 0⟩] scope pos) := by
  intro it D c RR Inv n s hs turn
  refine codeAny_compLoop_testsD Inv (fun k s hI => wpAny_mono (turn _ k s hI) (fun r s₁ h₁ => ?_) fun _ _ e => e) n hs
  cases r with
  | none => exact h₁
  | some v => exact wpAny_mono h₁ (fun _ s₂ h₂ => wpAny_tests_nil (by simpa using h₂)) fun _ _ e => e
/-- all turns of a comprehension, its accumulator any object -/
theorem turns_all {step : Step} {e : Expr} {x : Str} {px : Pos} {scope : Scope} {cl : List (Str × Addr)} {I C D : Addr} {fp : List Addr} {n : Nat} {P : Nat → Value → Prop} {St : Nat → Heap → Prop} {oD : Obj} {nw : List (Addr × Obj)} {m₂ : Str → Option Value} {RR : Result → Shared → Prop}
    (R : Nat → Obj → List (Addr × Obj) → Prop) (hok : StepOk step) (hloop : LoopBy prog w A step x px e) (W : Walks prog w A I fp [I] n P St) (hIo : ∀ i h, St i h → ∃ o, h.get? I = some o)
    (hSt : ∀ i h h' o oD nw, St i h → h.get? I = some o → h'.get? I = some o → (∀ b o, h₀.get? b = some o → h'.get? b = some o) → News h₀ L h' nw → R (i) oD nw → St i h')
    (hkind : scope.kind = .function) (hx : scope.names.lookup x = some .local) (hst : St 0 s.heap) (F : Fr h₀ L s.heap m) (N : News h₀ L s.heap ((D, oD) :: nw)) (hC : s.heap.Ns C m₂) (off : LCg.Off3 I C D nw)
    (hI₀ : h₀.get? I = none) (hC₀ : h₀.get? C = none) (hIL : I ≠ L) (hCL : C ≠ L) (hIC : I ≠ C) (hID : I ≠ D) (hCD : C ≠ D) (hCf : C ∉ fp) (h0 : R 0 oD nw)
    (turn : ∀ i v oD nw m₂ oI oC h tk E', i < n → R i oD nw → P i v → s.toks ≤ tk → LCg.NsObj oC m₂ → m₂ x = some v → Fr h₀ L h m → News h₀ L h ((I, oI) :: (C, oC) :: (D, oD) :: nw) → LCg.Off3 I C D nw →
      step D (compEnvC scope cl C env) (CEnd h₀ L m I oI C oC D (R (i + 1)) { s with heap := h, toks := tk }) E' { s with heap := h, toks := tk })
    (hend : ∀ oD nw m₂ h tk, R n oD nw → s.toks ≤ tk → h.Ns C m₂ → Fr h₀ L h m → News h₀ L h ((D, oD) :: nw) → LCg.Off3 I C D nw → RR (.ok .next) { s with heap := h, toks := tk }) :
    codeAny (model prog w) A (.compLoop e 0 (.ref I) (.ref D) (compEnvC scope cl C env)) RR s := by
  refine hloop (.ref I) D _ RR (fun k s' => ∃ h tk i oD nw m₂, s' = { s with heap := h, toks := tk } ∧ s.toks ≤ tk ∧ i ≤ n ∧ k = n + 1 - i ∧ St i h ∧ h.Ns C m₂ ∧ Fr h₀ L h m ∧ News h₀ L h ((D, oD) :: nw) ∧ LCg.Off3 I C D nw ∧ R i oD nw) (n + 1) s
    ⟨s.heap, s.toks, 0, oD, nw, m₂, rfl, Nat.le_refl _, Nat.zero_le _, rfl, hst, hC, F, N, off, h0⟩ ?_
  rintro E' k s' ⟨h, tk, i, oD, nw, m₂, rfl, hT, hi, rfl, hst, hC, F, N, off, hR⟩
  have keepN : ∀ h₂, (∀ b o, b ∉ [I] → h.get? b = some o → h₂.get? b = some o) → News h₀ L h₂ ((D, oD) :: nw) := fun h₂ hk => LCg.news_but N hk fun p hp => by
    rcases List.mem_cons.mp hp with rfl | hp
    · exact Ne.symm hID
    · exact (off.mem p hp).1
  rcases Nat.lt_or_ge i n with hlt | hge
  · refine wpAny_with_toks (n := s.toks) hT (W.item i _ _ _ hlt hst fun v h₂ tk₂ hPv hst₂ hk₂ hT₂ => ?_)
    have F₂ := LCg.fr_but F hk₂ (Ne.symm hIL) hI₀
    have N₂ := keepN h₂ hk₂
    refine wpAny_assign_Name (wpAny_storeName_local (lookup_relabel_local hx) (hC.at' fun o e => hk₂ _ o (by simpa using Ne.symm hIC) e) (fun h₃ hn₃ hs₃ => ?_) (by simp [compEnvC, relabel, hkind]))
    have hst₃ : St (i + 1) h₃ := W.frame _ _ _ hst₂ fun b hb o e => hs₃.extBut b o (fun q => hCf (by have q' : b = C := q; rw [← q']; exact hb)) e
    obtain ⟨oI, heI⟩ := hIo _ _ hst₃
    obtain ⟨oC, heC, hoC⟩ := LCg.ns_obj hn₃
    have N₃ : News h₀ L h₃ ((I, oI) :: (C, oC) :: (D, oD) :: nw) := fun p hp => by
      rcases List.mem_cons.mp hp with rfl | hp
      · exact ⟨heI, hIL, hI₀⟩
      rcases List.mem_cons.mp hp with rfl | hp
      · exact ⟨heC, hCL, hC₀⟩
      refine ⟨hs₃.extBut _ _ ?_ (N₂ p hp).1, (N₂ p hp).2⟩
      rcases List.mem_cons.mp hp with rfl | hp
      · exact Ne.symm hCD
      · exact (off.mem p hp).2.1
    have hT₃ : s.toks ≤ tk₂ + 1 := Nat.le_succ_of_le hT₂
    refine hok.after _ _ _ _ _ _ s.toks hT₃ (turn i v oD nw _ oI oC h₃ (tk₂ + 1) E' hlt hR hPv hT₃ hoC (by simp) (F₂.change hs₃ hCL hC₀) N₃ off) ?_
    rintro s' hT₄ ⟨h₄, tk₄, oD₄, nw₄, rfl, F₄, N₄, off₄, hR₄⟩
    have N₄' : News h₀ L h₄ ((D, oD₄) :: nw₄) := fun p hp => N₄ p (List.mem_cons_of_mem _ (List.mem_cons_of_mem _ hp))
    have zI := (N₄ (I, oI) List.mem_cons_self).1
    have zC := (N₄ (C, oC) (List.mem_cons_of_mem _ List.mem_cons_self)).1
    exact ⟨n + 1 - (i + 1), by omega, h₄, tk₄, i + 1, oD₄, nw₄, _, rfl, hT₄, hlt, rfl, hSt _ _ _ _ oD₄ nw₄ hst₃ heI zI F₄.keep (fun p hp => N₄' p (List.mem_cons_of_mem _ hp)) hR₄, hoC.ns zC, F₄, N₄', off₄, hR₄⟩
  · obtain rfl : i = n := Nat.le_antisymm hi hge
    refine wpAny_with_toks (n := s.toks) hT (W.done _ _ _ hst fun h₂ tk₂ hk₂ hT₂ => ?_)
    exact hend oD nw m₂ h₂ tk₂ hR hT₂ (hC.at' fun o e => hk₂ _ o (by simpa using Ne.symm hIC) e) (LCg.fr_but F hk₂ (Ne.symm hIL) hI₀) (keepN h₂ hk₂) off
/-- a comprehension from its new accumulator on -/
theorem block_A {step : Step} {e : Expr} {x : Str} {px : Pos} {scope : Scope} {cl : List (Str × Addr)} {I : Addr} {fp : List Addr} {n : Nat} {P : Nat → Value → Prop} {St : Nat → Heap → Prop} {nw : List (Addr × Obj)} {T : String} {data : Data} {mk : Sem Value} {RR : Value → Addr → Result → Shared → Prop}
    (R : Nat → Obj → List (Addr × Obj) → Prop) (hmk : mk = newObj (.type T) data) (hok : StepOk step) (hloop : LoopBy prog w A step x px e)
    (hstart : ∀ (it acc : Value) (c : Env) (RR : Result → Shared → Prop) (s : Shared), codeAny (model prog w) A (.compLoop e 0 it acc c) RR s →
      wpAny (model prog w) A (pyIter it) (fun it' s' => codeAny (model prog w) A (.compLoop e 0 it' acc c) RR s') (notedBy (model prog w) A c fun x s' => RR (.error x) s') s → codeAny (model prog w) A (.compStart e 0 it acc c) RR s)
    (hsd : sizeOk data) (hfree : ({ cls := .type T, data } : Obj).isFreed = false) (W : Walks prog w A I fp [I] n P St) (hIo : ∀ i h, St i h → ∃ o, h.get? I = some o)
    (hSt : ∀ i h h' o oD nw, St i h → h.get? I = some o → h'.get? I = some o → (∀ b o, h₀.get? b = some o → h'.get? b = some o) → News h₀ L h' nw → R (i) oD nw → St i h')
    (hcell : ∀ y ∈ scope.names, y.2 ≠ .cell) (hkind : scope.kind = .function) (hx : scope.names.lookup x = some .local) (hst : St 0 s.heap) (hfp : ∀ b ∈ fp, b < s.heap.objs.size) (F : Fr h₀ L s.heap m) (N : News h₀ L s.heap nw)
    (hI₀ : h₀.get? I = none) (hIL : I ≠ L) (off : ∀ p ∈ nw, p.1 ≠ I) (h0 : R 0 { cls := .type T, data } nw)
    (turn : ∀ i v oD nw m₂ I' oI C oC D h tk E', i < n → R i oD nw → P i v → s.toks ≤ tk → LCg.NsObj oC m₂ → m₂ x = some v → Fr h₀ L h m → News h₀ L h ((I', oI) :: (C, oC) :: (D, oD) :: nw) → LCg.Off3 I' C D nw → ((@Ne Nat I' C) ∧ (@Ne Nat I' D) ∧ (@Ne Nat C D)) → s.heap.objs.size ≤ D →
      step D (compEnvC scope cl C env) (CEnd h₀ L m I' oI C oC D (R (i + 1)) { s with heap := h, toks := tk }) E' { s with heap := h, toks := tk })
    (hend : ∀ D C oD nw m₂ h tk, R n oD nw → s.toks ≤ tk → h.Ns C m₂ → h₀.get? C = none → h₀.get? D = none → C ≠ L → D ≠ L → C ≠ D → s.heap.objs.size ≤ D → Fr h₀ L h m → News h₀ L h ((D, oD) :: nw) → (∀ p ∈ nw, p.1 ≠ C ∧ p.1 ≠ D) → RR (.ref D) C (.ok .next) { s with heap := h, toks := tk }) :
    wpAny (model prog w) A mk (fun acc s₃ => wpAny (model prog w) A (newFunctionEnv scope env.globals cl [] env.qual none .none (some env)) (fun cenv s₄ =>
      codeAny (model prog w) A (.compStart e 0 (.ref I) acc { cenv with scope := relabel scope env }) (RR acc cenv.locals) s₄) E s₃) E s := by
  subst hmk
  refine wpAny_newObj_type (hd := hsd) (wpAny_newFunctionEnv hcell (by intro y hy; simp at hy) (fun h₁ hns₁ hsb₁ => ?_) hkind)
  dsimp only at hns₁ hsb₁ ⊢
  have old0 : ∀ b o, s.heap.get? b = some o → (s.heap.push { cls := .type T, dict := none, data }).get? b = some o := fun b o e => Heap.get?_push_of_some _ e
  have new0 : (s.heap.push { cls := .type T, dict := none, data }).get? s.heap.objs.size = some { cls := .type T, dict := none, data } := Heap.get?_push_size _ hfree
  have size0 : (s.heap.push { cls := .type T, dict := none, data }).objs.size = s.heap.objs.size + 1 := Heap.size_push ..
  generalize s.heap.push { cls := .type T, dict := none, data } = H at hns₁ hsb₁ old0 new0 size0 ⊢
  have hDC : s.heap.objs.size ≠ H.objs.size := by rw [size0]; exact Nat.ne_of_lt (Nat.lt_succ_self _)
  have ltC : ∀ b, b < s.heap.objs.size → b ≠ H.objs.size := fun b hb => by rw [size0]; exact Nat.ne_of_lt (Nat.lt_succ_of_lt hb)
  have old : ∀ b o, s.heap.get? b = some o → h₁.get? b = some o := fun b o e => hsb₁.extBut b o (ltC b (Heap.lt_size e)) (Heap.get?_push_of_some _ (old0 b o e))
  have accD : h₁.get? s.heap.objs.size = some { cls := .type T, dict := none, data } := hsb₁.extBut _ _ hDC (Heap.get?_push_of_some _ new0)
  have free : ∀ a, s.heap.objs.size ≤ a → h₀.get? a = none := fun a ha => by
    cases e : h₀.get? a with
    | none => rfl
    | some o' => exact absurd (Heap.lt_size (F.keep a o' e)) (Nat.not_lt.mpr ha)
  have hC₀ : h₀.get? H.objs.size = none := free _ (by rw [size0]; exact Nat.le_succ _)
  have hIlt : I < s.heap.objs.size := hfp I (W.sub I (List.mem_singleton.mpr rfl))
  have hLlt : L < s.heap.objs.size := F.ns.lt
  have st1 : St 0 h₁ := W.frame _ _ _ hst fun b _ o e => old b o e
  have F1 : Fr h₀ L h₁ m := F.keeps old
  have N1 : News h₀ L h₁ ((s.heap.objs.size, { cls := .type T, dict := none, data }) :: nw) := fun p hp => by
    rcases List.mem_cons.mp hp with rfl | hp
    · exact ⟨accD, Nat.ne_of_gt hLlt, free _ (Nat.le_refl _)⟩
    · exact N.grown old p hp
  have off1 : LCg.Off3 I H.objs.size s.heap.objs.size nw := LCg.Off3.of fun p hp => ⟨off p hp, ltC _ (Heap.lt_size (N p hp).1), Nat.ne_of_lt (Heap.lt_size (N p hp).1)⟩
  have all : ∀ s₃ : Shared, s₃ = { s with heap := h₁, toks := s.toks + ([] : List (Str × Value)).length } → codeAny (model prog w) A (.compLoop e 0 (.ref I) (.ref s.heap.objs.size) (compEnvC scope cl H.objs.size env)) (RR (.ref s.heap.objs.size) H.objs.size) s₃ := by
    rintro s₃ rfl
    refine turns_all R hok hloop W hIo hSt hkind hx st1 F1 N1 hns₁ off1 hI₀ hC₀ hIL (Ne.symm (ltC L hLlt)) (ltC I hIlt) (Nat.ne_of_lt hIlt) (Ne.symm hDC) (fun hm => absurd (hfp _ hm) (by rw [size0]; exact Nat.not_lt.mpr (Nat.le_succ _))) h0 ?_ ?_
    · intro i v oD nw m₂ oI oC h tk E' hi hR hv ht hC hxv F' N' off'
      exact turn i v oD nw m₂ I oI _ oC _ h tk E' hi hR hv ht hC hxv F' N' off' ⟨ltC I hIlt, Nat.ne_of_lt hIlt, Ne.symm hDC⟩ (Nat.le_refl _)
    · intro oD nw m₂ h tk hR ht hC F' N' off'
      exact hend _ _ oD nw m₂ h tk hR ht hC hC₀ (free _ (Nat.le_refl _)) (Ne.symm (ltC L hLlt)) (Nat.ne_of_gt hLlt) (Ne.symm hDC) (Nat.le_refl _) F' N' fun p hp => ⟨(off'.mem p hp).2.1, (off'.mem p hp).2.2⟩
  exact hstart _ _ _ _ _ (all _ rfl) (W.self 0 _ _ _ st1 (all _ rfl))
end
end Mine
end
section
open PySem PySem.W PyProof.Rows PySem.Calls
set_option maxRecDepth 100000
set_option maxHeartbeats 2000000
namespace Mine
/-- a comprehension's source, its iterator made -/
inductive Src (prog : Program) (w : World) (A : Around) (h₀ : Heap) (L : Addr) (m : Str → Option Value) (nw : List (Addr × Obj)) (S : List (Addr × Obj) → Prop) (I : Addr) (n : Nat) (P : Nat → Value → Prop) (s : Shared) : Prop where
  | mk (fp : List Addr) (St : Nat → Heap → Prop) (W : Walks prog w A I fp [I] n P St) (hIo : ∀ i h, St i h → ∃ o, h.get? I = some o)
    (hSt : ∀ i h h' o nw, St i h → h.get? I = some o → h'.get? I = some o → (∀ b o, h₀.get? b = some o → h'.get? b = some o) → News h₀ L h' nw → S nw → St i h')
    (hst : St 0 s.heap) (hfp : ∀ b ∈ fp, b < s.heap.objs.size) (F : Fr h₀ L s.heap m) (N : News h₀ L s.heap nw) (hIL : I ≠ L) (hI₀ : h₀.get? I = none) (off : ∀ p ∈ nw, p.1 ≠ I) (hS : S nw)
/-- what is to be shown of the turns -/
inductive CTurns (prog : Program) (w : World) (A : Around) (h₀ : Heap) (L : Addr) (m : Str → Option Value) (env : Env) (step : Step) (x : Str) (scope : Scope) (cl : List (Str × Addr)) (o0 : Obj) (m' : Addr → Str → Option Value) (K : Addr → Shared → Prop)
    (nw : List (Addr × Obj)) (S : List (Addr × Obj) → Prop) (n : Nat) (P : Nat → Value → Prop) (s : Shared) : Prop where
  | mk (R : Nat → Obj → List (Addr × Obj) → Prop) (h0 : R 0 o0 nw) (hRS : ∀ i oD nw, R i oD nw → S nw)
    (turn : ∀ i v oD nw m₂ I oI C oC D h tk E', i < n → R i oD nw → P i v → s.toks ≤ tk → LCg.NsObj oC m₂ → m₂ x = some v → Fr h₀ L h m → News h₀ L h ((I, oI) :: (C, oC) :: (D, oD) :: nw) → LCg.Off3 I C D nw → ((@Ne Nat I C) ∧ (@Ne Nat I D) ∧ (@Ne Nat C D)) → s.heap.objs.size ≤ D →
      step D (compEnvC scope cl C env) (CEnd h₀ L m I oI C oC D (R (i + 1)) { s with heap := h, toks := tk }) E' { s with heap := h, toks := tk })
    (fin : ∀ D oD nw h tk, R n oD nw → s.toks ≤ tk → h₀.get? D = none → D ≠ L → s.heap.objs.size ≤ D → (∀ p ∈ nw, p.1 ≠ D) → Fr h₀ L h (m' D) → News h₀ L h ((D, oD) :: nw) → K D { s with heap := h, toks := tk })
def CT (prog : Program) (w : World) (A : Around) (h₀ : Heap) (L : Addr) (m : Str → Option Value) (env : Env) (step : Step) (x : Str) (scope : Scope) (cl : List (Str × Addr)) (o0 : Obj) (m' : Addr → Str → Option Value) (K : Addr → Shared → Prop) (it : Value) (s : Shared) : Prop :=
  ∃ I n P S nw, it = .ref I ∧ Src prog w A h₀ L m nw S I n P s ∧ CTurns prog w A h₀ L m env step x scope cl o0 m' K nw S n P s
section
variable {prog : Program} {w : World} {A : Around} {E : Value → Shared → Prop} {s : Shared} {h₀ : Heap} {L : Addr} {m : Str → Option Value} {env : Env}
theorem ct_block {step : Step} {e : Expr} {x : Str} {px : Pos} {scope : Scope} {cl : List (Str × Addr)} {T : String} {data : Data} {mk : Sem Value} {it : Value} {m' : Addr → Str → Option Value} {K : Addr → Shared → Prop} {RR : Value → Addr → Result → Shared → Prop}
    (hmk : mk = newObj (.type T) data) (hok : StepOk step) (hloop : LoopBy prog w A step x px e)
    (hstart : ∀ (it acc : Value) (c : Env) (RR : Result → Shared → Prop) (s : Shared), codeAny (model prog w) A (.compLoop e 0 it acc c) RR s →
      wpAny (model prog w) A (pyIter it) (fun it' s' => codeAny (model prog w) A (.compLoop e 0 it' acc c) RR s') (notedBy (model prog w) A c fun x s' => RR (.error x) s') s → codeAny (model prog w) A (.compStart e 0 it acc c) RR s)
    (hsd : sizeOk data) (hfree : ({ cls := .type T, data } : Obj).isFreed = false) (hcell : ∀ y ∈ scope.names, y.2 ≠ .cell) (hkind : scope.kind = .function) (hx : scope.names.lookup x = some .local)
    (hRR : ∀ D C m₂ h tk oD nw, h.Ns C m₂ → C ≠ L → D ≠ L → C ≠ D → h₀.get? C = none → h₀.get? D = none → (∀ p ∈ nw, p.1 ≠ C) → Fr h₀ L h m → News h₀ L h ((D, oD) :: nw) →
      (∀ h' tk', Fr h₀ L h' (m' D) → News h₀ L h' ((D, oD) :: nw) → K D { s with heap := h', toks := tk + tk' }) → RR (.ref D) C (.ok .next) { s with heap := h, toks := tk })
    (h : CT prog w A h₀ L m env step x scope cl { cls := .type T, data } m' K it s) :
    wpAny (model prog w) A mk (fun acc s₃ => wpAny (model prog w) A (newFunctionEnv scope env.globals cl [] env.qual none .none (some env)) (fun cenv s₄ =>
      codeAny (model prog w) A (.compStart e 0 it acc { cenv with scope := relabel scope env }) (RR acc cenv.locals) s₄) E s₃) E s := by
  obtain ⟨I, n, P, S, nw, rfl, ⟨fp, St, W, hIo, hSt, hst, hfp, F, N, hIL, hI₀, off, hS⟩, ⟨R, h0, hRS, turn, fin⟩⟩ := h
  refine block_A R hmk hok hloop hstart hsd hfree W hIo (fun i h h' o oD nw a b c d e f => hSt i h h' o nw a b c d e (hRS _ _ _ f)) hcell hkind hx hst hfp F N hI₀ hIL off h0 turn ?_
  intro D C oD nw' m₂ h tk hR ht hC hC₀ hD₀ hCL hDL hCD hDs F' N' hne
  exact hRR D C m₂ h tk oD nw' hC hCL hDL hCD hC₀ hD₀ (fun p hp => (hne p hp).1) F' N' fun h' tk' F'' N'' => fin D oD nw' h' (tk + tk') hR (Nat.le_trans ht (Nat.le_add_right _ _)) hD₀ hDL hDs (fun p hp => (hne p hp).2) F'' N''
theorem news_same {h h' : Heap} {C D : Addr} {oD : Obj} {nw : List (Addr × Obj)} (N : News h₀ L h ((D, oD) :: nw)) (hs : Heap.SameBut C h h') (hCD : C ≠ D) (hne : ∀ p ∈ nw, p.1 ≠ C) : News h₀ L h' ((D, oD) :: nw) := fun p hp => by
  refine ⟨hs.extBut _ _ ?_ (N p hp).1, (N p hp).2⟩
  rcases List.mem_cons.mp hp with rfl | hp
  · exact Ne.symm hCD
  · exact hne p hp
theorem rr_expr {m' : Addr → Str → Option Value} {K : Addr → Shared → Prop} {Q : Value → Shared → Prop} (hm : ∀ D, m' D = m) (hK : ∀ D s, K D s → Q (.ref D) s) :
    ∀ D C m₂ h tk oD nw, h.Ns C m₂ → C ≠ L → D ≠ L → C ≠ D → h₀.get? C = none → h₀.get? D = none → (∀ p ∈ nw, p.1 ≠ C) → Fr h₀ L h m → News h₀ L h ((D, oD) :: nw) →
      (∀ h' tk', Fr h₀ L h' (m' D) → News h₀ L h' ((D, oD) :: nw) → K D { s with heap := h', toks := tk + tk' }) → compPost (model prog w) A E none Q (.ref D) C (.ok .next) { s with heap := h, toks := tk } := by
  intro D C m₂ h tk oD nw hC hCL hDL hCD hC₀ hD₀ hne F N hk
  refine ⟨m₂, hC, fun h' hs => ?_⟩
  exact hK _ _ (hk h' 0 (by rw [hm]; exact F.change hs hCL hC₀) (news_same N hs hCD hne))
theorem rr_local {y : Str} {py : Pos} {m' : Addr → Str → Option Value} {K : Addr → Shared → Prop} {Q : Flow → Shared → Prop} (hLe : env.locals = L) (hy : env.kindOf y = some .local) (hp : (env.scope.kind == .class || (env.scope.kind == .module && env.locals != env.globals)) = false)
    (hm : ∀ D, m' D = fun z => if z = y then some (.ref D) else m z) (hK : ∀ D s, K D s → Q .next s) :
    ∀ D C m₂ h tk oD nw, h.Ns C m₂ → C ≠ L → D ≠ L → C ≠ D → h₀.get? C = none → h₀.get? D = none → (∀ p ∈ nw, p.1 ≠ C) → Fr h₀ L h m → News h₀ L h ((D, oD) :: nw) →
      (∀ h' tk', Fr h₀ L h' (m' D) → News h₀ L h' ((D, oD) :: nw) → K D { s with heap := h', toks := tk + tk' }) → compPost (model prog w) A E (some (assign (.Name y py) env)) (fun _ s' => Q .next s') (.ref D) C (.ok .next) { s with heap := h, toks := tk } := by
  subst hLe
  intro D C m₂ h tk oD nw hC hCL hDL hCD hC₀ hD₀ hne F N hk
  show wpAny _ A (assign (.Name y py) env (.ref D)) _ _ _
  refine wpAny_assign_Name (wpAny_storeName_local hy F.ns (fun h₂ hn₂ hs₂ => ?_) hp)
  have hL₀ : h₀.get? env.locals = none := Heap.get?_none_of_le F.above
  have F₂ : Fr h₀ env.locals h₂ (fun z => if z = y then some (.ref D) else m z) := ⟨hn₂, fun b o e => hs₂.extBut b o (fun q => by rw [q, hL₀] at e; cases e) (F.keep b o e), F.above⟩
  refine ⟨m₂, hC.sameBut hs₂ hCL, fun h'' hs'' => hK _ _ (hk h'' 1 (by rw [hm]; exact F₂.change hs'' hCL hC₀) ?_)⟩
  have N₂ : News h₀ env.locals h₂ ((D, oD) :: nw) := fun p hp => ⟨hs₂.extBut _ _ (N p hp).2.1 (N p hp).1, (N p hp).2⟩
  exact news_same N₂ hs'' hCD hne
section
variable {elt kx vx iter : Expr} {x : Str} {px : Pos} {scope : Scope} {cl : List (Str × Addr)} {pos : Pos}
theorem ListComp_T {Q : Value → Shared → Prop} (hclos : closureFor scope env = pure cl) (hcell : ∀ y ∈ scope.names, y.2 ≠ .cell) (hkind : scope.kind = .function)
    (hnames : ∀ y ∈ scope.names, y.2 = .local → scope.names.lookup y.1 = some .local) (hx : scope.names.lookup x = some .local) (F₀ : Fr h₀ L s.heap m)
    (h : wpAny (model prog w) A (eval iter env) (fun xv s₁ => wpAny (model prog w) A (pyIter xv) (CT prog w A h₀ L m env (lstep prog w A elt) x scope cl (LCg.lst []) (fun _ => m) (fun D s => Q (.ref D) s)) E s₁) E s)
    (hs : ∀ x, foldedSetIterable iter env x = pure x := by intro _; rfl) :
    wpAny (model prog w) A (eval (.ListComp elt [⟨.Name x px, iter, [], 0⟩] scope pos) env) Q E s := by
  rw [eval_ListComp]
  refine wpAny_comprehension_free (use := none) rfl hs hclos hkind hnames (wpAny_mono h (fun xv s₁ h₁ => wpAny_mono h₁ (fun it s₂ h₂ => ?_) fun _ _ e => e) fun _ _ e => e)
  exact ct_block (data := .seq #[] 0) (T := "list") rfl (lstep_ok elt) (loopBy_list (px := px)) (fun it acc c RR s a b => codeAny_compStart_list a b) (by size_fits) rfl hcell hkind hx (rr_expr (fun _ => rfl) fun _ _ h => h) h₂
theorem DictComp_T {Q : Value → Shared → Prop} (hclos : closureFor scope env = pure cl) (hcell : ∀ y ∈ scope.names, y.2 ≠ .cell) (hkind : scope.kind = .function)
    (hnames : ∀ y ∈ scope.names, y.2 = .local → scope.names.lookup y.1 = some .local) (hx : scope.names.lookup x = some .local) (F₀ : Fr h₀ L s.heap m)
    (h : wpAny (model prog w) A (eval iter env) (fun xv s₁ => wpAny (model prog w) A (pyIter xv) (CT prog w A h₀ L m env (dstep prog w A kx vx) x scope cl (dictOf [] 0) (fun _ => m) (fun D s => Q (.ref D) s)) E s₁) E s)
    (hs : ∀ x, foldedSetIterable iter env x = pure x := by intro _; rfl) :
    wpAny (model prog w) A (eval (.DictComp kx vx [⟨.Name x px, iter, [], 0⟩] scope pos) env) Q E s := by
  show wpAny _ _ (comprehension (.DictComp kx vx [⟨.Name x px, iter, [], 0⟩] scope pos) scope env _ newDict false (eval iter env)) _ _ _
  refine wpAny_comprehension_free (use := none) rfl hs hclos hkind hnames (wpAny_mono h (fun xv s₁ h₁ => wpAny_mono h₁ (fun it s₂ h₂ => ?_) fun _ _ e => e) fun _ _ e => e)
  exact ct_block (data := .dict #[]) (T := "dict") rfl (dstep_ok kx vx) (loopBy_dict (px := px)) (fun it acc c RR s a b => codeAny_compStart_dict a b) (by size_fits) rfl hcell hkind hx (rr_expr (fun _ => rfl) fun _ _ h => h) h₂
theorem Assign_ListComp_T {y : Str} {py spos : Pos} {Q : Flow → Shared → Prop} (F₀ : Fr h₀ L s.heap m) (hLe : env.locals = L)
    (hsw : swapsWith (.ListComp elt [⟨.Name x px, iter, [], 0⟩] scope pos) (some (.Name y py)) spos.line env = pure true)
    (hclos : closureFor scope env = pure cl) (hcell : ∀ z ∈ scope.names, z.2 ≠ .cell) (hkind : scope.kind = .function)
    (hnames : ∀ z ∈ scope.names, z.2 = .local → scope.names.lookup z.1 = some .local) (hx : scope.names.lookup x = some .local)
    (hy : env.kindOf y = some .local) (hp : (env.scope.kind == .class || (env.scope.kind == .module && env.locals != env.globals)) = false)
    (h : wpAny (model prog w) A (eval iter env) (fun xv s₁ => wpAny (model prog w) A (pyIter xv) (CT prog w A h₀ L m env (lstep prog w A elt) x scope cl (LCg.lst []) (fun D => fun z => if z = y then some (.ref D) else m z) (fun _ s => Q .next s)) E s₁) E s)
    (hs : ∀ x, foldedSetIterable iter env x = pure x := by intro _; rfl) :
    wpAny (model prog w) A (exec (.Assign [.Name y py] (.ListComp elt [⟨.Name x px, iter, [], 0⟩] scope pos) spos) env) Q E s := by
  rw [exec_Assign_Name_used _ _ _ _ hsw]
  refine wpAny_bind (wpAny_standAt (wpAny_bind ?_))
  show wpAny _ A (do let _ ← comprehension (.ListComp elt [⟨.Name x px, iter, [], 0⟩] scope pos) scope env _ (newList []) false (eval iter env) (some (assign (.Name y py) env))) _ _ s
  refine wpAny_bind (wpAny_mono (wpAny_comprehension_free (use := some (assign (.Name y py) env)) (Q := fun _ s' => Q .next s') rfl hs hclos hkind hnames
    (wpAny_mono h (fun xv s₁ h₁ => wpAny_mono h₁ (fun it s₂ h₂ => ?_) fun _ _ e => e) fun _ _ e => e)) (fun _ s' hq => wpAny_pure (wpAny_pure hq)) fun _ _ e => e)
  exact ct_block (data := .seq #[] 0) (T := "list") rfl (lstep_ok elt) (loopBy_list (px := px)) (fun it acc c RR s a b => codeAny_compStart_list a b) (by size_fits) rfl hcell hkind hx (rr_local hLe hy hp (fun _ => rfl) fun _ _ h => h) h₂
theorem Assign_DictComp_T {y : Str} {py spos : Pos} {Q : Flow → Shared → Prop} (F₀ : Fr h₀ L s.heap m) (hLe : env.locals = L)
    (hsw : swapsWith (.DictComp kx vx [⟨.Name x px, iter, [], 0⟩] scope pos) (some (.Name y py)) spos.line env = pure true)
    (hclos : closureFor scope env = pure cl) (hcell : ∀ z ∈ scope.names, z.2 ≠ .cell) (hkind : scope.kind = .function)
    (hnames : ∀ z ∈ scope.names, z.2 = .local → scope.names.lookup z.1 = some .local) (hx : scope.names.lookup x = some .local)
    (hy : env.kindOf y = some .local) (hp : (env.scope.kind == .class || (env.scope.kind == .module && env.locals != env.globals)) = false)
    (h : wpAny (model prog w) A (eval iter env) (fun xv s₁ => wpAny (model prog w) A (pyIter xv) (CT prog w A h₀ L m env (dstep prog w A kx vx) x scope cl (dictOf [] 0) (fun D => fun z => if z = y then some (.ref D) else m z) (fun _ s => Q .next s)) E s₁) E s)
    (hs : ∀ x, foldedSetIterable iter env x = pure x := by intro _; rfl) :
    wpAny (model prog w) A (exec (.Assign [.Name y py] (.DictComp kx vx [⟨.Name x px, iter, [], 0⟩] scope pos) spos) env) Q E s := by
  rw [exec_Assign_Name_used _ _ _ _ hsw]
  refine wpAny_bind (wpAny_standAt (wpAny_bind ?_))
  show wpAny _ A (do let _ ← comprehension (.DictComp kx vx [⟨.Name x px, iter, [], 0⟩] scope pos) scope env _ newDict false (eval iter env) (some (assign (.Name y py) env))) _ _ s
  refine wpAny_bind (wpAny_mono (wpAny_comprehension_free (use := some (assign (.Name y py) env)) (Q := fun _ s' => Q .next s') rfl hs hclos hkind hnames
    (wpAny_mono h (fun xv s₁ h₁ => wpAny_mono h₁ (fun it s₂ h₂ => ?_) fun _ _ e => e) fun _ _ e => e)) (fun _ s' hq => wpAny_pure (wpAny_pure hq)) fun _ _ e => e)
  exact ct_block (data := .dict #[]) (T := "dict") rfl (dstep_ok kx vx) (loopBy_dict (px := px)) (fun it acc c RR s a b => codeAny_compStart_dict a b) (by size_fits) rfl hcell hkind hx (rr_local hLe hy hp (fun _ => rfl) fun _ _ h => h) h₂
end
section
variable {nw : List (Addr × Obj)} {step : Step} {x : Str} {scope : Scope} {cl : List (Str × Addr)} {o0 : Obj} {m' : Addr → Str → Option Value} {K : Addr → Shared → Prop}
theorem ct_bytes {b : Array UInt8} {t : Tok} (hh : A.handled = none) (F : Fr h₀ L s.heap m) (N : News h₀ L s.heap nw)
    (R : ∀ g, s.heap.objs.size ≤ g.objs.size → (∀ p ∈ nw, p.1 < g.objs.size) → CTurns prog w A h₀ L m env step x scope cl o0 m' K nw (fun _ => True) b.size (fun i v => ∃ c u, b[i]? = some c ∧ v = .int (c.toNat : Int) u) { s with heap := g }) :
    wpAny (model prog w) A (pyIter (.bytes b t)) (CT prog w A h₀ L m env step x scope cl o0 m' K) E s := by
  refine KBw.pyIter_bytes ?_
  have up : ∀ b' o, s.heap.get? b' = some o → (s.heap.push { cls := .type "bytes_iterator", data := .fields #[.bytes b t, .int 0 0] }).get? b' = some o := fun b' o e => Heap.get?_push_of_some _ e
  refine ⟨s.heap.objs.size, b.size, _, fun _ => True, nw, rfl, ⟨[s.heap.objs.size], _, KBw.walks hh s.heap.objs.size b t, fun i h st => ?_, fun i h h' o nw st e e' _ _ _ => ?_, ⟨_, Heap.get?_push_size _ rfl, rfl, rfl⟩, fun b' hb => ?_, F.keeps up, N.grown up, Nat.ne_of_gt F.ns.lt, next_is_new F, fun p hp => Nat.ne_of_lt (Heap.lt_size (N p hp).1), trivial⟩, R _ ?_ fun p hp => Nat.lt_of_lt_of_le (Heap.lt_size (N p hp).1) (by rw [Heap.size_push]; exact Nat.le_succ _)⟩
  · obtain ⟨o, e, _⟩ := st; exact ⟨o, e⟩
  · obtain ⟨o', q, r⟩ := st; rw [e] at q; cases q; exact ⟨o, e', r⟩
  · rw [List.mem_singleton.mp hb]
    show s.heap.objs.size < (s.heap.push _).objs.size
    rw [Heap.size_push]; exact Nat.lt_succ_self _
  · rw [Heap.size_push]; exact Nat.le_succ _
theorem ct_list {ax : Addr} {its : Array Value} (hh : A.handled = none) (F : Fr h₀ L s.heap m) (N : News h₀ L s.heap nw) (S : LCg.SrcAt h₀ ax its nw)
    (R : ∀ g, s.heap.objs.size ≤ g.objs.size → (∀ p ∈ nw, p.1 < g.objs.size) → CTurns prog w A h₀ L m env step x scope cl o0 m' K nw (LCg.SrcAt h₀ ax its) its.size (fun i v => its[i]? = some v) { s with heap := g }) :
    wpAny (model prog w) A (pyIter (.ref ax)) (CT prog w A h₀ L m env step x scope cl o0 m' K) E s := by
  have hl := S.list F.keep N
  have hlt : ax < s.heap.objs.size := by obtain ⟨_, e, _⟩ := hl; exact Heap.lt_size e
  refine wpAny_pyIter_list hl ?_
  have up : ∀ b o, s.heap.get? b = some o → (s.heap.push { cls := .type "list_iterator", data := .fields #[.ref ax, .int 0 0] }).get? b = some o := fun b o e => Heap.get?_push_of_some _ e
  refine ⟨s.heap.objs.size, its.size, _, LCg.SrcAt h₀ ax its, nw, rfl, ⟨[s.heap.objs.size, ax], _, Walks.list hh s.heap.objs.size ax (Nat.ne_of_lt hlt) its, (fun i h st => by obtain ⟨o, e, _⟩ := st.1; exact ⟨o, e⟩), LCg.list_st, ⟨⟨_, Heap.get?_push_size _ rfl, rfl, rfl⟩, hl.push _⟩, (fun b hb => ?_), F.keeps up, N.grown up, Nat.ne_of_gt F.ns.lt, next_is_new F, fun p hp => Nat.ne_of_lt (Heap.lt_size (N p hp).1), S⟩, R _ ?_ fun p hp => Nat.lt_of_lt_of_le (Heap.lt_size (N p hp).1) (by rw [Heap.size_push]; exact Nat.le_succ _)⟩
  · show b < (s.heap.push _).objs.size
    rw [Heap.size_push]
    rcases List.mem_cons.mp hb with rfl | hb
    · exact Nat.lt_succ_self _
    · rw [List.mem_singleton.mp hb]; exact Nat.lt_succ_of_lt hlt
  · rw [Heap.size_push]; exact Nat.le_succ _
theorem ct_range {r : Addr} {a b c : Int} {t u v : Tok} {n : Nat} (hh : A.handled = none) (F : Fr h₀ L s.heap m) (N : News h₀ L s.heap nw) (hr : IsRange s.heap r a b c t u v) (hsm : Builtin.Range.small a b c = true) (hn : Builtin.Range.rangeSize a b c = ((n : Nat) : Int))
    (R : ∀ g, s.heap.objs.size ≤ g.objs.size → (∀ p ∈ nw, p.1 < g.objs.size) → CTurns prog w A h₀ L m env step x scope cl o0 m' K nw (fun _ => True) n (fun i v => ∃ t, v = .int (a + (i : Int) * c) t) { s with heap := g }) :
    wpAny (model prog w) A (pyIter (.ref r)) (CT prog w A h₀ L m env step x scope cl o0 m' K) E s := by
  refine wpAny_pyIter_range hr hsm ?_
  have up : ∀ b' o, s.heap.get? b' = some o → (s.heap.push { cls := .type "range_iterator", data := .fields #[rawInt a, rawInt (Builtin.Range.rangeSize a b c), rawInt c] }).get? b' = some o := fun b' o e => Heap.get?_push_of_some _ e
  refine ⟨s.heap.objs.size, n, _, fun _ => True, nw, rfl, ⟨[s.heap.objs.size], _, Walks.range hh s.heap.objs.size a c n, fun i h st => ⟨_, st⟩, fun i h h' o nw st e e' _ _ _ => ?_, (by show IsRangeIter _ _ _ _ _; rw [hn]; simpa using Heap.get?_push_size _ rfl), (fun b hb => ?_), F.keeps up, N.grown up, Nat.ne_of_gt F.ns.lt, next_is_new F, fun p hp => Nat.ne_of_lt (Heap.lt_size (N p hp).1), trivial⟩, R _ ?_ fun p hp => Nat.lt_of_lt_of_le (Heap.lt_size (N p hp).1) (by rw [Heap.size_push]; exact Nat.le_succ _)⟩
  · have st' : h.get? s.heap.objs.size = some _ := st
    show h'.get? s.heap.objs.size = some _
    rw [e', ← e]; exact st'
  · rw [List.mem_singleton.mp hb]
    show s.heap.objs.size < (s.heap.push _).objs.size
    rw [Heap.size_push]; exact Nat.lt_succ_self _
  · rw [Heap.size_push]; exact Nat.le_succ _
end
end
end Mine
end
section
open PySem PySem.W PyProof.Rows PySem.Calls
set_option maxRecDepth 100000
set_option maxHeartbeats 2000000
namespace Mine
section
variable {prog : Program} {w : World} {A : Around} {E : Value → Shared → Prop} {s : Shared} {h₀ : Heap} {L : Addr} {m : Str → Option Value}
theorem off_ne {I C D : Addr} {nw : List (Addr × Obj)} (off : LCg.Off3 I C D nw) : ∀ p ∈ nw, p.1 ≠ D := fun p hp => (off.mem p hp).2.2
/-- a list's own turn ends with append -/
theorem cend_append {I C D : Addr} {oI oC : Obj} {ys : List Value} {y : Value} {nw all : List (Addr × Obj)} {s₁ : Shared} {h : Heap} {tk : Nat} {R : Obj → List (Addr × Obj) → Prop} (F : Fr h₀ L h m) (N : News h₀ L h all)
    (sub : ∀ p ∈ (I, oI) :: (C, oC) :: (D, LCg.lst ys) :: nw, p ∈ all) (off : LCg.Off3 I C D nw) (ne : (@Ne Nat I C) ∧ (@Ne Nat I D) ∧ (@Ne Nat C D)) (hsz : ys.length ≤ sizeLine) (hR : R (LCg.lst (ys ++ [y])) nw) :
    wpAny (model prog w) A (call (.builtin "list.append") [.ref D, y]) (fun _ s₅ => CEnd h₀ L m I oI C oC D R s₁ s₅) E { s₁ with heap := h, toks := tk } := by
  have zI := N _ (sub (I, oI) List.mem_cons_self)
  have zC := N _ (sub (C, oC) (List.mem_cons_of_mem _ List.mem_cons_self))
  have zD := N _ (sub (D, LCg.lst ys) (List.mem_cons_of_mem _ (List.mem_cons_of_mem _ List.mem_cons_self)))
  refine append_at (s := { s₁ with heap := h, toks := tk }) (hsz := by rw [List.size_toArray]; exact hsz) zD.1 fun h₅ hs₅ hD₅ => ?_
  refine ⟨h₅, tk, _, nw, rfl, F.change hs₅ zD.2.1 zD.2.2, fun p hp => ?_, off, hR⟩
  rcases List.mem_cons.mp hp with rfl | hp
  · exact ⟨hs₅.extBut _ _ ne.2.1 zI.1, zI.2⟩
  rcases List.mem_cons.mp hp with rfl | hp
  · exact ⟨hs₅.extBut _ _ ne.2.2 zC.1, zC.2⟩
  rcases List.mem_cons.mp hp with rfl | hp
  · exact ⟨hD₅.trans (congrArg some (LCg.lst_snoc ys y)), zD.2⟩
  · have z := N p (sub p (List.mem_cons_of_mem _ (List.mem_cons_of_mem _ (List.mem_cons_of_mem _ hp))))
    exact ⟨hs₅.extBut _ _ (off_ne off p hp) z.1, z.2⟩
/-- texts in a list, none of them older than T -/
inductive Young (T : Nat) : List Value → List Str → Prop where
  | nil : Young T [] []
  | snoc {vs : List Value} {ys : List Str} {y : Str} {t : Tok} (h : Young T vs ys) (ht : T ≤ t) : Young T (vs ++ [.str y t]) (ys ++ [y])
theorem Young.vals {T : Nat} {vs : List Value} {ys : List Str} (h : Young T vs ys) : ∃ l : List (Str × Tok), vs = strValues l ∧ l.map (·.1) = ys ∧ ∀ p ∈ l, T ≤ p.2 := by
  induction h with
  | nil => exact ⟨[], rfl, rfl, fun _ h => nomatch h⟩
  | @snoc vs ys y t _ ht ih =>
    obtain ⟨l, rfl, rfl, hl⟩ := ih
    refine ⟨l ++ [(y, t)], by simp [strValues], by simp, fun p hp => ?_⟩
    rcases List.mem_append.mp hp with hp | hp
    · exact hl p hp
    · rw [List.mem_singleton.mp hp]; exact ht
theorem Young.length {T : Nat} {vs : List Value} {ys : List Str} (h : Young T vs ys) : vs.length = ys.length := by
  induction h with
  | nil => rfl
  | snoc _ _ ih => simp [ih]
theorem joinT {x : Str} {t : Tok} {D : Addr} {vs : List Value} {ys : List Str} {T : Nat} {Q : Value → Shared → Prop} (hl : s.heap.IsList D vs.toArray) (hy : Young T vs ys) (hT : T ≤ s.toks) (hok : (ys.map (·.length)).sum + ys.length * x.length ≤ 16777216)
    (hq : ∀ t' k, T ≤ t' → Q (.str (Txt.join x ys) t') { s with toks := k }) : wpAny (model prog w) A (call (.builtin "str.join") [.str x t, .ref D]) Q E s := by
  obtain ⟨l, rfl, rfl, hT'⟩ := hy.vals
  have hok' := joinOk_of hok
  have hle := joinOk_length hok'
  unfold JoinOk at hok'
  rw [Bool.not_eq_true'] at hok'
  refine call_meets F.slot_str_join (typeIs_str _ _ _) F.entry_str_join (F.args_str_join_2 _ _) (meets_str_join_list x t D l hok') ⟨hl, ?_⟩
  match l, hT', hle, hq with
  | [], _, hle, hq => exact ⟨hle, hq _ _ hT⟩
  | [p], hT', _, hq => exact hq p.2 s.toks (hT' p List.mem_cons_self)
  | _ :: _ :: _, _, hle, hq => exact ⟨hle, hq _ _ hT⟩
theorem young_snoc {T : Nat} {vs : List Value} {l : List Int} {g : Int → Str} {i : Nat} {k : Int} {t : Tok} (h : Young T vs ((l.take i).map g)) (hk : l[i]? = some k) (ht : T ≤ t) : Young T (vs ++ [.str (g k) t]) ((l.take (i + 1)).map g) := by
  rw [List.take_add_one, hk]
  simpa using Young.snoc h ht
theorem ret_strT {h' : Heap} {news : List (Addr × Obj)} {Q : Value → Shared → Prop} {t : Tok} {tk' : Nat} {x y : Str} {T : Nat} (hret : ∀ (t : Tok) (h' : Heap) (tk' : Nat), T ≤ t → Fr h₀ L h' m → News h₀ L h' news → Q (.str x t) { s with heap := h', toks := tk' }) (e : y = x) (ht : T ≤ t) (F : Fr h₀ L h' m) (N : News h₀ L h' news) : Q (.str y t) { s with heap := h', toks := tk' } := by
  subst e
  exact hret t h' tk' ht F N
theorem toks_up {α : Type} {t : Sem α} {Q : α → Shared → Prop} {h' : Heap} {j : Nat} (h : ∀ k, s.toks ≤ k → wpAny (model prog w) A t Q E { s with heap := h', toks := k }) : wpAny (model prog w) A t Q E { s with heap := h', toks := s.toks + j } := h _ (Nat.le_add_right _ _)
theorem ones_sum (l : List Int) : ((l.map fun k => (⟨#[k.toNat]⟩ : Str)).map (·.length)).sum = l.length := by
  induction l with
  | nil => rfl
  | cons a r ih => simp only [List.map_cons, List.sum_cons, ih, List.length_cons]; show 1 + r.length = _; omega
/-- the turns of a list comprehension that adds nothing but its list -/
theorem CTurns.fixed {elt : Expr} {env : Env} {x : Str} {scope : Scope} {cl : List (Str × Addr)} {m' : Addr → Str → Option Value} {K : Addr → Shared → Prop} {nw : List (Addr × Obj)} {S : List (Addr × Obj) → Prop} {n : Nat} {P : Nat → Value → Prop} (hS : S nw) (hlt : ∀ p ∈ nw, p.1 < s.heap.objs.size) (Rel : Nat → List Value → Prop) (h0 : Rel 0 [])
    (turn : ∀ i v ys m₂ I oI C oC D h tk E', i < n → Rel i ys → P i v → s.toks ≤ tk → LCg.NsObj oC m₂ → m₂ x = some v → Fr h₀ L h m → News h₀ L h ((I, oI) :: (C, oC) :: (D, LCg.lst ys) :: nw) → LCg.Off3 I C D nw → ((@Ne Nat I C) ∧ (@Ne Nat I D) ∧ (@Ne Nat C D)) →
      wpAny (model prog w) A (eval elt (compEnvC scope cl C env)) (fun x s₄ => wpAny (model prog w) A (call (.builtin "list.append") [.ref D, x]) (fun _ s₅ => CEnd h₀ L m I oI C oC D (fun oD nw' => nw' = nw ∧ ∃ ys', oD = LCg.lst ys' ∧ Rel (i + 1) ys') { s with heap := h, toks := tk } s₅) E' s₄) E' { s with heap := h, toks := tk })
    (fin : ∀ D ys h tk, Rel n ys → s.toks ≤ tk → h₀.get? D = none → D ≠ L → (∀ p ∈ nw, p.1 < D) → Fr h₀ L h (m' D) → News h₀ L h ((D, LCg.lst ys) :: nw) → K D { s with heap := h, toks := tk }) :
    CTurns prog w A h₀ L m env (lstep prog w A elt) x scope cl (LCg.lst []) m' K nw S n P s := by
  refine CTurns.mk (fun i oD nw' => nw' = nw ∧ ∃ ys, oD = LCg.lst ys ∧ Rel i ys) ⟨rfl, [], rfl, h0⟩ (fun _ _ _ hr => hr.1 ▸ hS) ?_ ?_
  · rintro i v oD nw' m₂ I oI C oC D h tk E' hi ⟨rfl, ys, rfl, hR⟩ hP ht hC hx F N off ne _
    exact turn i v ys m₂ I oI C oC D h tk E' hi hR hP ht hC hx F N off ne
  · rintro D oD nw' h tk ⟨rfl, ys, rfl, hR⟩ ht h1 h2 h3 h4 F N
    exact fin D ys h tk hR ht h1 h2 (fun p hp => Nat.lt_of_lt_of_le (hlt p hp) h3) F N
/-- the turns of a dict comprehension that adds nothing but its dict -/
theorem CTurns.fixedD {kx vx : Expr} {env : Env} {x : Str} {scope : Scope} {cl : List (Str × Addr)} {m' : Addr → Str → Option Value} {K : Addr → Shared → Prop} {nw : List (Addr × Obj)} {S : List (Addr × Obj) → Prop} {n : Nat} {P : Nat → Value → Prop} (hS : S nw) (hlt : ∀ p ∈ nw, p.1 < s.heap.objs.size) (Rel : Nat → Obj → Prop) (h0 : Rel 0 (dictOf [] 0))
    (turn : ∀ i v oD m₂ I oI C oC D h tk E', i < n → Rel i oD → P i v → s.toks ≤ tk → LCg.NsObj oC m₂ → m₂ x = some v → Fr h₀ L h m → News h₀ L h ((I, oI) :: (C, oC) :: (D, oD) :: nw) → LCg.Off3 I C D nw → ((@Ne Nat I C) ∧ (@Ne Nat I D) ∧ (@Ne Nat C D)) →
      wpAny (model prog w) A (eval kx (compEnvC scope cl C env)) (fun kv s₄ => wpAny (model prog w) A (eval vx (compEnvC scope cl C env)) (fun vv s₅ => wpAny (model prog w) A (dictSet D kv vv) (fun _ s₆ => CEnd h₀ L m I oI C oC D (fun oD nw' => nw' = nw ∧ Rel (i + 1) oD) { s with heap := h, toks := tk } s₆) E' s₅) E' s₄) E' { s with heap := h, toks := tk })
    (fin : ∀ D oD h tk, Rel n oD → s.toks ≤ tk → h₀.get? D = none → D ≠ L → (∀ p ∈ nw, p.1 < D) → Fr h₀ L h (m' D) → News h₀ L h ((D, oD) :: nw) → K D { s with heap := h, toks := tk }) :
    CTurns prog w A h₀ L m env (dstep prog w A kx vx) x scope cl (dictOf [] 0) m' K nw S n P s := by
  refine CTurns.mk (fun i oD nw' => nw' = nw ∧ Rel i oD) ⟨rfl, h0⟩ (fun _ _ _ hr => hr.1 ▸ hS) ?_ ?_
  · rintro i v oD nw' m₂ I oI C oC D h tk E' hi ⟨rfl, hR⟩ hP ht hC hx F N off ne _
    exact turn i v oD m₂ I oI C oC D h tk E' hi hR hP ht hC hx F N off ne
  · rintro D oD nw' h tk ⟨rfl, hR⟩ ht h1 h2 h3 h4 F N
    exact fin D oD h tk hR ht h1 h2 (fun p hp => Nat.lt_of_lt_of_le (hlt p hp) h3) F N
/-- a dict's own turn ends with a store -/
theorem cend_set {knd : KeyKind prog w Int} {I C D : Addr} {oI oC oD : Obj} {kvs : List (Int × Value)} {k : Int} {key y : Value} {nw all : List (Addr × Obj)} {s₁ : Shared} {h : Heap} {tk : Nat} {R : Obj → List (Addr × Obj) → Prop} (F : Fr h₀ L h m) (N : News h₀ L h all)
    (sub : ∀ p ∈ (I, oI) :: (C, oC) :: (D, oD) :: nw, p ∈ all) (off : LCg.Off3 I C D nw) (ne : (@Ne Nat I C) ∧ (@Ne Nat I D) ∧ (@Ne Nat C D)) (hkey : knd.is k key = true) (ho : oD.IsDictOf knd kvs) (hsz : kvs.length ≤ sizeLine)
    (hR : ∀ oD', oD'.IsDictOf knd (stored kvs k y) → R oD' nw) :
    wpAny (model prog w) A (dictSet D key y) (fun _ s₆ => CEnd h₀ L m I oI C oC D R s₁ s₆) E { s₁ with heap := h, toks := tk } := by
  have zI := N _ (sub (I, oI) List.mem_cons_self)
  have zC := N _ (sub (C, oC) (List.mem_cons_of_mem _ List.mem_cons_self))
  have zD := N _ (sub (D, oD) (List.mem_cons_of_mem _ (List.mem_cons_of_mem _ List.mem_cons_self)))
  refine wpAny_dictSet_pairs (s := { s₁ with heap := h, toks := tk }) (hsz := hsz) hkey (Heap.dictOf_iff.mpr ⟨oD, zD.1, ho⟩) fun h₅ hd₅ hs₅ => ?_
  obtain ⟨oD', hD₅, hd'⟩ := Heap.dictOf_iff.mp hd₅
  refine ⟨h₅, tk + 1, _, nw, rfl, F.change hs₅ zD.2.1 zD.2.2, fun p hp => ?_, off, hR oD' hd'⟩
  rcases List.mem_cons.mp hp with rfl | hp
  · exact ⟨hs₅.extBut _ _ ne.2.1 zI.1, zI.2⟩
  rcases List.mem_cons.mp hp with rfl | hp
  · exact ⟨hs₅.extBut _ _ ne.2.2 zC.1, zC.2⟩
  rcases List.mem_cons.mp hp with rfl | hp
  · exact ⟨hD₅, zD.2⟩
  · have z := N p (sub p (List.mem_cons_of_mem _ (List.mem_cons_of_mem _ (List.mem_cons_of_mem _ hp))))
    exact ⟨hs₅.extBut _ _ (off_ne off p hp) z.1, z.2⟩
end
theorem ints_get {vs : List Value} {ns : List Int} (h : IntsAre vs ns) : ∀ {i : Nat} {v : Value}, vs.toArray[i]? = some v → ∃ k t, ns[i]? = some k ∧ v = .int k t := by
  induction h with
  | nil => intro i v hv; simp at hv
  | cons n t _ ih =>
    intro i v hv
    cases i with
    | zero => simp at hv; exact ⟨n, t, rfl, hv.symm⟩
    | succ j => simpa using ih (i := j) (by simpa using hv)
theorem ints_snoc {vs : List Value} {l : List Int} {i : Nat} {k : Int} {t : Tok} (h : IntsAre vs (l.take i)) (hk : l[i]? = some k) : IntsAre (vs ++ [.int k t]) (l.take (i + 1)) := by
  rw [List.take_add_one, hk]
  exact h.append (.cons _ _ .nil)
/-- a list of ints, copied as far as i -/
structure Copied {vs : List Value} {ns : List Int} (h : IntsAre vs ns) (i : Nat) (ys : List Value) : Prop where
  are : IntsAre ys (ns.take i)
theorem Copied.snoc {vs : List Value} {ns : List Int} {h : IntsAre vs ns} {i : Nat} {ys : List Value} {k : Int} {t : Tok} (c : Copied h i ys) (hk : ns[i]? = some k) : Copied h (i + 1) (ys ++ [.int k t]) := ⟨ints_snoc c.are hk⟩
theorem Copied.whole {vs : List Value} {ns : List Int} {h : IntsAre vs ns} {n : Nat} {ys : List Value} (c : Copied h n ys) (hn : n = vs.toArray.size) : IntsAre ys ns := by
  have := c.are
  rwa [List.take_of_length_le (by rw [hn, List.size_toArray, h.length]; exact Nat.le_refl _)] at this
theorem Copied.len {vs : List Value} {ns : List Int} {h : IntsAre vs ns} {i : Nat} {ys : List Value} (c : Copied h i ys) (hn : vs.length ≤ 1000) : ys.length ≤ sizeLine := by
  rw [c.are.length, List.length_take, sizeLine_eq, ← h.length]; omega
end Mine
end
section
open PySem PySem.W PyProof.Rows
set_option maxRecDepth 100000
set_option maxHeartbeats 8000000
namespace Mine
local macro_rules | `(tactic| walk_at "mine open") => `(tactic| (dsimp only [Spec]; k_fill; (try dsimp only [CbRet]); intros))
local macro_rules | `(tactic| walk_at "mine k") => `(tactic| (
  (case k1 => k_asm); (case k2 => k_asm); (case k3 => k_asm); (case k4 => k_asm); (case k5 => k_asm); (case kK => first | exact rfl | assumption); (case kp => first | assumption | walk_at "mine pre"); (case kd => ktr_room); (case ku => ktr_units)))
local macro_rules | `(tactic| walk_at "call ref") => `(tactic| (k_here; (with_reducible show wpAny _ _ (call (Value.ref 21) _ _) _ _ _); (refine wpAny_with_toks (Nat.le_refl _) ?_); (have hCb := @int2ap; dsimp only [Spec, CbRet] at hCb); k_dflt (refine' hCb _ _ _ _ _ _ _ _ _ _ _ _ _ _ _ _ _ _ _ _ ?k1 ?k2 ?k3 ?k4 ?k5 ?kK ?kp ?kd ?ku ?kR); walk_at "mine k"; clear hCb; intro t9 h9 tk9 F9 N9; (try dsimp only); intro le9; (try dsimp only at le9); (try k_fold)))
local macro_rules | `(tactic| walk_at "eval ListComp") => `(tactic| (k_here; k_dflt (refine ListComp_T (F₀ := by k_asm) (by with_unfolding_all rfl) (by decide) (by rfl) (by decide) (by rfl) ?_)))
local macro_rules | `(tactic| walk_at "pyIter bytes") => `(tactic| (k_here; (with_reducible show wpAny _ _ (pyIter (Value.bytes _ _)) (CT _ _ _ _ _ _ _ _ _ _ _ _ _ _) _ _); k_dflt (refine' ct_bytes ?k1 ?k2 ?k3 ?_; (case k1 => exact rfl); (case k2 => k_asm); (case k3 => k_asm)); intro g' hg' hlt'))
local macro_rules | `(tactic| walk_at "mine enter") => `(tactic| (refine' code_def ?k1 ?k2 ?k3 ?k4 ?k5 ?kA ?kF ?kK ?k6 ?k7 ?k8 ?k9 ?kB ?_ ?c2 ?c3 ?c4 ?c5; (case kA => exact rfl); (case kF => exact rfl); (case kK => assumption); (case k1 => k_asm); (case k2 => k_asm); (case k3 => k_asm); (case k4 => k_asm); (case k5 => k_asm); (case k6 => k_is); (case k7 => k_is); (case k8 => ktr_room); (case k9 => first | exact BindsTo.of_eq rfl | exact binds_K (by k_in) rfl (by k_is) rfl rfl rfl); (case c5 => decide); (case kB => exact locs rfl); (case c2 => exact rfl); (case c3 => exact rfl); (case c4 => exact rfl); k_whole; intro g' L' h' FG' F' N' B' X' T'; (try dsimp only); (try k_lift B'); (try k_fold)))
local macro_rules | `(tactic| walk_at "mine sub") => `(tactic| (intro p hp; (repeat (first | assumption | refine List.mem_cons_of_mem _ ?_))))
local macro_rules | `(tactic| walk_at "mine young") => `(tactic| first | assumption | exact Nat.le_trans (by assumption) (Nat.le_add_right _ _))
local macro_rules | `(tactic| walk_at "call builtin:list.append") => `(tactic| (k_here; (with_reducible show wpAny _ _ (call (Value.builtin _) [Value.ref _, _]) _ _ _); k_dflt (refine' cend_append ?a1 ?a2 ?a3 ?a4 ?a5 ?a6 ?a7; (case a1 => k_asm); (case a2 => k_asm); (case a4 => assumption); (case a5 => assumption); (case a3 => walk_at "mine sub"); (case a6 => assumption); (case a7 => exact ⟨rfl, _, rfl, young_snoc (by with_reducible assumption) (KBw.ints_get (by with_reducible assumption)) (by walk_at "mine young")⟩))))
local macro_rules | `(tactic| walk_at "call builtin:str.join") => `(tactic| (k_here; (with_reducible show wpAny _ _ (call (Value.builtin "str.join") [Value.str _ _, Value.ref _]) _ _ _); k_dflt (refine' joinT ?a1 ?a2 ?a3 ?a4 ?_; (case a2 => with_reducible assumption); (case a1 => exact News.isList (by k_asm) (by k_mem)); (case a3 => walk_at "mine young"); (case a4 => with_reducible assumption)); intro t' k' le'))
theorem word {w : World} {mean : ExcName → Option Value} {mg mb : Str → Option Value} (news : List (Addr × Obj)) (n : Int) (tk : Tok) :
    Spec w mean mg mb 60 [.int n tk] news (0 ≤ n ∧ (digs n.toNat).length ≤ 4096) 2 16 (fun h₀ L m s Q => ∀ (t : Tok) (h' : Heap) (tk' : Nat), s.toks ≤ t → Fr h₀ L h' m → News h₀ L h' news → Q (.str (wd n.toNat) t) { s with heap := h', toks := tk' }) := by
  w_top off
  walk_at "mine open"
  rename_i hret
  rename Shared => s0
  refine wpAny_call ?_
  k_dflt walk_at "mine enter"
  refine toks_up (s := s0) ?_
  intro tk0 hle0
  k_steps
  rename _ + 1 ≤ _ => le9
  have hT : s0.toks ≤ _ := Nat.le_trans (Nat.le_trans hle0 (Nat.le_add_right _ _)) le9
  refine CTurns.mk (fun i oD nw => nw = news ∧ ∃ ys, oD = LCg.lst ys ∧ Young s0.toks ys (((KBw.bInts (ap n.toNat)).take i).map fun k => (⟨#[k.toNat]⟩ : Str))) ⟨rfl, [], rfl, .nil⟩ (fun _ _ _ _ => trivial) ?_ ?_
  · rintro i v oD nw m₂ I oI C oC D h tkT E' hi ⟨rfl, ys, rfl, hY⟩ ⟨c, u, hc, rfl⟩ hT2 hC hx F N off ne hD
    have hcl := c.toNat_lt
    have hT3 : s0.toks ≤ tkT := Nat.le_trans hT hT2
    have hlen : ys.length ≤ sizeLine := by
      rw [hY.length, List.length_map, List.length_take, sizeLine_eq]
      have := ap_size_le' (n := n.toNat) (x := n) (by assumption)
      omega
    show wpAny _ _ _ _ _ _
    k_steps
  · rintro D oD nw h tkT ⟨rfl, ys, rfl, hY⟩ hT2 hD0 hDL hDs hne F N
    have hT3 : s0.toks ≤ tkT := Nat.le_trans hT hT2
    rw [← KBw.ints_length, List.take_length] at hY
    have hok : ((((KBw.bInts (ap n.toNat)).map fun k => (⟨#[k.toNat]⟩ : Str))).map (·.length)).sum + (((KBw.bInts (ap n.toNat)).map fun k => (⟨#[k.toNat]⟩ : Str))).length * (Str.ofString "").length ≤ 16777216 := by
      rw [ones_sum, List.length_map, show (Str.ofString "").length = 0 from by decide +kernel]
      have := ap_size_le' (n := n.toNat) (x := n) (by assumption)
      rw [← KBw.ints_length] at this
      omega
    show wpAny _ _ _ _ _ _
    k_steps
    exact ret_strT hret (join_word _) (by assumption) (by assumption) (cb_drop (by assumption) (fun p hp => List.mem_cons_of_mem _ hp))
end Mine
end
section
open PySem PySem.W PyProof.Rows
set_option maxRecDepth 100000
set_option maxHeartbeats 8000000
namespace Mine
local macro_rules | `(tactic| walk_at "mine open") => `(tactic| (dsimp only [Spec]; k_fill; (try dsimp only [CbRet]); intros))
local macro_rules | `(tactic| walk_at "mine size") => `(tactic| exact figs_size (by assumption) (by assumption))
local macro_rules | `(tactic| walk_at "call builtin:list.append") => `(tactic| (k_here; (with_reducible show wpAny _ _ (call (Value.builtin _) [Value.ref _, _]) _ _ _); k_dflt (refine' append_head ?k1 ?k2 ?k3 ?_ ?k4; (case k1 => k_asm); (case k2 => k_asm); (case k3 => assumption); (case k4 => walk_at "mine size"); k_whole); intro h' F' N'))
local macro_rules | `(tactic| walk_at "mine maps") => `(tactic| (refine bnd_of ?_; (repeat (refine' bnd_cons ?x ?_; (case x => exact rfl))); refine bnd_nil ?_; intro y hy; simp only [List.mem_cons, List.not_mem_nil, or_false, not_or] at hy; simp [bnd, bndO, hy]))
local macro_rules | `(tactic| walk_at "mine mapsO") => `(tactic| (refine' bndO_on ?x ?_; (case x => exact rfl); (repeat (refine' bnd_cons ?x ?_; (case x => exact rfl))); refine bnd_nil ?_; intro y hy; simp only [List.mem_cons, List.not_mem_nil, or_false, not_or] at hy; simp [bnd, bndO, hy]))
local macro_rules | `(tactic| walk_at "mine sub") => `(tactic| (intro p hp; (repeat (first | assumption | refine List.mem_cons_of_mem _ ?_))))
local macro_rules | `(tactic| walk_at "subscriptTail") => `(tactic| (k_here; (with_reducible show wpAny _ _ (subscriptTail _ _ (Value.ref _) (Value.int _ _)) _ _ _); (rename PartsAt _ _ _ => pA); k_dflt (refine' parts_item pA ?k2 ?k3 ?k4 ?k5 ?_; (case k4 => with_reducible assumption); (case k2 => k_asm); (case k3 => walk_at "mine sub"); (case k5 => with_reducible assumption); intro _ _)))
local macro_rules | `(tactic| walk_at "subscriptTail") => `(tactic| (k_here; (with_reducible show wpAny _ _ (subscriptTail _ _ (Value.ref _) (Value.int 1 _)) _ _ _); (rename PartAt _ _ _ => pB); k_dflt (refine' part_one pB ?k2 ?k3 ?_; (case k2 => k_asm); (case k3 => walk_at "mine sub"); intro _)))
local macro_rules | `(tactic| walk_at "subscriptTail") => `(tactic| (k_here; (with_reducible show wpAny _ _ (subscriptTail _ _ (Value.ref _) (Value.int 0 _)) _ _ _); (rename PartAt _ _ _ => pB); k_dflt (refine' part_zero pB ?k2 ?k3 ?_; (case k2 => k_asm); (case k3 => walk_at "mine sub"); intro _)))
local macro_rules | `(tactic| mul_fits) => `(tactic| exact jat_mul (by assumption) (by assumption) (by assumption) (by assumption) (by assumption))
theorem joined {w : World} {mean : ExcName → Option Value} {mg mb : Str → Option Value} (news : List (Addr × Obj)) (pl : Addr) (ps : Nat → Nat × Nat) (n : Int) (tkN : Tok) :
    Spec w mean mg mb 67 [.ref pl, .int n tkN] news (PartsAt news pl ps ∧ Sized 64 ps ∧ 0 ≤ n ∧ (digs n.toNat).length ≤ 8) 1 8 (fun h₀ L m s Q =>
      ∀ (D : Addr) (o : Obj) (h' : Heap) (tk' : Nat), TupObj o (jn ps (digs n.toNat)) → (∀ p ∈ news, p.1 < D) → Fr h₀ L h' m → News h₀ L h' ((D, o) :: news) → Q (.ref D) { s with heap := h', toks := tk' }) := by
  w_top off
  walk_at "mine open"
  rename_i hpre _ _ hret
  obtain ⟨hP, hB, hn0, hn8⟩ := hpre
  refine wpAny_call ?_
  k_dflt cell_enter
  rename Fr _ _ _ _ => F0
  have F1 := fr_bnd [(Str.ofString "number", Value.int n _), (Str.ofString "parts", Value.ref pl)] F0
  clear F0
  repeat' ((fail_if_success (with_reducible show wpAny _ _ (exec (Stmt.While _ _ _ _) _) _ _ _)); first | (k_unfold; (try dsimp only)) | (k_end; wrow_close) | walk1 | (dsimp only; walk1) | (leave1; walk_say "STEP leave1"; try dsimp only) | fail "no step")
  rename_i l' _ l1 _ F' N'
  refine While_inv2 (n₀ := n.toNat) (fun k m nx => ∃ x t vs fs c, m = bnd [(Str.ofString "number", .int x t), (Str.ofString "figures", .ref l'), (Str.ofString "parts", .ref pl)] ∧ nx = (l', W.listOf vs.toArray c) :: news ∧ IntsAre vs fs ∧ Figs n.toNat x fs ∧ k = x.toNat) F' N' ?h0 ?turn
  case h0 =>
    refine' ⟨n, ?t1, [], [], 0, ?e1, rfl, .nil, figs_start hn0 hn8, rfl⟩
    case e1 => walk_at "mine maps"
  rintro k m nx h tk F1 N1 ⟨x, t, vs, fs, cc, rfl, rfl, hf, hp, rfl⟩
  clear F' N'
  have kMark := kstMark
  have hfl := figs_len hp
  have hvl := hf.length
  repeat' ((fail_if_success (with_reducible show wpAny _ _ (pyIter (Value.ref _)) _ _ _)); first | (k_unfold; (try dsimp only)) | (k_end; wrow_close) | walk1 | (dsimp only; walk1) | (leave1; walk_say "STEP leave1"; try dsimp only) | fail "no step")
  · rename Fr _ _ _ _ => fE
    rename News _ _ _ _ => nE
    rename x ≠ 0 => hx
    (try simp only [List.push_toArray] at nE)
    refine' ⟨_, _, _, _, (x.fdiv 16).toNat, rfl, fE, nE, ap_less hp.pos hx, x.fdiv 16, ?t2, _, _, _, ?e2, rfl, IntsAre.append hf (.cons _ _ .nil), figs_turn hx hp, rfl⟩
    case e2 => walk_at "mine maps"
  rename x = 0 => hx
  have hfe := figs_end hp hx
  rename IsRange _ _ _ _ _ _ _ _ => rgX
  rename Fr _ _ _ _ => lF'
  rename News _ _ _ _ => lN'
  with_unfolding_all refine' loop_range (n := fs.length) (fun i m nx => ∃ wh tw sz ts u, m = bndO (Str.ofString "k") u [(Str.ofString "whole", .int wh tw), (Str.ofString "size", .int sz ts), (Str.ofString "number", .int x t), (Str.ofString "figures", .ref l'), (Str.ofString "parts", .ref pl)] ∧ nx = (l', W.listOf vs.toArray cc) :: news ∧ JAt ps (digs n.toNat) i wh sz) rfl rgX (small_down (by omega) (by omega) (by omega) (by omega)) (by rw [rangeSize_downNat]; omega) lF' lN' ?lh0 ?lturn ?ldone
  case lh0 =>
    refine' ⟨0, ?tw3, 0, ?ts3, ?u3, ?e3, rfl, jat_start _ _⟩
    case e3 => walk_at "mine mapsO"
  case lturn =>
    clear lF' lN'
    rintro i v m nx h tk I oI hi ⟨t', rfl⟩ ⟨wh, tw, sz, ts, u, rfl, rfl, hJ⟩ off fK nK
    have hlen : fs.length = (digs n.toNat).length := by rw [hfe]; simp
    have hlt := digs_lt n.toNat
    have hi' : i < (digs n.toNat).length := by omega
    have hdig := fig_at hfe hi
    have hd16 : (digs n.toNat).getD i 0 < 16 := by
      rw [List.getD_eq_getElem?_getD, List.getElem?_eq_getElem hi']; exact hlt _ (List.getElem_mem hi')
    have hps := (hB.each _ hd16).1
    k_steps
    rename Fr _ _ _ _ => fE4
    rename News _ _ _ _ => nE4
    show TEnd _ _ _ _ _ _ _
    refine TEnd.intro ((l', W.listOf vs.toArray cc) :: news) fE4 nE4 (by walk_at "mine sub") off ?_
    refine' ⟨_, ?tw4, _, ?ts4, ?u4, ?e4, rfl, jat_turn hJ hi'⟩
    case e4 => walk_at "mine mapsO"
  case ldone =>
    clear lF' lN'
    rintro m nx h tk ⟨wh, tw, sz, ts, u, rfl, rfl, hJ⟩ fK nK
    k_steps
    rename News _ _ _ _ => nE5
    rename Fr _ _ _ _ => fE5
    rename _ < _ ∧ AllLt _ _ => hlt
    exact hret _ _ _ _ (jat_tup hJ (by rw [hfe]; simp)) (kst_ltOf hlt.2) fE5 (drop_mid nE5)
end Mine
end
section
open PySem PySem.W PyProof.Rows PySem.Calls
set_option maxRecDepth 100000
namespace Mine
/-- an entry of texts: its hash, its two tokens told apart -/
inductive Ent (w : World) (e : DictEntry) (k v : Str) : Prop where
  | mk (u t : Tok) (hk : e.key = .str k u) (hv : e.val = .str v t) (hh : e.hash = hashStr w k) (hu : u ≠ 0) (ht : t ≠ 0) (hn : k = v ∨ u ≠ t)
inductive Ents (w : World) : List DictEntry → List (Str × Str) → Prop where
  | nil : Ents w [] []
  | cons {e : DictEntry} {k v : Str} {es : List DictEntry} {kvs : List (Str × Str)} (he : Ent w e k v) (r : Ents w es kvs) : Ents w (e :: es) ((k, v) :: kvs)
inductive TabObj (w : World) (o : Obj) (kvs : List (Str × Str)) : Prop where
  | mk (es : List DictEntry) (n : Nat) (ho : o = dictOf es n) (he : Ents w es kvs) (hn : (kvs.map (·.1)).Nodup)
theorem Ents.length {w : World} {es : List DictEntry} {kvs : List (Str × Str)} (h : Ents w es kvs) : es.length = kvs.length := by
  induction h with
  | nil => rfl
  | cons _ _ ih => simp [ih]
theorem Ents.get {w : World} {es : List DictEntry} {kvs : List (Str × Str)} (h : Ents w es kvs) : ∀ {i : Nat} {e : DictEntry}, es[i]? = some e → ∃ k v, kvs[i]? = some (k, v) ∧ Ent w e k v := by
  induction h with
  | nil => intro i e he; simp at he
  | cons he _ ih =>
    intro i e hx
    cases i with
    | zero => simp at hx; subst hx; exact ⟨_, _, rfl, he⟩
    | succ j => simpa using ih (by simpa using hx)
theorem Ents.append {w : World} {es es' : List DictEntry} {kvs kvs' : List (Str × Str)} (h : Ents w es kvs) (h' : Ents w es' kvs') : Ents w (es ++ es') (kvs ++ kvs') := by
  induction h with
  | nil => exact h'
  | cons he _ ih => exact .cons he ih

section
variable {prog : Program} {w : World} {A : Around} {E : Value → Shared → Prop} {s : Shared}
theorem Ents.pairs {es : List DictEntry} {kvs : List (Str × Str)} (h : Ents w es kvs) : ∃ vs : List (Str × Value), Pairs (strKind prog w) es vs ∧ vs.map (·.1) = kvs.map (·.1) ∧ KeysOf (strKind prog w) es.toArray := by
  induction h with
  | nil => exact ⟨[], .nil, rfl, fun e he => by simp at he⟩
  | @cons e k v es kvs he _ ih =>
    obtain ⟨vs, h1, h2, h3⟩ := ih
    obtain ⟨u, t, hk, hv, hh, _⟩ := he
    refine ⟨(k, e.val) :: vs, .cons ?_ rfl h1, by simp [h2], ?_⟩
    · show Value.isStrOf k e.key = true
      rw [hk]; simp [Value.isStrOf]
    · intro e' he'
      have he'' : e' = e ∨ e' ∈ es := by simpa using he'
      rcases he'' with rfl | hm
      · exact ⟨k, by show Value.isStrOf k e'.key = true; rw [hk]; simp [Value.isStrOf], hh⟩
      · exact h3 e' (by simpa using hm)
theorem dictAt_of {h : Heap} {d : Addr} {es : List DictEntry} {n : Nat} {kvs : List (Str × Str)} (ho : h.get? d = some (dictOf es n)) (he : Ents w es kvs) (hn : (kvs.map (·.1)).Nodup) :
    ∃ vs : List (Str × Value), h.DictAt (strKind prog w) d vs n ∧ vs.length = es.length := by
  obtain ⟨vs, h1, h2, h3⟩ := he.pairs (prog := prog)
  refine ⟨vs, ⟨dictOf es n, es.toArray, ho, ⟨rfl, rfl, rfl⟩, rfl, h3, by simpa using h1, by rw [h2]; exact hn⟩, ?_⟩
  exact h1.length.symm
/-- the next pair of d.items(), its key's own object told -/
theorem next_entry {it d : Addr} {i ep : Nat} {es : List DictEntry} {e : DictEntry} {ok ov : Value} {Q : Option Value → Shared → Prop} (hit : IsItemIter s.heap it d i es.length ep ok ov)
    (hod : s.heap.get? d = some (dictOf es ep)) (hx : es[i]? = some e)
    (hQ : ∀ h', IsItemIterOut h' it d (i + 1) es.length ep e.key e.val s.heap.objs.size →
      h'.get? s.heap.objs.size = some { cls := .type "tuple", data := .seq #[e.key, e.val] } → h'.objs.size = s.heap.objs.size + 1 →
      (∀ b o, b ≠ it → s.heap.get? b = some o → h'.get? b = some o) → Q (some (.ref s.heap.objs.size)) { s with heap := h' }) :
    wpAny (model prog w) A (pyNext (.ref it)) Q E s := by
  obtain ⟨hp, g, dr, tk, os⟩ := s
  dsimp only at hit hod hQ
  have hT : Shared.TypeIs ⟨hp, g, dr, tk, os⟩ (.ref it) "dict_itemiterator" := ⟨_, hit, rfl⟩
  have hdd : (dictOf es ep).data = .dict es.toArray ep := rfl
  unfold pyNext
  refine wpAny_bind (wpAny_attempt (wpAny_callSpecial?_slot (name := Str.ofString "__next__") hT F.slot_dict_itemiterator_next
    (wpAny_call_entry F.slot_dict_itemiterator_next hT F.entry_dict_itemiterator_next ?_ (F.args_dict_itemiterator_next_1 _))))
  refine wpAny_bind (wpAny_pure (wpAny_bind (wpAny_bind ?_)))
  first | refine wpAny_bind (wpAny_typeNameOfWhole_itemiter hT (wpAny_pure ?_)) | refine wpAny_bind (wpAny_typeNameOf_itemiter hT (wpAny_pure ?_))
  refine wpAny_bind (wpAny_fieldsOf hit rfl ?_)
  have hown : Builtin.Dict_items.ownsTuple "dict_itemiterator" = true := by decide
  simp only [hown, if_true]
  show wpAny _ _ (if (Value.ref d == Value.none) = true then _ else _) _ _ _
  rw [if_neg (show ¬ ((Value.ref d == Value.none) = true) from Bool.false_ne_true)]
  refine wpAny_bind (wpAny_pure (wpAny_bind (wpAny_dictEntries hod hdd ?_)))
  rw [if_neg (by simp)]
  refine wpAny_bind (wpAny_pure (wpAny_bind (wpAny_dictEpoch hod hdd ?_)))
  rw [if_neg (by simp)]
  refine wpAny_pure ?_
  have hx' : es.toArray[i]? = some e := by simpa using hx
  simp only [show ¬ ((i : Int) < 0) from by omega, if_false, Int.toNat_natCast, hx']
  refine wpAny_bind ?_
  first | refine wpAny_bind (wpAny_typeNameOfWhole_itemiter hT (wpAny_pure ?_)) | refine wpAny_bind (wpAny_typeNameOf_itemiter hT (wpAny_pure ?_))
  refine wpAny_bind (wpAny_isOneOf_itemiter hT ?_)
  show wpAny _ _ (setField (.ref it) 3 (rawInt ((i : Int) + 1)) >>= _) _ _ ⟨hp, g, dr, tk, os⟩
  refine wpAny_bind (wpAny_setField_rec hit (by simp) fun a1 b1 c1 => ?_)
  replace c1 : Heap.SameBut it hp a1 := c1
  replace b1 : IsItemIter a1 it d (i + 1) es.length ep ok ov := by
    have e1 : ((i + 1 : Nat) : Int) = (i : Int) + 1 := by omega
    unfold IsItemIter; rw [e1]; simpa [rawInt] using b1
  have hT1 : Shared.TypeIs ⟨a1, g, dr, tk, os⟩ (.ref it) "dict_itemiterator" := ⟨_, b1, rfl⟩
  refine wpAny_bind (wpAny_holding (wpAny_bind (wpAny_isOneOf_itemiter hT1 (wpAny_bind (wpAny_isOneOf_itemiter hT1 ?_)))))
  show wpAny _ _ (Builtin.Dict_items.pairFromOwner (.ref it) 6 e.key e.val) _ _ ⟨a1, g, dr, tk, os⟩
  unfold Builtin.Dict_items.pairFromOwner
  refine wpAny_bind (wpAny_newTuple ?_)
  have z1 : a1.objs.size = hp.objs.size := c1.1
  have hil : it < hp.objs.size := Heap.lt_size hit
  have b2 : IsItemIter (a1.push { cls := .type "tuple", data := .seq #[e.key, e.val] }) it d (i + 1) es.length ep ok ov := Heap.get?_push_of_some _ b1
  have t2 : (a1.push { cls := .type "tuple", data := .seq #[e.key, e.val] }).get? hp.objs.size = some { cls := .type "tuple", data := .seq #[e.key, e.val] } := by rw [← z1]; exact Heap.get?_push_size _ rfl
  have z2 : (a1.push { cls := .type "tuple", data := .seq #[e.key, e.val] }).objs.size = hp.objs.size + 1 := by rw [Heap.size_push, z1]
  have k2 : ∀ b o, b ≠ it → hp.get? b = some o → (a1.push { cls := .type "tuple", data := .seq #[e.key, e.val] }).get? b = some o := fun b o hb x => Heap.get?_push_of_some _ (c1.extBut b o hb x)
  generalize a1.push { cls := .type "tuple", data := .seq #[e.key, e.val] } = a2 at b2 t2 z2 k2
  show wpAny _ _ (Builtin.Dict_items.ownedTupleIsFree (.ref it) >>= _) _ _ ⟨a2, g, dr, tk, os⟩
  rw [z1]
  refine wpAny_bind ?_
  unfold Builtin.Dict_items.ownedTupleIsFree
  refine wpAny_bind (wpAny_field b2 rfl (x := .none) rfl (wpAny_pure ?_))
  simp only [if_true]
  refine wpAny_bind (wpAny_field b2 rfl (x := ok) rfl (wpAny_bind (wpAny_field b2 rfl (x := ov) rfl ?_)))
  refine wpAny_bind (wpAny_setField_rec b2 (by simp) fun a3 b3 c3 => ?_)
  replace c3 : Heap.SameBut it a2 a3 := c3
  replace b3 : IsItemIter a3 it d (i + 1) es.length ep e.key ov := b3
  refine wpAny_bind (wpAny_setField_rec b3 (by simp) fun a4 b4 c4 => ?_)
  replace c4 : Heap.SameBut it a3 a4 := c4
  replace b4 : IsItemIter a4 it d (i + 1) es.length ep e.key e.val := b4
  refine wpAny_bind (wpAny_setField_rec b4 (by simp) fun a5 b5 c5 => ?_)
  replace c5 : Heap.SameBut it a4 a5 := c5
  replace b5 : IsItemIterOut a5 it d (i + 1) es.length ep e.key e.val hp.objs.size := b5
  refine wpAny_bind (wpAny_setField_rec b5 (by simp) fun a6 b6 c6 => ?_)
  replace c6 : Heap.SameBut it a5 a6 := c6
  replace b6 : IsItemIterOut a6 it d (i + 1) es.length ep e.key e.val hp.objs.size := b6
  have up : ∀ b o, b ≠ it → a2.get? b = some o → a6.get? b = some o := fun b o hb x => c6.extBut b o hb (c5.extBut b o hb (c4.extBut b o hb (c3.extBut b o hb x)))
  refine wpAny_bind (wpAny_letGo (wpAny_pure (wpAny_pure ⟨_, rfl, wpAny_pure (hQ a6 b6 (up _ _ (Nat.ne_of_gt hil) t2) ?_ fun b o hb x => up b o hb (k2 b o hb x))⟩)))
  show a6.objs.size = hp.objs.size + 1
  rw [c6.1, c5.1, c4.1, c3.1, z2]
theorem entry_turns {elts : List Expr} {kk : Nat} {pos : Pos} {kvs : List (Str × Str)} (hh : A.handled = none) (I d : Addr) (hne : d ≠ I) (es : List DictEntry) (ep : Nat) (he : Ents w es kvs) (hn : (kvs.map (·.1)).Nodup) :
    KTurns prog w A (.Tuple elts kk pos) I [I, d] [I] es.length
      (fun i v h => ∃ T e, v = .ref T ∧ es[i]? = some e ∧ IsTup h T #[e.key, e.val])
      (fun i v h => ∃ T e ok ov, v = .ref T ∧ es[i]? = some e ∧ IsTup h T #[e.key, e.val] ∧ IsItemIterOut h I d (i + 1) es.length ep ok ov T ∧ h.get? d = some (dictOf es ep) ∧ T ≠ I)
      (fun i h => (∃ ok ov, IsItemIter h I d i es.length ep ok ov) ∧ h.get? d = some (dictOf es ep)) where
  sub := fun b hb => by simp at hb; simp [hb]
  frame := fun i h h' st hk => by
    obtain ⟨⟨ok, ov, hi⟩, hm⟩ := st
    exact ⟨⟨ok, ov, hk I (by simp) _ hi⟩, hk d (by simp) _ hm⟩
  item := fun i s Q E hi st hQ => by
    obtain ⟨⟨ok, ov, hit⟩, hm⟩ := st
    refine next_entry hit hm (List.getElem?_eq_getElem hi) fun h' ho hT hsz hk => ?_
    exact hQ (.ref s.heap.objs.size) h' s.toks ⟨s.heap.objs.size, es[i], _, _, rfl, List.getElem?_eq_getElem hi, ⟨_, hT, rfl, _, rfl⟩, ho, hk d _ hne hm, Nat.ne_of_gt (Heap.lt_size hit)⟩ fun b o hb x => hk b o (fun q => hb (by simp [q])) x
  go := fun i v s Q E hm hQ => by
    obtain ⟨T, e, ok, ov, rfl, hx, hT, ho, hd, hTI⟩ := hm
    refine wpAny_letOwnedTupleGo_items ho fun h' hit hs => ?_
    exact hQ h' ⟨T, e, rfl, hx, hT.extBut hs.extBut hTI⟩ ⟨⟨ok, ov, hit⟩, hs.extBut d _ hne hd⟩ fun b o hb x => hs.extBut b o (fun q => hb (by simp [q])) x
  done := fun s Q E st hQ => by
    obtain ⟨⟨ok, ov, hit⟩, hm⟩ := st
    obtain ⟨vs, hat, hl⟩ := dictAt_of (prog := prog) hm he hn
    rw [← hl] at hit
    exact wpAny_pyNext_items_end (knd := strKind prog w) hh hit hat (by simp) fun h' hx => hQ h' s.toks fun b o hb x => hx b o (fun q => hb (by simp [q])) x
/-- for k, v in d.items(): by what holds of the frame; the ledger stands -/
theorem iter_items {env : Env} {h₀ : Heap} {body : List Stmt} {Q : Flow → Shared → Prop} {elts : List Expr} {kk : Nat} {pos : Pos} {kvs : List (Str × Str)} {d vw : Addr} {es : List DictEntry} {ep : Nat} {m₀ : Str → Option Value} {nx : List (Addr × Obj)} (J : Nat → (Str → Option Value) → Prop)
    (hh : A.handled = none) (F : Fr h₀ env.locals s.heap m₀) (N : News h₀ env.locals s.heap nx) (hvw : s.heap.IsItemsView vw d) (hm : (d, dictOf es ep) ∈ nx) (he : Ents w es kvs) (hn : (kvs.map (·.1)).Nodup) (h0 : J 0 m₀)
    (turn : ∀ i e T m h tk I oI, es[i]? = some e → IsTup h T #[e.key, e.val] → J i m → (∀ p ∈ nx, p.1 ≠ I) → Fr h₀ env.locals h m → News h₀ env.locals h ((I, oI) :: nx) →
      wpAny (model prog w) A (assign (.Tuple elts kk pos) env (.ref T)) (fun _ s₂ => wpAny (model prog w) A (execs body env) (TPost h₀ env.locals I oI (fun m' nx' => nx' = nx ∧ J (i + 1) m') { s with heap := h, toks := tk } Q) E s₂) E { s with heap := h, toks := tk })
    (done : ∀ m h tk, J es.length m → Fr h₀ env.locals h m → News h₀ env.locals h nx → Q .next { s with heap := h, toks := tk }) :
    wpAny (model prog w) A (pyIter (.ref vw)) (fun it s₂ => TurnsAt prog w A h₀ env (.Tuple elts kk pos) body Q E it s₂) E s := by
  have zd := N _ hm
  obtain ⟨vs, hat, hl⟩ := dictAt_of (prog := prog) zd.1 he hn
  have hne : d ≠ s.heap.objs.size := Nat.ne_of_lt hat.lt_size
  refine wpAny_pyIter_items hvw hat ?_
  have up : ∀ b o, s.heap.get? b = some o → (s.heap.push { cls := .type "dict_itemiterator", data := .fields #[.none, .bool false, .ref d, .int 0 0, .int vs.length 0, .int ep 0, .none, .none] }).get? b = some o := fun b o e => Heap.get?_push_of_some _ e
  refine ⟨s.heap.objs.size, [s.heap.objs.size, d], [s.heap.objs.size], es.length, _, _, _, m₀, nx, fun i m nx' => nx' = nx ∧ J i m, rfl, entry_turns hh s.heap.objs.size d hne es ep he hn, ?_, ?_, ?_, ⟨⟨.none, .none, by rw [← hl]; exact Heap.get?_push_size _ rfl⟩, up _ _ zd.1⟩, F.keeps up, N.grown up, ⟨rfl, h0⟩, ?_, ?_⟩
  · intro hI
    rcases List.mem_cons.mp hI with e | e
    · exact absurd F.ns.lt (e ▸ Nat.lt_irrefl _)
    · exact zd.2.1 (List.mem_singleton.mp e).symm
  · intro b hb; rw [List.mem_singleton.mp hb]; exact next_is_new F
  · intro p hp hI; exact absurd (Heap.lt_size (N p hp).1) ((List.mem_singleton.mp hI) ▸ Nat.lt_irrefl _)
  · rintro i v m₁ nx₁ h tk own hi ⟨T, e, rfl, hx, hT⟩ ⟨rfl, hJ⟩ hoff hown hget hmem ⟨⟨ok, ov, hit⟩, _⟩ F₁ N₁
    have hI₀ : h₀.get? s.heap.objs.size = none := next_is_new F
    obtain ⟨oI, hit⟩ : ∃ oI, h.get? s.heap.objs.size = some oI := ⟨_, hit⟩
    have hIm : (s.heap.objs.size, oI) ∈ own := hmem s.heap.objs.size List.mem_cons_self hI₀ oI hit
    refine wpAny_mono (turn i e T m₁ h tk s.heap.objs.size oI hx hT hJ (fun p hp q => hoff p hp (List.mem_singleton.mpr q)) F₁ (fun p hp => by
      rcases List.mem_cons.mp hp with rfl | hp
      · exact N₁ _ (List.mem_append_left _ hIm)
      · exact N₁ _ (List.mem_append_right _ hp))) (fun _ s₂ hs₂ => wpAny_mono hs₂ (fun f s₃ p => ?_) fun _ _ e => e) fun _ _ e => e
    have fin : TEnd h₀ env.locals s.heap.objs.size oI (fun m' nx' => nx' = nx₁ ∧ J (i + 1) m') { s with heap := h, toks := tk } s₃ → LoopStepU h₀ env.locals [s.heap.objs.size] own (fun m' nx' => nx' = nx₁ ∧ J (i + 1) m') { s with heap := h, toks := tk } .next s₃ := by
      rintro ⟨h', tk', m', nx', e', F', N', off', rfl, hj⟩
      refine ⟨rfl, h', tk', m', nx', e', F', fun p hp => ?_, fun p hp hq => off' p hp (List.mem_singleton.mp hq), rfl, hj⟩
      rcases List.mem_append.mp hp with hp | hp
      · have e3 : h.get? p.1 = some p.2 := hget p hp
        have z1 := N₁ p (List.mem_append_left _ hp)
        refine ⟨?_, z1.2⟩
        rcases List.mem_cons.mp (hown p hp) with e2 | e2
        · have z := (N' _ List.mem_cons_self).1
          rw [e2, hit] at e3
          rw [e2, z]; exact e3
        · have e2' := List.mem_singleton.mp e2
          have z := (N' _ (List.mem_cons_of_mem _ hm)).1
          have z0 := (N₁ _ (List.mem_append_right _ hm)).1
          have z0' : h.get? p.1 = some (dictOf es ep) := by rw [e2']; exact z0
          have z' : h'.get? p.1 = some (dictOf es ep) := by rw [e2']; exact z
          rw [z', ← z0']; exact e3
      · exact N' p (List.mem_cons_of_mem _ hp)
    cases f with
    | ret v => exact .ret p
    | brk => exact .brk p
    | next => exact .next (fin p)
    | cont => exact .cont (fin p)
  · rintro h' tk m' nx' F' N' _ ⟨rfl, hJ⟩
    exact done m' h' tk hJ F' N'
theorem For_items {env : Env} {h₀ : Heap} {body : List Stmt} {Q : Flow → Shared → Prop} {elts : List Expr} {kk : Nat} {pos apos cpos fpos : Pos} {o : Expr} {kvs : List (Str × Str)} {d : Addr} {es : List DictEntry} {ep : Nat} {m₀ : Str → Option Value} {nx : List (Addr × Obj)} (J : Nat → (Str → Option Value) → Prop)
    (hh : A.handled = none) (F : Fr h₀ env.locals s.heap m₀) (N : News h₀ env.locals s.heap nx) (lo : (d == sysModules) = false) (hm : (d, dictOf es ep) ∈ nx) (he : Ents w es kvs) (hn : (kvs.map (·.1)).Nodup) (h0 : J 0 m₀)
    (ho : ∀ Q', Q' (.ref d) s → wpAny (model prog w) A (eval o env) Q' E s)
    (turn : ∀ i e T m h tk I oI, es[i]? = some e → IsTup h T #[e.key, e.val] → J i m → (∀ p ∈ nx, p.1 ≠ I) → Fr h₀ env.locals h m → News h₀ env.locals h ((I, oI) :: nx) →
      wpAny (model prog w) A (assign (.Tuple elts kk pos) env (.ref T)) (fun _ s₂ => wpAny (model prog w) A (execs body env) (TPost h₀ env.locals I oI (fun m' nx' => nx' = nx ∧ J (i + 1) m') { s with heap := h, toks := tk } Q) E s₂) E { s with heap := h, toks := tk })
    (done : ∀ m h tk, J es.length m → Fr h₀ env.locals h m → News h₀ env.locals h nx → Q .next { s with heap := h, toks := tk })
    (hbase : attributeBase o "items" env (eval o env) = eval o env) (hline : (apos.endLine == cpos.line) = true)
    (hs : ∀ x, foldedSetIterable (.Call (.Attribute o "items" apos) [] [] cpos) env x = pure x)
    (hE : PassesOwn (model prog w) A env E) :
    wpAny (model prog w) A (exec (.For (.Tuple elts kk pos) (.Call (.Attribute o "items" apos) [] [] cpos) body [] fpos) env) Q E s := by
  have zd := N _ hm
  obtain ⟨vs, hat, _⟩ := dictAt_of (prog := prog) zd.1 he hn
  refine For_turns F ?_ hs hE
  refine wpAny_Call_items lo hat.dictOf hbase hline ho ?_
  have up : ∀ b o, s.heap.get? b = some o → (s.heap.push { cls := .type "dict_items", data := .fields #[.ref d] }).get? b = some o := fun b o e => Heap.get?_push_of_some _ e
  refine iter_items (s := { s with heap := s.heap.push { cls := .type "dict_items", data := .fields #[.ref d] } }) J hh (F.keeps up) (N.grown up) ⟨_, Heap.get?_push_size _ rfl, rfl, rfl⟩ hm he hn h0 turn done
theorem truthy_tab {d : Addr} {es : List DictEntry} {n : Nat} {kvs : List (Str × Str)} {nx : List (Addr × Obj)} {h₀ : Heap} {L : Addr} {Q : Bool → Shared → Prop} (N : News h₀ L s.heap nx) (lo : (d == sysModules) = false) (hm : (d, dictOf es n) ∈ nx) (he : Ents w es kvs) (hn : (kvs.map (·.1)).Nodup) (hne : kvs ≠ []) (hl : kvs.length ≤ 100)
    (h : Q true { s with toks := s.toks + 1 + 1 }) : wpAny (model prog w) A (truthy (.ref d)) Q E s := by
  obtain ⟨vs, hat, hvl⟩ := dictAt_of (prog := prog) (N _ hm).1 he hn
  have hvl' : vs.length = kvs.length := hvl.trans he.length
  have hpos : kvs.length ≠ 0 := fun e => hne (List.length_eq_zero_iff.mp e)
  refine wpAny_truthy_dict lo hat.dictOf (by omega) ?_
  have e : (!vs.isEmpty) = true := by
    cases vs with
    | nil => simp at hvl'; exact absurd hvl'.symm hpos
    | cons _ _ => rfl
  rw [e]; exact h
end
end Mine
end
section
open PySem PySem.W PyProof.Rows
namespace Mine
/-- a text of figures, as letters from A on -/
def tx (l : List Nat) : Str := ⟨(l.map fun d => 65 + d).toArray⟩
theorem tx_list (l : List Nat) : (tx l).cps.toList = l.map fun d => 65 + d := by simp [tx]
theorem tx_length (l : List Nat) : (tx l).length = l.length := by show (tx l).cps.size = _; simp [tx]
theorem wd_tx (n : Nat) : wd n = tx (digs n) := rfl
theorem tx_inj {a b : List Nat} (h : tx a = tx b) : a = b := by
  have := congrArg (fun s : Str => s.cps.toList) h
  simp only [tx_list] at this
  exact (List.map_inj_right (fun x y e => by omega)).mp this
def sub1 (c : Nat) (z : List Nat) (l : List Nat) : List Nat := l.flatMap fun d => if d = c then z else [d]
theorem sub1_append (c : Nat) (z a b : List Nat) : sub1 c z (a ++ b) = sub1 c z a ++ sub1 c z b := by simp [sub1]
theorem sub1_free (c : Nat) (z : List Nat) : ∀ l : List Nat, c ∉ l → sub1 c z l = l
  | [], _ => rfl
  | k :: r, h => by
    have h1 : ¬ k = c := fun e => h (e ▸ List.mem_cons_self ..)
    have h2 : c ∉ r := fun m => h (List.mem_cons_of_mem _ m)
    have ih := sub1_free c z r h2
    simp only [sub1] at ih
    simp [sub1, h1, ih]
theorem sub1_join (c : Nat) (z : Str) : ∀ parts : List Str, (∀ p ∈ parts, c ∉ p.cps.toList) → sub1 c z.cps.toList (Str.join ⟨#[c]⟩ parts).cps.toList = (Str.join z parts).cps.toList
  | [], _ => rfl
  | [p], h => sub1_free c _ _ (h p (List.mem_singleton.mpr rfl))
  | p :: q :: r, h => by
    have ih := sub1_join c z (q :: r) fun a ha => h a (List.mem_cons_of_mem _ ha)
    show sub1 c z.cps.toList (p ++ ⟨#[c]⟩ ++ Str.join ⟨#[c]⟩ (q :: r)).cps.toList = (p ++ z ++ Str.join z (q :: r)).cps.toList
    simp only [Str.cps_append, Array.toList_append]
    rw [sub1_append, sub1_append, ih, sub1_free c _ _ (h p (List.mem_cons_self ..))]
    simp [sub1]
theorem replace_flat (x z : Str) (c : Nat) : (Txt.replace x ⟨#[c]⟩ z).cps.toList = sub1 c z.cps.toList x.cps.toList := by
  rw [StrLaws.replace_one, ← sub1_join c z _ (StrLaws.split_free x c), StrLaws.join_split]
open Builtin Builtin.Str in
theorem occ_absent (x y : Str) (c : Nat) (r : List Nat) (hy : y.cps.toList = c :: r) (hx : c ∉ x.cps.toList) (limit : Nat) : occurrences x y 0 x.length limit = [] := by
  obtain ⟨f, h⟩ := StrLaws.occ_chain x y limit
  cases ho : occurrences x y 0 x.length limit with
  | nil => rfl
  | cons i q =>
    rw [ho] at h
    exfalso
    have hm : subAt x y i = true := h.2.1.2
    rw [StrLaws.subAt_eq, hy] at hm
    have e := eq_of_beq hm
    have : c ∈ (x.cps.toList.drop i).take y.length := by rw [e]; exact List.mem_cons_self
    exact hx (List.mem_of_mem_drop (List.mem_of_mem_take this))
theorem replace_absent (x y z : Str) (c : Nat) (r : List Nat) (hy : y.cps.toList = c :: r) (hx : c ∉ x.cps.toList) : Txt.replace x y z = x := by
  unfold Txt.replace
  rw [occ_absent x y c r hy hx]; rfl
/-- one figure's word put for the figure -/
def rep1 (k : Nat) (v : List Nat) (l : List Nat) : List Nat := l.flatMap fun d => if d = k then v else [d]
def phi (kvs : List (Nat × List Nat)) (l : List Nat) : List Nat := kvs.foldl (fun l p => rep1 p.1 p.2 l) l
def txs (kvs : List (Nat × List Nat)) : List (Str × Str) := kvs.map fun p => (tx [p.1], tx p.2)
theorem replace_tx (k : Nat) (v l : List Nat) : Txt.replace (tx l) (tx [k]) (tx v) = tx (rep1 k v l) := by
  apply str_ext
  have e : tx [k] = ⟨#[65 + k]⟩ := rfl
  rw [e, replace_flat, tx_list, tx_list, tx_list]
  induction l with
  | nil => rfl
  | cons d r ih =>
    simp only [sub1, rep1] at ih ⊢
    rw [List.map_cons, List.flatMap_cons, List.flatMap_cons, List.map_append, ih]
    congr 1
    by_cases h : d = k
    · subst h; simp
    · have : ¬ 65 + d = 65 + k := by omega
      simp [h]
theorem tx_absent {l : List Nat} {c : Nat} (h : c < 65) : c ∉ (tx l).cps.toList := by
  rw [tx_list]
  intro hm
  obtain ⟨d, _, e⟩ := List.mem_map.mp hm
  omega
theorem rep1_length (k : Nat) {v : List Nat} (hv : v.length ≤ 2) : ∀ l : List Nat, (rep1 k v l).length ≤ 2 * l.length
  | [] => by simp [rep1]
  | d :: r => by
    have ih := rep1_length k hv r
    simp only [rep1] at ih ⊢
    rw [List.flatMap_cons, List.length_append, List.length_cons]
    by_cases h : d = k
    · rw [if_pos h]; omega
    · rw [if_neg h, List.length_singleton]; omega
theorem rep1_lt {k : Nat} {v l : List Nat} (hv : ∀ d ∈ v, d < 16) (hl : ∀ d ∈ l, d < 16) : ∀ d ∈ rep1 k v l, d < 16 := by
  intro d hd
  simp only [rep1, List.mem_flatMap] at hd
  obtain ⟨a, ha, hd⟩ := hd
  split at hd
  · exact hv d hd
  · rw [List.mem_singleton.mp hd]; exact hl a ha
/-- what a table's words are: figures' words of two letters at most -/
structure Words (kvs : List (Nat × List Nat)) : Prop where
  two : ∀ p ∈ kvs, p.2.length ≤ 2
  low : ∀ p ∈ kvs, ∀ d ∈ p.2, d < 16
  keys : (kvs.map (·.1)).Nodup
  some : kvs ≠ []
  few : kvs.length ≤ 3
theorem phi_lt {kvs : List (Nat × List Nat)} (h : ∀ p ∈ kvs, ∀ d ∈ p.2, d < 16) : ∀ {l : List Nat}, (∀ d ∈ l, d < 16) → ∀ d ∈ phi kvs l, d < 16 := by
  induction kvs with
  | nil => exact fun hl => hl
  | cons p r ih => exact fun hl => ih (fun q hq => h q (List.mem_cons_of_mem _ hq)) (rep1_lt (h p List.mem_cons_self) hl)
theorem phi_length {kvs : List (Nat × List Nat)} (h : ∀ p ∈ kvs, p.2.length ≤ 2) : ∀ {l : List Nat}, (phi kvs l).length ≤ 2 ^ kvs.length * l.length := by
  induction kvs with
  | nil => intro l; simp [phi]
  | cons p r ih =>
    intro l
    have h1 := ih (fun q hq => h q (List.mem_cons_of_mem _ hq)) (l := rep1 p.1 p.2 l)
    have h2 := rep1_length p.1 (h p List.mem_cons_self) l
    have h3 : 2 ^ r.length * (rep1 p.1 p.2 l).length ≤ 2 ^ r.length * (2 * l.length) := Nat.mul_le_mul_left _ h2
    show (phi r (rep1 p.1 p.2 l)).length ≤ _
    rw [List.length_cons, Nat.pow_succ, Nat.mul_assoc]
    omega
theorem pow_few {n : Nat} (h : n ≤ 3) : 2 ^ n ≤ 8 := by
  have : n = 0 ∨ n = 1 ∨ n = 2 ∨ n = 3 := by omega
  rcases this with h | h | h | h <;> subst h <;> decide
theorem phi_len8 {kvs : List (Nat × List Nat)} (h : Words kvs) (l : List Nat) : (phi kvs l).length ≤ 8 * l.length :=
  Nat.le_trans (phi_length h.two) (Nat.mul_le_mul_right _ (pow_few h.few))
/-- texts put for texts, one after the other, each within the model's room -/
inductive Reps : Str → List (Str × Str) → Str → Prop where
  | nil (x : Str) : Reps x [] x
  | cons {x k v : Str} {kvs : List (Str × Str)} {y : Str} (hb : x.length + (x.length + 1) * v.length ≤ 16777216) (r : Reps (Txt.replace x k v) kvs y) : Reps x ((k, v) :: kvs) y
theorem Reps.append {x y z : Str} {a b : List (Str × Str)} (h : Reps x a y) (h' : Reps y b z) : Reps x (a ++ b) z := by
  induction h with
  | nil _ => exact h'
  | cons hb _ ih => exact .cons hb (ih h')
theorem reps_txs : ∀ (kvs : List (Nat × List Nat)) (l : List Nat), (∀ p ∈ kvs, p.2.length ≤ 2) → 2 ^ kvs.length * l.length ≤ 1000000 → Reps (tx l) (txs kvs) (tx (phi kvs l))
  | [], l, _, _ => .nil _
  | (k, v) :: r, l, h, hl => by
    have hv : v.length ≤ 2 := h (k, v) List.mem_cons_self
    have h2 := rep1_length k hv l
    have hp : 1 ≤ 2 ^ r.length := Nat.one_le_two_pow
    rw [List.length_cons, Nat.pow_succ, Nat.mul_assoc] at hl
    have h3 : 2 ^ r.length * (rep1 k v l).length ≤ 2 ^ r.length * (2 * l.length) := Nat.mul_le_mul_left _ h2
    have h4 : 1 * (2 * l.length) ≤ 2 ^ r.length * (2 * l.length) := Nat.mul_le_mul_right _ hp
    refine .cons ?_ ?_
    · show (tx l).length + ((tx l).length + 1) * (tx v).length ≤ _
      rw [tx_length, tx_length]
      have : (l.length + 1) * v.length ≤ (l.length + 1) * 2 := Nat.mul_le_mul_left _ hv
      omega
    · rw [replace_tx]
      exact reps_txs r (rep1 k v l) (fun p hp => h p (List.mem_cons_of_mem _ hp)) (by omega)
def lits : List (Str × Str) := [(Str.ofString "\n", Str.ofString "&#10;"), (Str.ofString "\r", Str.ofString "&#13;"), (Str.ofString "\t", Str.ofString "&#9;")]
theorem reps_lits {l : List Nat} (hl : l.length ≤ 100000) : Reps (tx l) lits (tx l) := by
  have e1 := replace_absent (tx l) (Str.ofString "\n") (Str.ofString "&#10;") 10 [] (by decide +kernel) (tx_absent (by decide))
  have e2 := replace_absent (tx l) (Str.ofString "\r") (Str.ofString "&#13;") 13 [] (by decide +kernel) (tx_absent (by decide))
  have e3 := replace_absent (tx l) (Str.ofString "\t") (Str.ofString "&#9;") 9 [] (by decide +kernel) (tx_absent (by decide))
  have n1 : (Str.ofString "&#10;").length = 5 := by decide +kernel
  have n2 : (Str.ofString "&#13;").length = 5 := by decide +kernel
  have n3 : (Str.ofString "&#9;").length = 4 := by decide +kernel
  refine .cons (by rw [tx_length, n1]; omega) ?_
  rw [e1]
  refine .cons (by rw [tx_length, n2]; omega) ?_
  rw [e2]
  refine .cons (by rw [tx_length, n3]; omega) ?_
  rw [e3]
  exact .nil _
end Mine
end
section
open PySem PySem.W PyProof.Rows PySem.Calls Builtin Builtin.Str
set_option maxRecDepth 100000
namespace Mine
theorem isSame_self (y : Str) (u : Tok) (h0 : u ≠ 0) : isSame (.str y u) (.str y u) = pure true := by
  show (if (u == 0 || u == 0) = true then _ else if (u == u) = true then _ else _ : Sem Bool) = _
  rw [if_neg (by simp [h0]), if_pos (by simp)]
theorem gives_replace_self (x y : Str) (t u : Tok) (h0 : u ≠ 0) : Gives («str.replace» ⟨[.str x t, .str y u, .str y u], []⟩) (.val (.str x t)) := by
  show Gives (if ((occurrences x y 0 x.length (x.length + 1)).isEmpty || (y.length == 0 && y.length == 0)) = true then (do rule "str.replace.nothing"; ret (.str x t)) else
          (do let same ← isSame (.str y u) (.str y u)
              if same = true then (do rule "str.replace.old-is-new"; ret (.str x t)) else
              if tooLong (x.length + (occurrences x y 0 x.length (x.length + 1)).length * y.length) = true then unsupported "str.replace:memory" else
              retStr (glued y (partsBetween x (occurrences x y 0 x.length (x.length + 1)) y.length)))) _
  cases hc : ((occurrences x y 0 x.length (x.length + 1)).isEmpty || (y.length == 0 && y.length == 0))
  · rw [isSame_self y u h0]
    exact .rule (.of_eq rfl)
  · exact .rule (.of_eq rfl)
section
variable {prog : Program} {w : World} {A : Around} {E : Value → Shared → Prop} {s : Shared} {x y z : Str} {t u v : Tok} {Q : Value → Shared → Prop}
theorem replaceE (hu : u ≠ 0) (hv : v ≠ 0) (hn : y = z ∨ u ≠ v) (hb : x.length + (x.length + 1) * z.length ≤ 16777216)
    (hq : ∀ t' k, s.toks ≤ k → Q (.str (Txt.replace x y z) t') { s with toks := k }) (hnb : NoneBooked s.heap) :
    wpAny (model prog w) A (call (.builtin "str.replace") [.str x t, .str y u, .str z v]) Q E s := by
  refine wpAny_with_toks (Nat.le_refl _) ?_
  by_cases huv : u = v
  · have hyz : y = z := hn.resolve_right (fun h => h huv)
    subst huv hyz
    refine call_gives F.slot_str_replace (typeIs_str _ _ _) F.entry_str_replace (F.args_str_replace_3 _ _ _) (gives_replace_self x y t u hu) ?_
    intro hle
    have := hq t s.toks hle
    rwa [Txt.replace_self] at this
  · exact SC.replaceA hu hv huv hb (fun t' k hle => hq t' k hle) hnb
end
theorem replaceP {prog : Program} {w : World} {A : Around} {E : Value → Shared → Prop} {s : Shared} {l : List Nat} {y z : PySem.Str} {t u v : Tok} {Q : Value → Shared → Prop} (c : Nat) (r : List Nat) (hy : y.cps.toList = c :: r) (hc : c < 65)
    (hq : Q (.str (tx l) t) s) : wpAny (model prog w) A (call (.builtin "str.replace") [.str (tx l) t, .str y u, .str z v]) Q E s := by
  have e := occ_absent (tx l) y c r hy (tx_absent hc) ((tx l).length + 1)
  refine call_gives F.slot_str_replace (typeIs_str _ _ _) F.entry_str_replace (F.args_str_replace_3 _ _ _) (gives_str_replace (tx l) y z t u v fun h => by rw [e] at h; exact absurd h (by simp)) ?_
  rw [e]
  exact hq
theorem noneBooked_of {P : Params} {h₀ h : Heap} {L : Addr} {m : PySem.Str → Option Value} (X : (hd.heap_39 P).In h₀) (F : Fr h₀ L h m) : NoneBooked h := by
  have X' : (hd.heap_39 P).In h := fun a o e => F.keep a o (X a o e)
  exact ⟨_, .of_isNs (isNs_of_in X' (by kernel_rfl)), nsMap_none_of_in X' (by kernel_rfl) (by kernel_rfl)⟩
end Mine
end
section
open PySem PySem.W PyProof.Rows
set_option maxRecDepth 100000
set_option maxHeartbeats 2000000
namespace Mine
local macro_rules | `(tactic| walk_at "mine open") => `(tactic| (dsimp only [Spec]; k_fill; (try dsimp only [CbRet]); intros))
local macro_rules | `(tactic| walk_at "mine mapsU") => `(tactic| (refine bndU_of ?_; (repeat (refine' bndU_cons ?x ?_; (case x => exact rfl))); refine bndU_nil ?_; intro y hy; simp only [List.mem_cons, List.not_mem_nil, or_false, not_or] at hy; simp [bnd, bndO, bndU, hy]))
local macro_rules | `(tactic| walk_at "call builtin:str.replace") => `(tactic| (k_here; (with_reducible show wpAny _ _ (call (Value.builtin "str.replace") [Value.str _ _, Value.str _ _, Value.str _ _]) _ _ _); k_dflt (refine' replaceE ?ru ?rv ?rn ?rb ?_ ?rc; (case ru => first | assumption | omega); (case rv => first | assumption | omega); (case rn => first | assumption | exact .inr (by omega)); (case rb => first | assumption | walk_at "mine room"); (case rc => exact noneBooked_of (by assumption) (by assumption))); intro _ _ rle))
theorem dict_replace {w : World} {mean : ExcName → Option Value} {mg mb : Str → Option Value} (news : List (Addr × Obj)) (d : Addr) (x : Str) (tx : Tok) (es : List DictEntry) (n : Nat) (kvs : List (Str × Str)) (y : Str) :
    Spec w mean mg mb 28 [.str x tx, .ref d] news ((d, dictOf es n) ∈ news ∧ (d == sysModules) = false ∧ Ents w es kvs ∧ (kvs.map (·.1)).Nodup ∧ Reps x kvs y) 1 8 (fun h₀ L m s Q => CbRet h₀ L m news s Q fun t => .str y t) := by
  w_top off
  walk_at "mine open"
  rename_i hpre _ _ hret
  obtain ⟨hm, lo, he, hn, hR⟩ := hpre
  refine wpAny_call ?_
  k_dflt cell_enter
  rename Fr _ _ _ _ => F0
  have F1 := fr_bnd [(Str.ofString "d", Value.ref d), (Str.ofString "s", Value.str x _)] F0
  clear F0
  repeat' ((fail_if_success (with_reducible show wpAny _ _ (exec (Stmt.For _ _ _ _ _) _) _ _ _)); first | (k_unfold; (try dsimp only)) | (k_end; wrow_close) | walk1 | (dsimp only; walk1) | (leave1; walk_say "STEP leave1"; try dsimp only) | fail "no step")
  rename News _ _ _ _ => N1
  with_unfolding_all refine' For_items (fun i m => ∃ xi ti a b, m = bndU [(Str.ofString "s", some (.str xi ti)), (Str.ofString "d", some (.ref d)), (Str.ofString "key", a), (Str.ofString "value", b)] ∧ Reps xi (kvs.drop i) y) rfl F1 N1 lo hm he hn ?h0 ?ho ?hturn ?hdone rfl rfl (fun _ => rfl) ?hE
  case h0 =>
    refine' ⟨x, ?t1, ?a1, ?b1, ?e1, by simpa using hR⟩
    case e1 => walk_at "mine mapsU"
  case ho => exact fun Q' hq => ld F1 rfl hq
  case hE => passes_own
  case hturn =>
    clear F1 N1
    rintro i e T m h tk I oI hx hT ⟨xi, ti, a, b, rfl, hRi⟩ off fK nK
    obtain ⟨k, v, hkv, u, t, hk, hv, hh, hu, ht, hnn⟩ := he.get hx
    have hdrop : kvs.drop i = (k, v) :: kvs.drop (i + 1) := by
      rw [List.getElem?_eq_some_iff] at hkv
      obtain ⟨hi, e1⟩ := hkv
      rw [List.drop_eq_getElem_cons hi, e1]
    rw [hdrop] at hRi
    obtain ⟨hb, hRn⟩ : xi.length + (xi.length + 1) * v.length ≤ 16777216 ∧ Reps (Txt.replace xi k v) (kvs.drop (i + 1)) y := by
      cases hRi with | cons hb r => exact ⟨hb, r⟩
    rw [hk, hv] at hT
    k_steps
    rename Fr _ _ _ _ => fE2
    rename News _ _ _ _ => nE2
    show TEnd _ _ _ _ _ _ _
    refine TEnd.intro news fE2 nE2 (fun p hp => hp) off ?_
    refine' ⟨rfl, _, ?t2, ?a2, ?b2, ?e2, hRn⟩
    case e2 => walk_at "mine mapsU"
  case hdone =>
    clear F1 N1
    rintro m h tk ⟨xi, ti, a, b, rfl, hRi⟩ fK nK
    k_steps
    have hye : xi = y := by
      rw [List.drop_of_length_le (by rw [he.length]; exact Nat.le_refl _)] at hRi
      cases hRi; rfl
    exact ret_str hret hye (by assumption) (by assumption)
end Mine
end
section
open PySem PySem.W PyProof.Rows
set_option maxRecDepth 100000
set_option maxHeartbeats 2000000
namespace Mine
/-- a table of texts that the ledger bears -/
inductive Tab (w : World) (news : List (Addr × Obj)) (d : Addr) (kvs : List (Str × Str)) : Prop where
  | mk (es : List DictEntry) (n : Nat) (hm : (d, dictOf es n) ∈ news) (lo : (d == sysModules) = false) (he : Ents w es kvs) (hn : (kvs.map (·.1)).Nodup) (hs : kvs ≠ []) (hf : kvs.length ≤ 100)
local macro_rules | `(tactic| walk_at "mine open") => `(tactic| (dsimp only [Spec]; k_fill; (try dsimp only [CbRet]); intros))
local macro_rules | `(tactic| walk_at "mine sub") => `(tactic| (first | assumption | (refine List.mem_cons_of_mem _ ?_; walk_at "mine sub")))
local macro_rules | `(tactic| walk_at "mine k") => `(tactic| (
  (case k1 => k_asm); (case k2 => k_asm); (case k3 => k_asm); (case k4 => k_asm); (case k5 => k_asm); (case kK => first | exact rfl | assumption); (case kp => first | assumption | walk_at "mine pre"); (case kd => ktr_room); (case ku => ktr_units)))
local macro_rules | `(tactic| walk_at "call ref") => `(tactic| (k_here; (with_reducible show wpAny _ _ (call (Value.ref 28) _ _) _ _ _); (have hCb := @dict_replace; dsimp only [Spec, CbRet] at hCb); k_dflt (refine' hCb _ _ _ _ _ _ _ _ _ _ _ _ _ _ _ _ _ _ _ _ _ _ _ _ _ ?k1 ?k2 ?k3 ?k4 ?k5 ?kK ?kp ?kd ?ku ?kR); walk_at "mine k"; clear hCb; intro t9 h9 tk9 F9 N9; (try dsimp only); (try k_fold)))
local macro_rules | `(tactic| walk_at "mine pre") => `(tactic| (refine ⟨?_, ?_, ?_, ?_, ?_⟩; walk_at "mine sub"; assumption; assumption; assumption; assumption))
local macro_rules | `(tactic| walk_at "call builtin:str.replace") => `(tactic| (k_here; (with_reducible show wpAny _ _ (call (Value.builtin "str.replace") [Value.str (tx _) _, Value.str _ _, Value.str _ _]) _ _ _); k_dflt (first
  | refine replaceP 38 [] (by decide +kernel) (by decide) ?_
  | refine replaceP 62 [] (by decide +kernel) (by decide) ?_
  | refine replaceP 60 [] (by decide +kernel) (by decide) ?_
  | refine replaceP 38 [108, 116, 59] (by decide +kernel) (by decide) ?_
  | refine replaceP 38 [103, 116, 59] (by decide +kernel) (by decide) ?_
  | refine replaceP 38 [97, 109, 112, 59] (by decide +kernel) (by decide) ?_)))
local macro_rules | `(tactic| walk_at "truthy ref") => `(tactic| (k_here; k_dflt (refine' truthy_tab ?t1 ?t2 ?t3 ?t4 ?t5 ?t6 ?t7 ?_; (case t4 => assumption); (case t1 => k_asm); (case t2 => assumption); (case t3 => walk_at "mine sub"); (case t5 => assumption); (case t6 => assumption); (case t7 => assumption))))
local macro_rules | `(tactic| walk_at "mine enter") => `(tactic| (refine' code_def ?k1 ?k2 ?k3 ?k4 ?k5 ?kA ?kF ?kK ?k6 ?k7 ?k8 ?k9 ?kB ?_ ?c2 ?c3 ?c4 ?c5; (case kA => exact rfl); (case kF => exact rfl); (case kK => assumption); (case k1 => k_asm); (case k2 => k_asm); (case k3 => k_asm); (case k4 => k_asm); (case k5 => k_asm); (case k6 => k_is); (case k7 => k_is); (case k8 => ktr_room); (case k9 => first | exact BindsTo.of_eq rfl | exact binds_K (by k_in) rfl (by k_is) rfl rfl rfl); (case c5 => decide); (case kB => exact locs rfl); (case c2 => exact rfl); (case c3 => exact rfl); (case c4 => exact rfl); k_whole; intro g' L' h' FG' F' N' B' X' T'; (try dsimp only); (try k_lift B'); (try k_fold)))
theorem escape_ {w : World} {mean : ExcName → Option Value} {mg mb : Str → Option Value} (news : List (Addr × Obj)) (d : Addr) (l : List Nat) (tx0 : Tok) (kvs : List (Str × Str)) (r : List Nat) :
    Spec w mean mg mb 37 [.str (tx l) tx0, .ref d] news (Tab w news d kvs ∧ Reps (tx l) kvs (tx r)) 2 16 (fun h₀ L m s Q => CbRet h₀ L m news s Q fun t => .str (tx r) t) := by
  w_top off
  walk_at "mine open"
  rename_i hpre _ _ hret
  obtain ⟨⟨es, n, hm, lo, he, hn, hs, hf⟩, hR⟩ := hpre
  refine wpAny_call ?_
  k_dflt walk_at "mine enter"
  k_steps
  exact hret _ _ _ (by assumption) (by assumption)
theorem unescape_ {w : World} {mean : ExcName → Option Value} {mg mb : Str → Option Value} (news : List (Addr × Obj)) (d : Addr) (l : List Nat) (tx0 : Tok) (kvs : List (Str × Str)) (r : List Nat) :
    Spec w mean mg mb 46 [.str (tx l) tx0, .ref d] news (Tab w news d kvs ∧ Reps (tx l) kvs (tx r)) 2 16 (fun h₀ L m s Q => CbRet h₀ L m news s Q fun t => .str (tx r) t) := by
  w_top off
  walk_at "mine open"
  rename_i hpre _ _ hret
  obtain ⟨⟨es, n, hm, lo, he, hn, hs, hf⟩, hR⟩ := hpre
  refine wpAny_call ?_
  k_dflt walk_at "mine enter"
  k_steps
  exact hret _ _ _ (by assumption) (by assumption)
end Mine
end
section
open PySem PySem.W PyProof.Rows PySem.Calls
set_option maxRecDepth 100000
namespace Mine
/-- no entry bears the key -/
def NoKey (k : Str) (es : List DictEntry) : Prop := ∀ e ∈ es, Value.isStrOf k e.key = false
section
variable {prog : Program} {w : World} {A : Around} {E : Value → Shared → Prop} {s : Shared}
theorem noKey_idx {k : Str} {es : List DictEntry} (h : NoKey k es) : (es.toArray.findIdx? fun e => (strKind prog w).is k e.key) = none := by
  rw [Array.findIdx?_eq_none_iff]
  intro e he
  exact h e (by simpa using he)
theorem Ents.noKey {es : List DictEntry} {kvs : List (Str × Str)} (h : Ents w es kvs) {k : Str} (hk : k ∉ kvs.map (·.1)) : NoKey k es := by
  induction h with
  | nil => exact fun _ he => nomatch he
  | @cons e k' v es kvs he _ ih =>
    rw [List.map_cons, List.mem_cons, not_or] at hk
    intro e' he'
    rcases List.mem_cons.mp he' with rfl | hm
    · obtain ⟨u, t, hk', _⟩ := he
      rw [hk']
      show (k' == k) = false
      exact beq_eq_false_iff_ne.mpr (Ne.symm hk.1)
    · exact ih hk.2 e' hm
theorem mapDictKeys_push {es : List DictEntry} {n : Nat} {e : DictEntry} : Obj.mapDictKeys (·.push e) (dictOf es n) = dictOf (es ++ [e]) (n + 1) := by
  simp [Obj.mapDictKeys, dictOf]
theorem upd_push {d : Addr} {es : List DictEntry} {n : Nat} {e : DictEntry} (ho : s.heap.get? d = some (dictOf es n)) : (s.heap.update d (Obj.mapDictKeys (·.push e))).get? d = some (dictOf (es ++ [e]) (n + 1)) := by
  rw [← mapDictKeys_push]
  exact Heap.get?_update_self _ ho (by rw [mapDictKeys_push]; rfl)
theorem put_new {d : Addr} {es : List DictEntry} {n : Nat} {kvs : List (Str × Str)} {k : Str} {u : Tok} {v : Value} {Q : Unit → Shared → Prop} (ho : s.heap.get? d = some (dictOf es n)) (he : Ents w es kvs) (hk : k ∉ kvs.map (·.1)) (hl : es.length ≤ 1000)
    (hQ : ∀ h', h'.get? d = some (dictOf (es ++ [⟨hashStr w k, .str k u, v⟩]) (n + 1)) → Heap.SameBut d s.heap h' → Q () { s with heap := h' }) :
    wpAny (model prog w) A (dictPut d (hashStr w k) (.str k u) v) Q E s := by
  obtain ⟨vs, h1, h2, h3⟩ := he.pairs (prog := prog)
  have hkey : (strKind prog w).is k (.str k u) = true := by show Value.isStrOf k (.str k u) = true; simp [Value.isStrOf]
  unfold dictPut
  refine wpAny_bind (wpAny_dictFind_of (knd := strKind prog w) hkey ho rfl h3 ?_)
  rw [noKey_idx (prog := prog) (he.noKey hk)]
  refine wpAny_updateDictKeys (hz := by rw [List.size_toArray, sizeLine_eq]; omega) ho rfl (hQ _ (upd_push ho) (Heap.SameBut.update ..))
theorem set_new {d : Addr} {es : List DictEntry} {n : Nat} {kvs : List (Str × Str)} {k : Str} {u : Tok} {v : Value} {Q : Unit → Shared → Prop} (ho : s.heap.get? d = some (dictOf es n)) (he : Ents w es kvs) (hk : k ∉ kvs.map (·.1)) (hl : es.length ≤ 1000)
    (hQ : ∀ h', h'.get? d = some (dictOf (es ++ [⟨hashStr w k, .str k u, v⟩]) (n + 1)) → Heap.SameBut d s.heap h' → Q () { s with heap := h', toks := s.toks + 1 }) :
    wpAny (model prog w) A (dictSet d (.str k u) v) Q E s := by
  obtain ⟨vs, h1, h2, h3⟩ := he.pairs (prog := prog)
  have hkey : (strKind prog w).is k (.str k u) = true := by show Value.isStrOf k (.str k u) = true; simp [Value.isStrOf]
  unfold dictSet
  try with_reducible refine wpAny_holding ?_
  refine wpAny_bind ((strKind prog w).pyHash hkey ?_)
  unfold dictSetHashed
  try with_reducible refine wpAny_holding ?_
  refine wpAny_bind (wpAny_dictFind_of (s := { s with toks := s.toks + 1 }) (knd := strKind prog w) hkey ho rfl h3 ?_)
  rw [noKey_idx (prog := prog) (he.noKey hk)]
  refine wpAny_bind (wpAny_rule ?_)
  exact wpAny_updateDictKeys (s := { s with toks := s.toks + 1 }) (hz := by rw [List.size_toArray, sizeLine_eq]; omega) ho rfl (hQ _ (upd_push (s := { s with toks := s.toks + 1 }) ho) (Heap.SameBut.update ..))
theorem Ents.take {es : List DictEntry} {kvs : List (Str × Str)} (h : Ents w es kvs) : ∀ i, Ents w (es.take i) (kvs.take i) := by
  induction h with
  | nil => intro i; simp; exact .nil
  | cons he _ ih =>
    intro i
    cases i with
    | zero => exact .nil
    | succ j => exact .cons he (ih j)
theorem merge_loop {d a : Addr} {es es2 : List DictEntry} {n n2 : Nat} {Q : PUnit → Shared → Prop} (f : Nat → PUnit → Sem (ForInStep PUnit)) (ho : s.heap.get? d = some (dictOf es n)) (ha : s.heap.get? a = some (dictOf es2 n2))
    (hf : ∀ i h' e b (R : ForInStep PUnit → Shared → Prop), es2[i]? = some e → h'.get? d = some (dictOf (es ++ es2.take i) (n + i)) → h'.get? a = some (dictOf es2 n2) → Heap.SameBut d s.heap h' →
      (∀ h'', h''.get? d = some (dictOf (es ++ es2.take (i + 1)) (n + (i + 1))) → h''.get? a = some (dictOf es2 n2) → Heap.SameBut d s.heap h'' → R (.yield PUnit.unit) { s with heap := h'' }) →
      wpAny (model prog w) A (f i b) R E { s with heap := h' })
    (hQ : ∀ h', h'.get? d = some (dictOf (es ++ es2) (n + es2.length)) → Heap.SameBut d s.heap h' → Q PUnit.unit { s with heap := h' }) :
    wpAny (model prog w) A (forIn (List.range es2.length) PUnit.unit f) Q E s := by
  rw [List.range_eq_range']
  refine wpAny_forIn_list f
    (fun rest _ s' => ∃ h' i, s' = { s with heap := h' } ∧ rest = List.range' i (es2.length - i) ∧ i ≤ es2.length ∧ h'.get? d = some (dictOf (es ++ es2.take i) (n + i)) ∧ h'.get? a = some (dictOf es2 n2) ∧ Heap.SameBut d s.heap h')
    _ ?_ ?_ _ _ ⟨s.heap, 0, rfl, by simp, Nat.zero_le _, by simpa using ho, ha, Heap.SameBut.refl _ _⟩
  · rintro x rest b s' ⟨h', i, rfl, hr, hi, hd', ha', hs'⟩
    have hlt : i < es2.length := by
      rcases Nat.lt_or_ge i es2.length with h | h
      · exact h
      · rw [Nat.sub_eq_zero_of_le h] at hr; simp at hr
    obtain ⟨rfl, hrest⟩ : x = i ∧ rest = List.range' (i + 1) (es2.length - (i + 1)) := by
      have e : es2.length - i = (es2.length - (i + 1)) + 1 := by omega
      rw [e, List.range'_succ] at hr
      injection hr with h1 h2
      exact ⟨h1, h2⟩
    refine hf x h' _ b _ (List.getElem?_eq_getElem hlt) hd' ha' hs' fun h'' hd'' ha'' hs'' => ?_
    exact ⟨h'', x + 1, rfl, hrest, hlt, hd'', ha'', hs''⟩
  · rintro b s' ⟨h', i, rfl, hr, hi, hd', _, hs'⟩
    have hin : i = es2.length := by
      rcases Nat.lt_or_ge i es2.length with h | h
      · have e : es2.length - i = (es2.length - (i + 1)) + 1 := by omega
        rw [e, List.range'_succ] at hr; exact nomatch hr
      · exact Nat.le_antisymm hi h
    subst hin
    rw [List.take_length] at hd'
    exact hQ h' hd' hs'
/-- one table's entries into another, whose keys are others -/
theorem merge_new {d a : Addr} {es es2 : List DictEntry} {n n2 : Nat} {kvs kvs2 : List (Str × Str)} {Q : Unit → Shared → Prop} (hda : d ≠ a) (hS : (a == sysModules) = false) (ho : s.heap.get? d = some (dictOf es n)) (ha : s.heap.get? a = some (dictOf es2 n2))
    (he : Ents w es kvs) (he2 : Ents w es2 kvs2) (hn : ((kvs ++ kvs2).map (·.1)).Nodup) (hl : (kvs ++ kvs2).length ≤ 1000)
    (hQ : ∀ h', h'.get? d = some (dictOf (es ++ es2) (n + es2.length)) → Heap.SameBut d s.heap h' → Q () { s with heap := h' }) :
    wpAny (model prog w) A (mergeMapping d (.ref a) false) Q E s := by
  have hT : s.TypeIs (.ref a) "dict" := ⟨_, ha, rfl⟩
  unfold mergeMapping
  refine wpAny_bind (wpAny_isInstance hT isSubtype_dict_dict ?_)
  simp only [if_true]
  refine wpAny_bind (wpAny_specialOf (name := Str.ofString "__iter__") hT F.slot_dict_iter.lookup ?_)
  have hb : (some (Value.builtin "dict.__iter__") == some (Value.builtin "dict.__iter__")) = true := by decide
  rw [hb]
  refine wpAny_bind (wpAny_pure ?_)
  dsimp only
  rw [if_neg (by rw [hS]; exact Bool.false_ne_true)]
  refine wpAny_bind (wpAny_dictEntries ho rfl ?_)
  have hlen2 := he2.length
  have hsz : es.length ≤ 1000 := by rw [he.length]; rw [List.length_append] at hl; omega
  have body : ∀ i h' e, es2[i]? = some e → h'.get? d = some (dictOf (es ++ es2.take i) (n + i)) → h'.get? a = some (dictOf es2 n2) → Heap.SameBut d s.heap h' →
      wpAny (model prog w) A (dictPut d e.hash e.key e.val) (fun _ s' => ∃ h'', s' = { s with heap := h'' } ∧ h''.get? d = some (dictOf (es ++ es2.take (i + 1)) (n + (i + 1))) ∧ h''.get? a = some (dictOf es2 n2) ∧ Heap.SameBut d s.heap h'') E { s with heap := h' } := by
    intro i h' e hx hd' ha' hs'
    obtain ⟨k, v, hkv, u, t, hk, hv, hh, _⟩ := he2.get hx
    have hi : i < kvs2.length := (List.getElem?_eq_some_iff.mp hkv).1
    have hnk : k ∉ (kvs ++ kvs2.take i).map (·.1) := by
      have e1 : kvs2 = kvs2.take i ++ (k, v) :: kvs2.drop (i + 1) := by
        have := List.take_append_drop i kvs2
        rw [List.drop_eq_getElem_cons hi] at this
        have e2 : kvs2[i] = (k, v) := (List.getElem?_eq_some_iff.mp hkv).2
        rw [e2] at this
        exact this.symm
      rw [e1, ← List.append_assoc, List.map_append, List.map_cons, List.nodup_append] at hn
      intro hm
      exact hn.2.2 _ hm _ List.mem_cons_self rfl
    have hE := he.append (he2.take i)
    have hsl : (es ++ es2.take i).length ≤ 1000 := by
      rw [hE.length]; rw [List.length_append] at hl ⊢; rw [List.length_take]; omega
    rw [hh, hk]
    refine put_new (s := { s with heap := h' }) hd' hE hnk hsl fun h'' hd'' hs'' => ?_
    have ha'' : h''.get? a = some (dictOf es2 n2) := (hs''.2 a (Ne.symm hda)).trans ha'
    refine ⟨h'', rfl, ?_, ha'', hs'.trans hs''⟩
    rw [hd'', List.take_add_one, hx]
    have : e = ⟨hashStr w k, .str k u, e.val⟩ := by cases e; simp_all
    rw [← this, List.append_assoc]; rfl
  split
  · refine wpAny_bind (wpAny_dictEntries ha rfl ?_)
    refine wpAny_bind ?_
    rw [← Array.forIn_toList]
    refine wpAny_forIn_list _ (fun rest _ s' => s' = s ∧ ∀ e ∈ rest, e ∈ es2) _ ?_ ?_ _ _ ⟨rfl, fun e he => by simpa using he⟩
    · rintro e rest b s' ⟨rfl, hr⟩
      obtain ⟨j, hj⟩ := List.getElem?_of_mem (hr e List.mem_cons_self)
      obtain ⟨k, v, _, u, t, hk, _⟩ := he2.get hj
      rw [hk]
      exact wpAny_pure ⟨rfl, fun e he => hr e (List.mem_cons_of_mem _ he)⟩
    · rintro b s' ⟨rfl, _⟩
      refine wpAny_bind (wpAny_dictEntries ha rfl (wpAny_bind (wpAny_dictEpoch ha rfl (wpAny_bind ?_))))
      rw [List.size_toArray]
      refine merge_loop _ ho ha ?_ fun h' hd' hs' => wpAny_pure (hQ h' hd' hs')
      intro i h' e b R hx hd' ha' hs' hR
      refine wpAny_bind (wpAny_dictEntries ha' rfl ?_)
      have hx' : es2.toArray[i]? = some e := by simpa using hx
      rw [hx']
      dsimp only
      rw [if_neg Bool.false_ne_true]
      refine wpAny_bind (wpAny_holding (wpAny_mono (body i h' e hx hd' ha' hs') (fun _ s' hp => ?_) fun _ _ x => x))
      obtain ⟨h'', rfl, hd'', ha'', hs''⟩ := hp
      refine wpAny_bind (wpAny_dictEpoch ha'' rfl ?_)
      rw [if_neg (by simp)]
      exact wpAny_pure (hR h'' hd'' ha'' hs'')
  · refine wpAny_bind (wpAny_dictEntries ha rfl (wpAny_bind (wpAny_dictEpoch ha rfl (wpAny_bind ?_))))
    rw [List.size_toArray]
    refine merge_loop _ ho ha ?_ fun h' hd' hs' => wpAny_pure (hQ h' hd' hs')
    intro i h' e b R hx hd' ha' hs' hR
    refine wpAny_bind (wpAny_dictEntries ha' rfl ?_)
    have hx' : es2.toArray[i]? = some e := by simpa using hx
    rw [hx']
    dsimp only
    rw [if_neg Bool.false_ne_true]
    refine wpAny_bind (wpAny_holding (wpAny_mono (body i h' e hx hd' ha' hs') (fun _ s' hp => ?_) fun _ _ x => x))
    obtain ⟨h'', rfl, hd'', ha'', hs''⟩ := hp
    refine wpAny_bind (wpAny_dictEpoch ha'' rfl ?_)
    rw [if_neg (by simp)]
    exact wpAny_pure (hR h'' hd'' ha'' hs'')
end
end Mine
end
section
open PySem PySem.W PyProof.Rows PySem.Calls
set_option maxRecDepth 100000
set_option maxHeartbeats 4000000
namespace Mine
local macro_rules | `(tactic| walk_at "mine tkne") => `(tactic| (show @Ne Nat _ _; first | omega | (intro e; simp at e)))
section
variable {prog : Program} {w : World} {A : Around} {E : Value → Shared → Prop} {s : Shared} {env : Env}
/-- three texts for three others, stored one after the other in an empty table -/
theorem store_three {d : Addr} {k1 w1 k2 w2 k3 w3 : Str} {Q : PUnit → Shared → Prop} (ho : s.heap.get? d = some (dictOf [] 0)) (hn : (([(k1, w1), (k2, w2), (k3, w3)] : List (Str × Str)).map (·.1)).Nodup) {t : Nat} (ht : t ≠ 0)
    (hQ : ∀ es n h' tk', h'.get? d = some (dictOf es n) → Ents w es [(k1, w1), (k2, w2), (k3, w3)] → Heap.SameBut d s.heap h' → Q PUnit.unit { s with heap := h', toks := tk' }) :
    wpAny (model prog w) A (storeAll d [(.str k1 t, .str w1 (t + 1)), (.str k2 (t + 2), .str w2 (t + 3)), (.str k3 (t + 4), .str w3 (t + 5))]) Q E s := by
  obtain ⟨a12, a3⟩ : (k2 ≠ k1 ∧ k3 ≠ k1) ∧ k3 ≠ k2 := by
    simp only [List.map_cons, List.map_nil, List.nodup_cons, List.mem_cons, List.not_mem_nil, or_false, not_or] at hn
    exact ⟨⟨fun e => hn.1.1 e.symm, fun e => hn.1.2 e.symm⟩, fun e => hn.2.1 e.symm⟩
  have e1 : Ents w ([] ++ [⟨hashStr w k1, .str k1 t, .str w1 (t + 1)⟩]) ([] ++ [(k1, w1)]) := .cons ⟨_, _, rfl, rfl, rfl, ht, by walk_at "mine tkne", .inr (by walk_at "mine tkne")⟩ .nil
  have e2 : Ents w (([] ++ [⟨hashStr w k1, .str k1 t, .str w1 (t + 1)⟩]) ++ [⟨hashStr w k2, .str k2 (t + 2), .str w2 (t + 3)⟩]) (([] ++ [(k1, w1)]) ++ [(k2, w2)]) := e1.append (.cons ⟨_, _, rfl, rfl, rfl, by walk_at "mine tkne", by walk_at "mine tkne", .inr (by walk_at "mine tkne")⟩ .nil)
  have e3 : Ents w ((([] ++ [⟨hashStr w k1, .str k1 t, .str w1 (t + 1)⟩]) ++ [⟨hashStr w k2, .str k2 (t + 2), .str w2 (t + 3)⟩]) ++ [⟨hashStr w k3, .str k3 (t + 4), .str w3 (t + 5)⟩]) ((([] ++ [(k1, w1)]) ++ [(k2, w2)]) ++ [(k3, w3)]) := e2.append (.cons ⟨_, _, rfl, rfl, rfl, by walk_at "mine tkne", by walk_at "mine tkne", .inr (by walk_at "mine tkne")⟩ .nil)
  unfold storeAll
  rw [List.forIn_cons]
  refine wpAny_bind (wpAny_bind (set_new ho .nil (by simp) (by simp) fun h1 d1 s1 => wpAny_pure ?_))
  dsimp only
  rw [List.forIn_cons]
  refine wpAny_bind (wpAny_bind (set_new (s := { s with heap := h1, toks := _ }) d1 e1 (by simpa using a12.1) (by simp) fun h2 d2 s2 => wpAny_pure ?_))
  dsimp only
  rw [List.forIn_cons]
  refine wpAny_bind (wpAny_bind (set_new (s := { s with heap := h2, toks := _ }) d2 e2 (by simpa using ⟨a12.2, a3⟩) (by simp) fun h3 d3 s3 => wpAny_pure ?_))
  dsimp only
  rw [List.forIn_nil]
  exact wpAny_pure (hQ _ _ h3 _ d3 e3 ((s1.trans s2).trans s3))
/-- the three as a table of their own -/
theorem sub_three {k1 w1 k2 w2 k3 w3 : Str} {n1 n2 n3 n4 n5 n6 : Nat} {p1 p2 p3 p4 p5 p6 pos : Pos} {Q : Addr → Shared → Prop} (h0 : s.toks ≠ 0) (hn : (([(k1, w1), (k2, w2), (k3, w3)] : List (Str × Str)).map (·.1)).Nodup)
    (hQ : ∀ es n h' tk', h'.get? s.heap.objs.size = some (dictOf es n) → Ents w es [(k1, w1), (k2, w2), (k3, w3)] → (∀ b o, s.heap.get? b = some o → h'.get? b = some o) → Q s.heap.objs.size { s with heap := h', toks := tk' }) :
    wpAny (model prog w) A (subDict [(eval (.Constant (.str k1) n1 p1) env, do let x ← eval (.Constant (.str w1) n4 p4) env; standAt pos; pure x), (eval (.Constant (.str k2) n2 p2) env, do let x ← eval (.Constant (.str w2) n5 p5) env; standAt pos; pure x), (eval (.Constant (.str k3) n3 p3) env, do let x ← eval (.Constant (.str w3) n6 p6) env; standAt pos; pure x)]) Q E s := by
  obtain ⟨hp, g, dr, tk, os⟩ := s
  dsimp only at h0 hQ ⊢
  refine wpAny_subDict_any (by simp) ?_
  refine evalPairs_cons (wpAny_Constant_str (wpAny_bind (wpAny_Constant_str (wpAny_bind (wpAny_standAt (wpAny_pure ?_))))))
  dsimp only
  refine evalPairs_cons (wpAny_Constant_str (wpAny_bind (wpAny_Constant_str (wpAny_bind (wpAny_standAt (wpAny_pure ?_))))))
  dsimp only
  refine evalPairs_cons (wpAny_Constant_str (wpAny_bind (wpAny_Constant_str (wpAny_bind (wpAny_standAt (wpAny_pure ?_))))))
  dsimp only
  refine evalPairs_nil ?_
  refine store_three (w := w) (t := tk) (Heap.get?_push_size _ rfl) hn h0 fun es n h' tk' d e s1 => ?_
  exact hQ es n h' tk' d e fun b o x => s1.extBut b o (Nat.ne_of_lt (Heap.lt_size x)) (Heap.get?_push_of_some _ x)
/-- {**table, k1: w1, k2: w2, k3: w3} -/
theorem Dict_over {h₀ : Heap} {L : Addr} {m : Str → Option Value} {news : List (Addr × Obj)} {v0 : Expr} {k1 w1 k2 w2 k3 w3 : Str} {n1 n2 n3 n4 n5 n6 : Nat} {p1 p2 p3 p4 p5 p6 pos : Pos} {a : Addr} {es2 : List DictEntry} {nn : Nat} {kvs : List (Str × Str)} {Q : Value → Shared → Prop}
    (F : Fr h₀ L s.heap m) (N : News h₀ L s.heap news) (hbig : h₀.NoLimit) (h0 : s.toks ≠ 0) (hm : (a, dictOf es2 nn) ∈ news) (lo : (a == sysModules) = false) (he : Ents w es2 kvs) (hn : ((kvs ++ [(k1, w1), (k2, w2), (k3, w3)]).map (·.1)).Nodup) (hl : kvs.length ≤ 100)
    (hv : ∀ (h' : Heap) Q', Fr h₀ L h' m → Q' (.ref a) { s with heap := h' } → wpAny (model prog w) A (eval v0 env) Q' E { s with heap := h' })
    (h : ∀ d es n h' tk', (∀ p ∈ news, p.1 < d) → Fr h₀ L h' m → News h₀ L h' ((d, dictOf es n) :: news) → (d == sysModules) = false → Ents w es (kvs ++ [(k1, w1), (k2, w2), (k3, w3)]) → Q (.ref d) { s with heap := h', toks := tk' }) :
    wpAny (model prog w) A (eval (.Dict [none, some (.Constant (.str k1) n1 p1), some (.Constant (.str k2) n2 p2), some (.Constant (.str k3) n3 p3)] [v0, .Constant (.str w1) n4 p4, .Constant (.str w2) n5 p5, .Constant (.str w3) n6 p6] pos) env) Q E s := by
  obtain ⟨hp, g, dr, tk, os⟩ := s
  dsimp only at F N h0 hv h ⊢
  rw [arm_eval_Dict]
  refine wpAny_bind (wpAny_standAt ?_)
  have z := N _ hm
  have hda : hp.objs.size ≠ a := Nat.ne_of_gt (Heap.lt_size z.1)
  have hdl : (hp.objs.size == sysModules) = false := F.notModules (modules_low hbig)
  have o0 : (hp.push { cls := .type "dict", data := .dict #[] }).get? hp.objs.size = some (dictOf [] 0) := Heap.get?_push_size _ rfl
  have oa : (hp.push { cls := .type "dict", data := .dict #[] }).get? a = some (dictOf es2 nn) := Heap.get?_push_of_some _ z.1
  have hn0 : ((([] : List (Str × Str)) ++ kvs).map (·.1)).Nodup := by
    rw [List.map_append] at hn
    simpa using (List.nodup_append.mp hn).1
  have hn3 : (([(k1, w1), (k2, w2), (k3, w3)] : List (Str × Str)).map (·.1)).Nodup := by
    rw [List.map_append] at hn
    exact (List.nodup_append.mp hn).2.1
  show wpAny _ _ (dictDisplay [(none, do let x ← eval v0 env; standAt pos; pure x), (some (eval (.Constant (.str k1) n1 p1) env), do let x ← eval (.Constant (.str w1) n4 p4) env; standAt pos; pure x), (some (eval (.Constant (.str k2) n2 p2) env), do let x ← eval (.Constant (.str w2) n5 p5) env; standAt pos; pure x), (some (eval (.Constant (.str k3) n3 p3) env), do let x ← eval (.Constant (.str w3) n6 p6) env; standAt pos; pure x)]) _ _ _
  unfold dictDisplay
  dsimp only
  refine wpAny_bind ?_
  rw [List.forIn_cons]
  refine wpAny_bind ?_
  dsimp only
  refine wpAny_bind (wpAny_pure (wpAny_bind (wpAny_alloc (wpAny_bind (wpAny_holding ?_)))))
  refine wpAny_bind (hv _ _ (F.push _) (wpAny_bind (wpAny_standAt (wpAny_pure ?_))))
  refine wpAny_bind (wpAny_onRaise (wpAny_tryCatch (wpAny_onRaise (wpAny_holding ?_))))
  refine merge_new (es := []) (n := 0) (kvs := []) hda lo o0 oa .nil he hn0 (by simp; omega) fun h1 d1 s1 => wpAny_pure ?_
  dsimp only
  have F1 : Fr h₀ L h1 m := (F.push _).change s1 (Nat.ne_of_gt F.ns.lt) (next_is_new F)
  have up1 : ∀ b o, hp.get? b = some o → h1.get? b = some o := fun b o e => s1.extBut b o (Nat.ne_of_lt (Heap.lt_size e)) (Heap.get?_push_of_some _ e)
  rw [List.forIn_cons]
  simp only [List.nil_append, List.cons_append, List.length_cons, List.length_nil, Nat.reduceAdd, Nat.reduceBEq, Bool.false_eq_true, if_false]
  rw [pure_bind]
  dsimp only
  rw [List.forIn_cons]
  simp only [List.nil_append, List.cons_append, List.length_cons, List.length_nil, Nat.reduceAdd, Nat.reduceBEq, Bool.false_eq_true, if_false]
  rw [pure_bind]
  dsimp only
  rw [List.forIn_cons]
  simp only [List.nil_append, List.cons_append, List.length_cons, List.length_nil, Nat.reduceAdd, Nat.reduceBEq, Bool.false_eq_true, if_false]
  rw [pure_bind]
  dsimp only
  rw [List.forIn_nil]
  refine wpAny_pure ?_
  dsimp only
  simp only [List.isEmpty_cons, Bool.false_eq_true, if_false]
  refine wpAny_bind ?_
  refine wpAny_bind ?_
  refine wpAny_holding ?_
  refine (sub_three h0 hn3 fun es3 n3' h3 tk3 d3 e3 up3 => ?_)
  dsimp only at d3 up3 ⊢
  have hsz1 : h1.objs.size = hp.objs.size + 1 := by rw [s1.1, Heap.size_push]
  have d1' : h3.get? hp.objs.size = some (dictOf ([] ++ es2) (0 + es2.length)) := up3 _ _ d1
  refine wpAny_bind (wpAny_onRaise (wpAny_holding ?_))
  refine merge_new (kvs := [] ++ kvs) (show hp.objs.size ≠ h1.objs.size from Nat.ne_of_lt (by omega)) (F1.notModules (modules_low hbig)) d1' d3 (Ents.append .nil he) e3 hn (by rw [List.length_append, List.length_append]; simp; omega) fun h4 d4 s4 => wpAny_pure (wpAny_pure ?_)
  have up4 : ∀ b o, hp.get? b = some o → h4.get? b = some o := fun b o e => s4.extBut b o (Nat.ne_of_lt (Heap.lt_size e)) (up3 b o (up1 b o e))
  refine h _ (([] ++ es2) ++ es3) (0 + es2.length + es3.length) h4 tk3 (fun (p : Addr × Obj) hq => Heap.lt_size (N p hq).1) (F.keeps up4) (fun p hq => ?_) hdl (Ents.append (Ents.append .nil he) e3)
  rcases List.mem_cons.mp hq with rfl | hq
  · exact ⟨d4, Nat.ne_of_gt F.ns.lt, next_is_new F⟩
  · exact N.grown up4 p hq
end
end Mine
end
section
open PySem PySem.W PyProof.Rows
set_option maxRecDepth 100000
set_option maxHeartbeats 2000000
namespace Mine
local macro_rules | `(tactic| walk_at "mine open") => `(tactic| (dsimp only [Spec]; k_fill; (try dsimp only [CbRet]); intros))
local macro_rules | `(tactic| walk_at "mine sub") => `(tactic| (first | exact List.mem_cons_self | assumption | (refine List.mem_cons_of_mem _ ?_; walk_at "mine sub")))
local macro_rules | `(tactic| walk_at "mine k") => `(tactic| (
  (case k1 => k_asm); (case k2 => k_asm); (case k3 => k_asm); (case k4 => k_asm); (case k5 => k_asm); (case kK => first | exact rfl | assumption); (case kp => first | assumption | walk_at "mine pre"); (case kd => ktr_room); (case ku => ktr_units)))
local macro_rules | `(tactic| walk_at "call ref") => `(tactic| (k_here; (with_reducible show wpAny _ _ (call (Value.ref 37) _ _) _ _ _); (have hCb := @escape_; dsimp only [Spec, CbRet] at hCb); k_dflt (refine' hCb _ _ _ _ _ _ _ _ _ _ _ _ _ _ _ _ _ _ _ _ _ _ _ ?k1 ?k2 ?k3 ?k4 ?k5 ?kK ?kp ?kd ?ku ?kR); walk_at "mine k"; clear hCb; intro t9 h9 tk9 F9 N9; (try dsimp only); (try k_fold)))
local macro_rules | `(tactic| walk_at "mine enter") => `(tactic| (refine' code_def ?k1 ?k2 ?k3 ?k4 ?k5 ?kA ?kF ?kK ?k6 ?k7 ?k8 ?k9 ?kB ?_ ?c2 ?c3 ?c4 ?c5; (case kA => exact rfl); (case kF => exact rfl); (case kK => assumption); (case k1 => k_asm); (case k2 => k_asm); (case k3 => k_asm); (case k4 => k_asm); (case k5 => k_asm); (case k6 => k_is); (case k7 => k_is); (case k8 => ktr_room); (case k9 => first | exact BindsTo.of_eq rfl | exact binds_K (by k_in) rfl (by k_is) rfl rfl rfl); (case c5 => decide); (case kB => exact locs rfl); (case c2 => exact rfl); (case c3 => exact rfl); (case c4 => exact rfl); k_whole; intro g' L' h' FG' F' N' B' X' T'; (try dsimp only); (try k_lift B'); (try k_fold)))
theorem txs_keys {kvs : List (Nat × List Nat)} {k : Str} (h : k ∈ (txs kvs).map (·.1)) : ∃ d : Nat, k = tx [d] := by
  simp only [txs, List.map_map, List.mem_map] at h
  obtain ⟨p, _, rfl⟩ := h
  exact ⟨p.1, rfl⟩
theorem tx_one_ne {d c : Nat} {k : Str} (hk : k.cps.toList = [c]) (hc : c < 65) : k ≠ tx [d] := fun e => by
  have := congrArg (fun s : Str => s.cps.toList) e
  simp only [hk, tx_list] at this
  simp at this
  omega
theorem nodup_over {kvs : List (Nat × List Nat)} (hn : ((txs kvs).map (·.1)).Nodup) : ((txs kvs ++ lits).map (·.1)).Nodup := by
  rw [List.map_append, List.nodup_append]
  refine ⟨hn, by decide +kernel, ?_⟩
  intro a ha b hb hab
  subst hab
  obtain ⟨d, e⟩ := txs_keys ha
  have hb' : a = Str.ofString "\n" ∨ a = Str.ofString "\r" ∨ a = Str.ofString "\t" := by simpa [lits] using hb
  rcases hb' with h | h | h <;> subst h
  · exact tx_one_ne (c := 10) (by decide +kernel) (by decide) e
  · exact tx_one_ne (c := 13) (by decide +kernel) (by decide) e
  · exact tx_one_ne (c := 9) (by decide +kernel) (by decide) e
local macro_rules | `(tactic| walk_at "eval Dict") => `(tactic| (k_here; k_dflt (refine' Dict_over ?d1 ?d2 ?d3 ?d4 ?d5 ?d6 ?d7 ?d8 ?d9 ?d10 ?_; (case d5 => with_reducible assumption); (case d1 => k_asm); (case d2 => k_asm); (case d3 => exact Top.nolimit (by assumption)); (case d4 => with_unfolding_all exact Nat.succ_ne_zero _); (case d6 => assumption); (case d7 => assumption); (case d8 => assumption); (case d9 => assumption); (case d10 => exact fun h' Q' F9 hq => ld F9 rfl hq)); intro D9 es9 n9 h9 tk9 lt9 F9 N9 lo9 he9; (try dsimp only); (try k_fold)))
local macro_rules | `(tactic| walk_at "mine pre") => `(tactic| (refine' ⟨⟨_, _, ?p1, ?p2, ?p3, ?p4, ?p5, ?p6⟩, ?p7⟩; (case p1 => walk_at "mine sub"); (case p3 => assumption); (case p2 => assumption); (case p4 => assumption); (case p5 => assumption); (case p6 => assumption); (case p7 => assumption)))
theorem quoteattr_ {w : World} {mean : ExcName → Option Value} {mg mb : Str → Option Value} (news : List (Addr × Obj)) (d : Addr) (l : List Nat) (tx0 : Tok) (kvs : List (Nat × List Nat)) :
    Spec w mean mg mb 55 [.str (tx l) tx0, .ref d] news (Tab w news d (txs kvs) ∧ Words kvs ∧ l.length ≤ 1000) 4 32 (fun h₀ L m s Q => CbRet h₀ L m news s Q fun t => .str (Str.ofString "\"" ++ tx (phi kvs l) ++ Str.ofString "\"") t) := by
  w_top off
  walk_at "mine open"
  rename_i hpre _ _ hret
  obtain ⟨⟨es, n, hm, lo, he, hn, hs, hf⟩, hW, hL⟩ := hpre
  refine wpAny_call ?_
  k_dflt walk_at "mine enter"
  have hR := (reps_txs kvs l hW.two (by have := pow_few hW.few; have := Nat.mul_le_mul this hL; omega)).append (reps_lits (l := phi kvs l) (by have := phi_len8 hW l; omega))
  have hn9 := nodup_over hn
  unfold lits at hR hn9
  have hs9 : txs kvs ++ [(Str.ofString "\n", Str.ofString "&#10;"), (Str.ofString "\x0d", Str.ofString "&#13;"), (Str.ofString "\t", Str.ofString "&#9;")] ≠ [] := by simp
  have hf9 : (txs kvs ++ [(Str.ofString "\n", Str.ofString "&#10;"), (Str.ofString "\x0d", Str.ofString "&#13;"), (Str.ofString "\t", Str.ofString "&#9;")]).length ≤ 100 := by
    have := hW.few
    simp [txs]; omega
  have htl : (tx (phi kvs l)).length ≤ 1000000 := by
    rw [tx_length]
    have := phi_len8 hW l
    omega
  have hoc : (Builtin.Str.occurrences (tx (phi kvs l)) (Str.ofString "\"") 0 (tx (phi kvs l)).length 1).isEmpty = true := by
    rw [occ_absent (tx (phi kvs l)) (Str.ofString "\"") 34 [] (by decide +kernel) (tx_absent (by decide)) 1]; rfl
  k_steps
  all_goals first
    | exact hret _ _ _ (by assumption) (cb_drop (by assumption) (fun p hp => List.mem_cons_of_mem _ hp))
    | exact absurd hoc (by assumption)
    | skip
end Mine
end
section
open PySem PySem.W PyProof.Rows PySem.Calls
set_option maxRecDepth 100000
set_option maxHeartbeats 2000000
namespace Mine
/-- the numbers under the keys, plain -/
def put (W : List (Int × Int)) (k x : Int) : List (Int × Int) := if W.any (fun p => p.1 = k) then W.map (fun p => if p.1 = k then (p.1, x) else p) else W ++ [(k, x)]
def wval (v : Int) : Int := (v.fdiv 4).fmod 4 * 16 + (v.fdiv 16).fmod 4
def wtab (l : List Int) : List (Int × Int) := l.foldl (fun W v => put W (v.fmod 4) (wval v)) []
theorem wtab_snoc (l : List Int) (v : Int) : wtab (l ++ [v]) = put (wtab l) (v.fmod 4) (wval v) := by simp [wtab]
inductive Vals : List (Int × Value) → List (Int × Int) → Prop where
  | nil : Vals [] []
  | cons (k x : Int) (t : Tok) {kvs : List (Int × Value)} {W : List (Int × Int)} (h : Vals kvs W) : Vals ((k, .int x t) :: kvs) ((k, x) :: W)
theorem Vals.length {kvs : List (Int × Value)} {W : List (Int × Int)} (h : Vals kvs W) : kvs.length = W.length := by
  induction h with
  | nil => rfl
  | cons _ _ _ _ ih => simp [ih]
theorem Vals.keys {kvs : List (Int × Value)} {W : List (Int × Int)} (h : Vals kvs W) : kvs.map (·.1) = W.map (·.1) := by
  induction h with
  | nil => rfl
  | cons _ _ _ _ ih => simp [ih]
theorem Vals.append {kvs kvs' : List (Int × Value)} {W W' : List (Int × Int)} (h : Vals kvs W) (h' : Vals kvs' W') : Vals (kvs ++ kvs') (W ++ W') := by
  induction h with
  | nil => exact h'
  | cons k x t _ ih => exact .cons k x t ih
theorem Vals.any {kvs : List (Int × Value)} {W : List (Int × Int)} (h : Vals kvs W) (k : Int) : kvs.any (fun p => p.1 = k) = W.any (fun p => p.1 = k) := by
  induction h with
  | nil => rfl
  | cons _ _ _ _ ih => simp [List.any_cons, ih]
theorem Vals.setAll {kvs : List (Int × Value)} {W : List (Int × Int)} (h : Vals kvs W) (k x : Int) (t : Tok) : Vals (kvs.map fun p => if p.1 = k then (p.1, .int x t) else p) (W.map fun p => if p.1 = k then (p.1, x) else p) := by
  induction h with
  | nil => exact .nil
  | cons k' x' t' _ ih =>
    simp only [List.map_cons]
    by_cases e : k' = k
    · rw [if_pos e, if_pos e]; exact .cons _ _ _ ih
    · rw [if_neg e, if_neg e]; exact .cons _ _ _ ih
theorem Vals.put {kvs : List (Int × Value)} {W : List (Int × Int)} (h : Vals kvs W) (k x : Int) (t : Tok) : Vals (PySem.stored kvs k (.int x t)) (Mine.put W k x) := by
  unfold PySem.stored Mine.put
  rw [h.any k]
  split
  · exact h.setAll k x t
  · exact h.append (.cons _ _ _ .nil)
theorem Vals.get {kvs : List (Int × Value)} {W : List (Int × Int)} (h : Vals kvs W) : ∀ {i : Nat} {k : Int} {v : Value}, kvs[i]? = some (k, v) → ∃ x t, W[i]? = some (k, x) ∧ v = .int x t := by
  induction h with
  | nil => intro i k v e; simp at e
  | cons k' x' t' _ ih =>
    intro i k v e
    cases i with
    | zero => simp at e; obtain ⟨rfl, rfl⟩ := e; exact ⟨x', t', rfl, rfl⟩
    | succ j => simpa using ih (by simpa using e)
theorem Vals.find {kvs : List (Int × Value)} {W : List (Int × Int)} (h : Vals kvs W) (hn : (W.map (·.1)).Nodup) {k x : Int} (hm : (k, x) ∈ W) : ∃ t, (k, Value.int x t) ∈ kvs := by
  induction h with
  | nil => exact nomatch hm
  | cons k' x' t' _ ih =>
    rcases List.mem_cons.mp hm with e | hm
    · obtain ⟨rfl, rfl⟩ := Prod.mk.inj e; exact ⟨t', List.mem_cons_self⟩
    · obtain ⟨t, ht⟩ := ih (List.nodup_cons.mp hn).2 hm
      exact ⟨t, List.mem_cons_of_mem _ ht⟩
theorem put_keys (W : List (Int × Int)) (k x : Int) : (put W k x).map (·.1) = if W.any (fun p => p.1 = k) then W.map (·.1) else W.map (·.1) ++ [k] := by
  unfold put
  split
  · rw [List.map_map]
    apply List.map_congr_left
    intro p _
    simp only [Function.comp]
    split <;> rfl
  · simp
theorem put_nodup {W : List (Int × Int)} (h : (W.map (·.1)).Nodup) (k x : Int) : ((put W k x).map (·.1)).Nodup := by
  rw [put_keys]
  split
  · exact h
  · rename_i hn
    rw [List.nodup_append]
    refine ⟨h, by simp, fun a ha b hb hab => ?_⟩
    rw [List.mem_singleton.mp hb] at hab
    subst hab
    obtain ⟨p, hp, e⟩ := List.mem_map.mp ha
    exact hn (List.any_eq_true.mpr ⟨p, hp, by simpa using e⟩)
theorem put_all {W : List (Int × Int)} {p : Int × Int → Prop} (h : ∀ q ∈ W, p q) {k x : Int} (hk : p (k, x)) : ∀ q ∈ put W k x, p q := by
  intro q hq
  unfold put at hq
  split at hq
  · obtain ⟨r, hr, rfl⟩ := List.mem_map.mp hq
    split
    · rename_i e; rw [e]; exact hk
    · exact h r hr
  · rcases List.mem_append.mp hq with hq | hq
    · exact h q hq
    · rw [List.mem_singleton.mp hq]; exact hk
theorem put_len (W : List (Int × Int)) (k x : Int) : (put W k x).length ≤ W.length + 1 ∧ put W k x ≠ [] := by
  unfold put
  split
  · rename_i h
    refine ⟨by simp, fun e => ?_⟩
    have := List.map_eq_nil_iff.mp e
    rw [this] at h; simp at h
  · simp
/-- what the table of numbers is -/
structure WOk (W : List (Int × Int)) : Prop where
  nodup : (W.map (·.1)).Nodup
  key : ∀ q ∈ W, 0 ≤ q.1 ∧ q.1 < 4
  val : ∀ q ∈ W, 0 ≤ q.2 ∧ q.2 ≤ 51
theorem fmod4 (v : Int) : 0 ≤ v.fmod 4 ∧ v.fmod 4 < 4 := ⟨Int.fmod_nonneg_of_pos v (by decide), Int.fmod_lt_of_pos v (by decide)⟩
theorem wval_le (v : Int) : 0 ≤ wval v ∧ wval v ≤ 51 := by
  have h1 := fmod4 (v.fdiv 4)
  have h2 := fmod4 (v.fdiv 16)
  unfold wval
  omega
theorem wtab_ok : ∀ (l : List Int) (W : List (Int × Int)), WOk W → WOk (l.foldl (fun W v => put W (v.fmod 4) (wval v)) W) ∧ (l.foldl (fun W v => put W (v.fmod 4) (wval v)) W).length ≤ W.length + l.length ∧ (W ≠ [] ∨ l ≠ [] → l.foldl (fun W v => put W (v.fmod 4) (wval v)) W ≠ [])
  | [], W, h => ⟨h, by simp, by simp⟩
  | v :: l, W, h => by
    have h1 : WOk (put W (v.fmod 4) (wval v)) := ⟨put_nodup h.nodup _ _, put_all h.key (fmod4 v), put_all h.val (wval_le v)⟩
    have h2 := wtab_ok l _ h1
    have h3 := put_len W (v.fmod 4) (wval v)
    refine ⟨h2.1, ?_, fun _ => h2.2.2 (.inl h3.2)⟩
    have := h2.2.1
    simp only [List.foldl_cons, List.length_cons]
    omega
theorem wtab_is (l : List Int) (hl : l ≠ []) (h3 : l.length ≤ 3) : WOk (wtab l) ∧ (wtab l).length ≤ 3 ∧ wtab l ≠ [] := by
  have h := wtab_ok l [] ⟨by simp, by simp, by simp⟩
  refine ⟨h.1, ?_, h.2.2 (.inr hl)⟩
  have := h.2.1
  simp at this
  exact Nat.le_trans this h3
section
variable {prog : Program} {w : World} {A : Around} {E : Value → Shared → Prop} {s : Shared} {h₀ : Heap} {L : Addr} {m : Str → Option Value}
inductive WObj (prog : Program) (w : World) (W : List (Int × Int)) (oD : Obj) : Prop where
  | mk (kvs : List (Int × Value)) (ho : oD.IsDictOf (intKind prog w) kvs) (hv : Vals kvs W)
theorem WObj.nil : WObj prog w [] (dictOf [] 0) := ⟨[], ⟨#[], 0, ⟨rfl, rfl, rfl⟩, rfl, (fun e he => by simp at he), .nil, by simp⟩, .nil⟩
/-- the numbers of a list's first i items -/
structure WRel (prog : Program) (w : World) {vs : List Value} {ns : List Int} (h : IntsAre vs ns) (i : Nat) (oD : Obj) : Prop where
  obj : WObj prog w (wtab (ns.take i)) oD
theorem cend_worth {vs : List Value} {ns : List Int} {hI : IntsAre vs ns} {i : Nat} {I C D : Addr} {oI oC oD : Obj} {k : Int} {t u : Tok} {nw all : List (Addr × Obj)} {s₁ : Shared} {h : Heap} {tk : Nat} (F : Fr h₀ L h m) (N : News h₀ L h all)
    (sub : ∀ p ∈ (I, oI) :: (C, oC) :: (D, oD) :: nw, p ∈ all) (off : LCg.Off3 I C D nw) (ne : (@Ne Nat I C) ∧ (@Ne Nat I D) ∧ (@Ne Nat C D)) (ho : WRel prog w hI i oD) (hk : ns[i]? = some k) (hl : ns.length ≤ 1000) :
    wpAny (model prog w) A (dictSet D (.int (k.fmod 4) t) (.int ((k.fdiv 4).fmod 4 * 16 + (k.fdiv 16).fmod 4) u)) (fun _ s₆ => CEnd h₀ L m I oI C oC D (fun oD nw' => nw' = nw ∧ WRel prog w hI (i + 1) oD) s₁ s₆) E { s₁ with heap := h, toks := tk } := by
  obtain ⟨⟨kvs, hd, hv⟩⟩ := ho
  refine cend_set (knd := intKind prog w) F N sub off ne (k := k.fmod 4) (by simp [intKind, Value.isInt]) hd ?_ fun oD' hd' => ⟨rfl, ⟨⟨_, hd', ?_⟩⟩⟩
  · rw [hv.length]
    have := (wtab_ok (ns.take i) [] ⟨by simp, by simp, by simp⟩).2.1
    have e : (wtab (ns.take i)).length ≤ (ns.take i).length := by simpa [wtab] using this
    rw [List.length_take] at e
    rw [sizeLine_eq]; omega
  · rw [List.take_add_one, hk]
    show Vals _ (wtab (List.take i ns ++ [k]))
    rw [wtab_snoc]
    exact hv.put _ _ _
theorem WRel.whole {vs : List Value} {ns : List Int} {hI : IntsAre vs ns} {n : Nat} {oD : Obj} (h : WRel prog w hI n oD) (hn : n = vs.toArray.size) : WObj prog w (wtab ns) oD := by
  have := h.obj
  rwa [List.take_of_length_le (by rw [hn, List.size_toArray, hI.length]; exact Nat.le_refl _)] at this
/-- over the keys of such a table -/
theorem ct_worth {nw : List (Addr × Obj)} {env : Env} {step : Step} {x : Str} {scope : Scope} {cl : List (Str × Addr)} {o0 : Obj} {m' : Addr → Str → Option Value} {K : Addr → Shared → Prop} {d : Addr} {oD : Obj} {W : List (Int × Int)} (hh : A.handled = none) (F : Fr h₀ L s.heap m) (N : News h₀ L s.heap nw) (hd : (d == sysModules) = false) (hm : (d, oD) ∈ nw) (ho : WObj prog w W oD)
    (R : ∀ g, s.heap.objs.size ≤ g.objs.size → (∀ p ∈ nw, p.1 < g.objs.size) → CTurns prog w A h₀ L m env step x scope cl o0 m' K nw (fun nw => (d, oD) ∈ nw) W.length (fun i v => ∃ k x t, W[i]? = some (k, x) ∧ v = .int k t) { s with heap := g }) :
    wpAny (model prog w) A (pyIter (.ref d)) (CT prog w A h₀ L m env step x scope cl o0 m' K) E s := by
  obtain ⟨kvs, hdo, hv⟩ := ho
  have zd := N _ hm
  obtain ⟨es, ep, hx, hdata, hk, hp, hn⟩ := hdo
  have at_ : ∀ h : Heap, h.get? d = some oD → h.DictAt (intKind prog w) d kvs ep := fun h e => ⟨oD, es, e, hx, hdata, hk, hp, hn⟩
  have hat := at_ _ zd.1
  have hne : d ≠ s.heap.objs.size := Nat.ne_of_lt hat.lt_size
  have hl := hv.length
  refine wpAny_pyIter_dict hd hat ?_
  have up : ∀ b o, s.heap.get? b = some o → (s.heap.push { cls := .type "dict_keyiterator", data := .fields #[.ref d, .int 0 0, .int kvs.length 0, .int ep 0] }).get? b = some o := fun b o e => Heap.get?_push_of_some _ e
  have Wk : Walks prog w A s.heap.objs.size [s.heap.objs.size, d] [s.heap.objs.size] W.length (fun i v => ∃ k x t, W[i]? = some (k, x) ∧ v = Value.int k t) (fun i h => h.IsKeyIter s.heap.objs.size d i kvs.length ep ∧ h.DictAt (intKind prog w) d kvs ep) := by
    rw [← hl]
    refine (Walks.dictKeys (knd := intKind prog w) hh s.heap.objs.size d hne kvs ep).weaken ?_
    rintro i v ⟨k, x, hkx, hkey⟩
    obtain ⟨n, t, hW, _⟩ := hv.get hkx
    obtain ⟨u, rfl⟩ := Value.isInt_shape hkey
    exact ⟨k, n, u, hW, rfl⟩
  refine ⟨s.heap.objs.size, W.length, _, fun nw => (d, oD) ∈ nw, nw, rfl, ⟨_, _, Wk, ?_, ?_, ⟨⟨_, Heap.get?_push_size _ rfl, rfl, rfl⟩, hat.push _⟩, ?_, F.keeps up, N.grown up, Nat.ne_of_gt F.ns.lt, next_is_new F, fun p hp => Nat.ne_of_lt (Heap.lt_size (N p hp).1), hm⟩, R _ ?_ fun p hp => Nat.lt_of_lt_of_le (Heap.lt_size (N p hp).1) (by rw [Heap.size_push]; exact Nat.le_succ _)⟩
  · intro i h st; obtain ⟨o, e, _⟩ := st.1; exact ⟨o, e⟩
  · intro i h h' o nw' st e e' _ Nn hS
    obtain ⟨⟨o', q, r⟩, _⟩ := st
    rw [e] at q; cases q
    exact ⟨⟨o, e', r⟩, at_ _ (Nn _ hS).1⟩
  · intro b hb
    show b < (s.heap.push _).objs.size
    rw [Heap.size_push]
    rcases List.mem_cons.mp hb with rfl | hb
    · exact Nat.lt_succ_self _
    · rw [List.mem_singleton.mp hb]; exact Nat.lt_succ_of_lt hat.lt_size
  · rw [Heap.size_push]; exact Nat.le_succ _
theorem len3 {vs : List Value} {a : Int} {l : List Int} (_ : IntsAre vs ([a] ++ List.take 2 l)) : ([a] ++ List.take 2 l).length ≤ 1000 := by
  simp only [List.length_append, List.length_take, List.length_singleton]; omega
theorem wtab3 {vs : List Value} {a : Int} {l : List Int} (_ : IntsAre vs ([a] ++ List.take 2 l)) : WOk (wtab ([a] ++ List.take 2 l)) ∧ (wtab ([a] ++ List.take 2 l)).length ≤ 3 ∧ wtab ([a] ++ List.take 2 l) ≠ [] :=
  wtab_is _ (by simp) (by simp only [List.length_append, List.length_take, List.length_singleton]; omega)
end
end Mine
end
section
open PySem PySem.W PyProof.Rows PySem.Calls
set_option maxRecDepth 100000
set_option maxHeartbeats 2000000
namespace Mine
/-- the number, drawn -/
def numOf (l : List Int) : Int := l.foldl (fun n v => n * 16 + (v.fdiv 64).fmod 16) 4868
theorem numOf_snoc (l : List Int) (v : Int) : numOf (l ++ [v]) = numOf l * 16 + (v.fdiv 64).fmod 16 := by simp [numOf]
theorem num_fold : ∀ (l : List Int) (n : Int) (k : Nat), 0 ≤ n → n < 16 ^ k → 0 ≤ l.foldl (fun n v => n * 16 + (v.fdiv 64).fmod 16) n ∧ l.foldl (fun n v => n * 16 + (v.fdiv 64).fmod 16) n < 16 ^ (k + l.length)
  | [], n, k, h0, h1 => ⟨h0, by simpa using h1⟩
  | v :: l, n, k, h0, h1 => by
    have a1 : 0 ≤ (v.fdiv 64).fmod 16 := Int.fmod_nonneg_of_pos _ (by decide)
    have a2 : (v.fdiv 64).fmod 16 < 16 := Int.fmod_lt_of_pos _ (by decide)
    have h2 : (16 : Int) ^ (k + 1) = 16 ^ k * 16 := Int.pow_succ 16 k
    have := num_fold l (n * 16 + (v.fdiv 64).fmod 16) (k + 1) (by omega) (by omega)
    rw [List.foldl_cons, List.length_cons, show k + (l.length + 1) = k + 1 + l.length by omega]
    exact this
theorem numOf_bound {l : List Int} (h : l.length ≤ 2) : 0 ≤ numOf l ∧ numOf l < 16 ^ 6 := by
  have := num_fold l 4868 4 (by decide) (by decide)
  refine ⟨this.1, Int.lt_of_lt_of_le this.2 ?_⟩
  have h3 : (16 : Int) ^ (4 + l.length) ≤ 16 ^ 6 := by
    have : l.length = 0 ∨ l.length = 1 ∨ l.length = 2 := by omega
    rcases this with e | e | e <;> rw [e] <;> decide
  exact h3
structure NumAt {vs : List Value} {ns : List Int} (h : IntsAre vs ns) (i : Nat) (x : Int) : Prop where
  eq : x = numOf (ns.take i)
  lo : 0 ≤ x
  hi : x < 16777216
theorem NumAt.start {vs : List Value} {ns : List Int} (h : IntsAre vs ns) : NumAt h 0 4868 := ⟨by simp [numOf], by decide, by decide⟩
theorem NumAt.next {vs : List Value} {ns : List Int} {h : IntsAre vs ns} {i : Nat} {x k : Int} (a : NumAt h i x) (hk : ns[i]? = some k) (hl : ns.length ≤ 2) : NumAt h (i + 1) (x * 16 + (k.fdiv 64).fmod 16) := by
  have e : x * 16 + (k.fdiv 64).fmod 16 = numOf (ns.take (i + 1)) := by
    rw [List.take_add_one, hk, a.eq]
    exact (numOf_snoc _ _).symm
  have hb := numOf_bound (l := ns.take (i + 1)) (by rw [List.length_take]; omega)
  refine ⟨e, by rw [e]; exact hb.1, ?_⟩
  have h2 := hb.2
  rw [← e] at h2
  have : (16 : Int) ^ 6 = 16777216 := by decide
  omega
theorem NumAt.mul {vs : List Value} {ns : List Int} {h : IntsAre vs ns} {i : Nat} {x : Int} (a : NumAt h i x) : IntMulOk x 16 := by
  refine IntMulOk.of_bits ?_ (by decide +kernel)
  have : x = ((x.toNat : Nat) : Int) := (Int.toNat_of_nonneg a.lo).symm
  rw [this]
  exact bits_of_lt (k := 6) (by have := a.hi; have : (16:Nat)^6 = 16777216 := by decide
                                omega) (by decide)
theorem NumAt.whole {vs : List Value} {ns : List Int} {h : IntsAre vs ns} {n : Nat} {x : Int} (a : NumAt h n x) (hn : n = vs.toArray.size) : x = numOf ns := by
  have := a.eq
  rwa [List.take_of_length_le (by rw [hn, List.size_toArray, h.length]; exact Nat.le_refl _)] at this
theorem digs_len {n k : Nat} (h : n < 16 ^ k) : (digs n).length ≤ k := by
  induction k generalizing n with
  | zero => have : n = 0 := by simpa using h
            subst this; simp [digs_zero]
  | succ k ih =>
    by_cases h0 : n = 0
    · subst h0; simp [digs_zero]
    · rw [digs_pos h0, List.length_append, List.length_singleton]
      have : n / 16 < 16 ^ k := by rw [Nat.pow_succ] at h; omega
      have := ih this
      omega
/-- a frame's one name beside what a loop sets -/
theorem over_start {x n : Str} {v : Option Value} {m0 : Str → Option Value} (h : x ≠ n) : (fun y => if y = n then v else m0 y) = fun y => if y = x then m0 x else if y = n then v else m0 y := by
  funext y
  by_cases e : y = x
  · subst e; simp [h]
  · simp [e]
theorem over_turn {x n : Str} {a b c d : Option Value} {m0 : Str → Option Value} (h : x ≠ n) : (fun y => if y = n then a else if y = x then b else if y = x then c else if y = n then d else m0 y) = fun y => if y = x then b else if y = n then a else m0 y := by
  funext y
  by_cases e : y = x
  · subst e; simp [h]
  · by_cases e2 : y = n
    · subst e2; simp [e]
    · simp [e, e2]
/-- the table of words -/
def tkv (W : List (Int × Int)) : List (Nat × List Nat) := W.map fun p => (p.1.toNat, digs p.2.toNat)
theorem digs_two {x : Int} (h : x ≤ 51) : (digs x.toNat).length ≤ 2 := digs_len (by omega)
theorem tkv_words {W : List (Int × Int)} (h : WOk W) (h3 : W.length ≤ 3) (hne : W ≠ []) : Words (tkv W) where
  two := fun p hp => by
    obtain ⟨q, hq, rfl⟩ := List.mem_map.mp hp
    exact digs_two (h.val q hq).2
  low := fun p hp d hd => by
    obtain ⟨q, hq, rfl⟩ := List.mem_map.mp hp
    exact digs_lt _ d hd
  keys := by
    have e : (tkv W).map (·.1) = (W.map (·.1)).map Int.toNat := by simp [tkv]
    rw [e]
    have hn := h.nodup
    have hk := h.key
    clear e h3 hne h
    induction W with
    | nil => simp
    | cons p r ih =>
      rw [List.map_cons, List.nodup_cons] at hn
      rw [List.map_cons, List.map_cons, List.nodup_cons]
      refine ⟨fun hm => hn.1 ?_, ih hn.2 fun q hq => hk q (List.mem_cons_of_mem _ hq)⟩
      obtain ⟨a, ha, e⟩ := List.mem_map.mp hm
      obtain ⟨q, hq, rfl⟩ := List.mem_map.mp ha
      have h1 := hk p List.mem_cons_self
      have h2 := hk q (List.mem_cons_of_mem _ hq)
      have : q.1 = p.1 := by omega
      exact this ▸ List.mem_map_of_mem hq
  some := by simp [tkv, hne]
  few := by simp [tkv, h3]
theorem abcd {k : Int} (h0 : 0 ≤ k) (h4 : k < 4) : Txt.item (Str.ofString "ABCD") k = tx [k.toNat] := by
  have : k = 0 ∨ k = 1 ∨ k = 2 ∨ k = 3 := by omega
  rcases this with h | h | h | h <;> subst h <;> decide +kernel
section
variable {prog : Program} {w : World} {A : Around} {E : Value → Shared → Prop} {s : Shared} {h₀ : Heap} {L : Addr} {m : Str → Option Value}
theorem Vals.at {kvs : List (Int × Value)} {W : List (Int × Int)} (h : Vals kvs W) : ∀ {i : Nat} {k x : Int}, W[i]? = some (k, x) → ∃ t, kvs[i]? = some (k, .int x t) := by
  induction h with
  | nil => intro i k v e; simp at e
  | cons k' x' t' _ ih =>
    intro i k v e
    cases i with
    | zero => simp at e; obtain ⟨rfl, rfl⟩ := e; exact ⟨t', rfl⟩
    | succ j => simpa using ih (by simpa using e)
theorem worth_item {value slice : Expr} {nw : List (Addr × Obj)} {d : Addr} {oD : Obj} {W : List (Int × Int)} {i : Nat} {k x : Int} {u : Tok} {Q : Value → Shared → Prop} (N : News h₀ L s.heap nw) (hm : (d, oD) ∈ nw) (ho : WObj prog w W oD) (hW : W[i]? = some (k, x))
    (h : ∀ t, Q (.int x t) { s with toks := s.toks + 1 })
    (hs : subscripted slice false (.ref d) (.int k u) = operate [.ref d, .int k u] (getItem (.ref d) (.int k u)) := by with_unfolding_all rfl) :
    wpAny (model prog w) A (subscriptTail value slice (.ref d) (.int k u)) Q E s := by
  obtain ⟨kvs, hdo, hv⟩ := ho
  obtain ⟨t, ht⟩ := hv.at hW
  have hd : s.heap.DictOf (intKind prog w) d kvs := Heap.dictOf_iff.mpr ⟨oD, (N _ hm).1, hdo⟩
  have hn : (kvs.map (·.1)).Nodup := by obtain ⟨_, _, _, _, _, _, hn⟩ := hdo; exact hn
  exact tail_any hd.mapOf.typeIs slot_dict_getitem.lookup (wpAny_getItem_of (k := k) (by simp [intKind, Value.isInt]) hd.mapOf (valueAt_of_get hn ht) (h t)) hs
/-- the table's first i entries -/
inductive TRel (w : World) (W : List (Int × Int)) (i : Nat) (oD : Obj) : Prop where
  | mk (es : List DictEntry) (n : Nat) (e : oD = dictOf es n) (he : Ents w es (txs (tkv (W.take i))))
theorem TRel.nil {W : List (Int × Int)} : TRel w W 0 (dictOf [] 0) := ⟨[], 0, rfl, .nil⟩
theorem txs_append (a b : List (Nat × List Nat)) : txs (a ++ b) = txs a ++ txs b := by simp [txs]
theorem tkey_new {W : List (Int × Int)} (hn : (W.map (·.1)).Nodup) (hk : ∀ q ∈ W, 0 ≤ q.1 ∧ q.1 < 4) {i : Nat} {k x : Int} (hW : W[i]? = some (k, x)) : tx [k.toNat] ∉ (txs (tkv (W.take i))).map (·.1) := by
  intro hm
  simp only [txs, tkv, List.map_map, List.mem_map] at hm
  obtain ⟨q, hq, e⟩ := hm
  simp only [Function.comp] at e
  have e2 := tx_inj e
  have e3 : q.1.toNat = k.toNat := by simpa using e2
  have hqm : q ∈ W := List.mem_of_mem_take hq
  have h1 := hk q hqm
  have hi : i < W.length := (List.getElem?_eq_some_iff.mp hW).1
  have hwi : W[i] = (k, x) := (List.getElem?_eq_some_iff.mp hW).2
  have h2 := hk (k, x) (hwi ▸ List.getElem_mem hi)
  have e4 : q.1 = k := by have : (k, x).1 = k := rfl
                          omega
  have e1 : W = W.take i ++ (k, x) :: W.drop (i + 1) := by
    have := List.take_append_drop i W
    rw [List.drop_eq_getElem_cons hi, hwi] at this
    exact this.symm
  rw [e1, List.map_append, List.map_cons, List.nodup_append] at hn
  exact hn.2.2 _ (List.mem_map_of_mem hq) _ List.mem_cons_self e4
theorem cend_table {W : List (Int × Int)} {i : Nat} {I C D : Addr} {oI oC oD : Obj} {k x : Int} {t u : Tok} {nw all : List (Addr × Obj)} {s₁ : Shared} {h : Heap} {tk : Nat} (F : Fr h₀ L h m) (N : News h₀ L h all)
    (sub : ∀ p ∈ (I, oI) :: (C, oC) :: (D, oD) :: nw, p ∈ all) (off : LCg.Off3 I C D nw) (ne : (@Ne Nat I C) ∧ (@Ne Nat I D) ∧ (@Ne Nat C D)) (ho : TRel w W i oD) (hW : W[i]? = some (k, x)) (hok : WOk W) (h3 : W.length ≤ 3)
    (hu : u ≠ 0) (ht : t ≠ 0) (hut : u ≠ t) :
    wpAny (model prog w) A (dictSet D (.str (Txt.item (Str.ofString "ABCD") k) u) (.str (wd x.toNat) t)) (fun _ s₆ => CEnd h₀ L m I oI C oC D (fun oD nw' => nw' = nw ∧ TRel w W (i + 1) oD) s₁ s₆) E { s₁ with heap := h, toks := tk } := by
  have zI := N _ (sub (I, oI) List.mem_cons_self)
  have zC := N _ (sub (C, oC) (List.mem_cons_of_mem _ List.mem_cons_self))
  have zD := N _ (sub (D, oD) (List.mem_cons_of_mem _ (List.mem_cons_of_mem _ List.mem_cons_self)))
  obtain ⟨es, n, rfl, he⟩ := ho
  have hi : i < W.length := (List.getElem?_eq_some_iff.mp hW).1
  have hwi : W[i] = (k, x) := (List.getElem?_eq_some_iff.mp hW).2
  have hk := hok.key (k, x) (hwi ▸ List.getElem_mem hi)
  rw [abcd hk.1 hk.2]
  refine set_new (s := { s₁ with heap := h, toks := tk }) zD.1 he (tkey_new hok.nodup hok.key hW) (by rw [he.length]; simp [txs, tkv]; omega) fun h₅ hD₅ hs₅ => ?_
  refine ⟨h₅, tk + 1, dictOf (es ++ [⟨hashStr w (tx [k.toNat]), .str (tx [k.toNat]) u, .str (wd x.toNat) t⟩]) (n + 1), nw, rfl, F.change hs₅ zD.2.1 zD.2.2, fun p hp => ?_, off, rfl, ⟨_, _, rfl, ?_⟩⟩
  · rcases List.mem_cons.mp hp with rfl | hp
    · exact ⟨hs₅.extBut _ _ ne.2.1 zI.1, zI.2⟩
    rcases List.mem_cons.mp hp with rfl | hp
    · exact ⟨hs₅.extBut _ _ ne.2.2 zC.1, zC.2⟩
    rcases List.mem_cons.mp hp with rfl | hp
    · exact ⟨hD₅, zD.2⟩
    · have z := N p (sub p (List.mem_cons_of_mem _ (List.mem_cons_of_mem _ (List.mem_cons_of_mem _ hp))))
      exact ⟨hs₅.extBut _ _ (off_ne off p hp) z.1, z.2⟩
  · have e1 : W.take (i + 1) = W.take i ++ [(k, x)] := by rw [List.take_add_one, hW]; rfl
    rw [e1]
    have e2 : txs (tkv (W.take i ++ [(k, x)])) = txs (tkv (W.take i)) ++ [(tx [k.toNat], wd x.toNat)] := by simp [txs, tkv, wd_tx]
    rw [e2]
    exact he.append (.cons ⟨u, t, rfl, rfl, rfl, hu, ht, .inr hut⟩ .nil)
theorem TRel.whole {W : List (Int × Int)} {n : Nat} {oD : Obj} (h : TRel w W n oD) (hn : n = W.length) : ∃ es k, oD = dictOf es k ∧ Ents w es (txs (tkv W)) := by
  obtain ⟨es, k, e, he⟩ := h
  rw [hn, List.take_length] at he
  exact ⟨es, k, e, he⟩
theorem pick8 {hh : Heap} {a b c d e f g h : Addr × Obj} (N : News h₀ L hh [a, b, c, d, e, f, g, h]) : ∃ nw, nw = [a, b, g, h] ∧ News h₀ L hh nw :=
  ⟨_, rfl, fun p hp => N p (by
    simp only [List.mem_cons, List.not_mem_nil, or_false] at hp ⊢
    rcases hp with h | h | h | h <;> simp [h])⟩
theorem drop1 {hh : Heap} {a b c d : Addr × Obj} (N : News h₀ L hh [a, b, c, d]) : News h₀ L hh [b, c, d] := fun p hp => N p (List.mem_cons_of_mem _ hp)
theorem len2 {vs : List Value} {l : List Int} {n : Nat} (_ : IntsAre vs (List.take (min 4 n - 2) l)) : (List.take (min 4 n - 2) l).length ≤ 2 := by rw [List.length_take]; omega
/-- the keys, as far as i -/
structure KeysTo (W : List (Int × Int)) (i : Nat) (ys : List Value) : Prop where
  are : IntsAre ys ((W.take i).map (·.1))
theorem KeysTo.snoc {W : List (Int × Int)} {i : Nat} {ys : List Value} {k x : Int} {t : Tok} (c : KeysTo W i ys) (hW : W[i]? = some (k, x)) : KeysTo W (i + 1) (ys ++ [.int k t]) := by
  refine ⟨?_⟩
  rw [List.take_add_one, hW, List.map_append]
  exact c.are.append (.cons _ _ .nil)
theorem KeysTo.whole {W : List (Int × Int)} {ys : List Value} (c : KeysTo W W.length ys) : IntsAre ys (W.map (·.1)) := by
  have := c.are
  rwa [List.take_length] at this
theorem key_at {W : List (Int × Int)} {i : Nat} {k : Int} (h : (W.map (·.1))[i]? = some k) : ∃ x, W[i]? = some (k, x) := by
  rw [List.getElem?_map] at h
  cases hW : W[i]? with
  | none => rw [hW] at h; cases h
  | some p => rw [hW] at h; cases h; exact ⟨p.2, rfl⟩
theorem WOk.key_at {W : List (Int × Int)} (hok : WOk W) {i : Nat} {k x : Int} (hW : W[i]? = some (k, x)) : (0 ≤ k ∧ k < 4) ∧ (0 ≤ x ∧ (digs x.toNat).length ≤ 4096) ∧ x ≤ 51 := by
  have hi : i < W.length := (List.getElem?_eq_some_iff.mp hW).1
  have hwi : W[i] = (k, x) := (List.getElem?_eq_some_iff.mp hW).2
  have h1 := hok.key (k, x) (hwi ▸ List.getElem_mem hi)
  have h2 := hok.val (k, x) (hwi ▸ List.getElem_mem hi)
  exact ⟨h1, ⟨h2.1, Nat.le_trans (digs_two h2.2) (by decide)⟩, h2.2⟩
theorem KeysTo.len {W : List (Int × Int)} {i : Nat} {ys : List Value} (c : KeysTo W i ys) (h3 : W.length ≤ 3) : ys.length ≤ sizeLine := by
  rw [c.are.length, List.length_map, List.length_take, sizeLine_eq]; omega
theorem num_pre {vs : List Value} {l : List Int} {n : Nat} (h : IntsAre vs (List.take (min 4 n - 2) l)) :
    0 ≤ (List.take (min 4 n - 2) l).foldl (fun n v => n * 16 + (v.fdiv 64).fmod 16) 4868 ∧ (digs ((List.take (min 4 n - 2) l).foldl (fun n v => n * 16 + (v.fdiv 64).fmod 16) (4868 : Int)).toNat).length ≤ 6 := by
  have hb := numOf_bound (len2 h)
  refine ⟨hb.1, digs_len ?_⟩
  have := hb.2
  have e : (16 : Int) ^ 6 = 16777216 := by decide
  have e2 : (16 : Nat) ^ 6 = 16777216 := by decide
  unfold numOf at this
  omega
theorem num_pre' {vs : List Value} {l : List Int} {n : Nat} (h : IntsAre vs (List.take (min 4 n - 2) l)) :
    0 ≤ (List.take (min 4 n - 2) l).foldl (fun n v => n * 16 + (v.fdiv 64).fmod 16) 4868 ∧ (digs ((List.take (min 4 n - 2) l).foldl (fun n v => n * 16 + (v.fdiv 64).fmod 16) (4868 : Int)).toNat).length ≤ 4096 :=
  ⟨(num_pre h).1, Nat.le_trans (num_pre h).2 (by decide)⟩
end
end Mine
end
section
open PySem PySem.W PyProof.Rows
namespace Mine
def val16 (l : List Nat) : Nat := l.foldl (fun a d => a * 16 + d) 0
def Mof (l : List Nat) : Nat × Nat := (val16 l, l.length)
theorem val_fold : ∀ (l : List Nat) (a : Nat), l.foldl (fun a d => a * 16 + d) a = a * 16 ^ l.length + val16 l
  | [], a => by simp [val16]
  | d :: l, a => by
    have h1 := val_fold l (a * 16 + d)
    have h2 := val_fold l (0 * 16 + d)
    simp only [val16, List.foldl_cons, List.length_cons] at h1 h2 ⊢
    rw [h1, h2, Nat.pow_succ, Nat.add_mul, Nat.zero_mul, Nat.zero_add]
    have e : a * 16 * 16 ^ l.length = a * (16 ^ l.length * 16) := by rw [Nat.mul_assoc, Nat.mul_comm 16]
    omega
theorem val_append (a b : List Nat) : val16 (a ++ b) = val16 a * 16 ^ b.length + val16 b := by
  rw [val16, List.foldl_append]
  exact val_fold b _
theorem jn_flat (F : Nat → List Nat) (l : List Nat) : jn (fun d => Mof (F d)) l = Mof (l.flatMap F) := by
  have key : ∀ (l acc : List Nat), l.foldl (jstep fun d => Mof (F d)) (Mof acc) = Mof (acc ++ l.flatMap F) := by
    intro l
    induction l with
    | nil => intro acc; simp
    | cons d r ih =>
      intro acc
      rw [List.foldl_cons, List.flatMap_cons]
      have e : jstep (fun d => Mof (F d)) (Mof acc) d = Mof (acc ++ F d) := by
        simp only [jstep, Mof, val_append, List.length_append]
      rw [e, ih, List.append_assoc]
  have := key l []
  simpa [jn, Mof, val16] using this
theorem rep1_flat (k : Nat) (v l : List Nat) : rep1 k v l = l.flatMap fun d => rep1 k v [d] := by
  induction l with
  | nil => rfl
  | cons d r ih => simp only [rep1, List.flatMap_cons] at ih ⊢; rw [ih]; simp
theorem phi_flat : ∀ (kvs : List (Nat × List Nat)) (l : List Nat), phi kvs l = l.flatMap fun d => phi kvs [d]
  | [], l => by simp [phi]
  | p :: r, l => by
    show phi r (rep1 p.1 p.2 l) = l.flatMap fun d => phi r (rep1 p.1 p.2 [d])
    rw [phi_flat r (rep1 p.1 p.2 l), rep1_flat, List.flatMap_assoc]
    congr 1
    funext d
    exact (phi_flat r _).symm
theorem phi_cons (k : Nat) (v : List Nat) (r : List (Nat × List Nat)) (d : Nat) : phi ((k, v) :: r) [d] = if d = k then phi r v else phi r [d] := by
  show phi r (rep1 k v [d]) = _
  by_cases h : d = k
  · simp [rep1, h]
  · simp [rep1, h]
/-- the parts after the table's entries r, from its last to its first -/
def Fr_ (F : Nat → List Nat) (r : List (Nat × List Nat)) (d : Nat) : List Nat := (phi r [d]).flatMap F
theorem fr_nil (F : Nat → List Nat) : Fr_ F [] = F := by funext d; simp [Fr_, phi]
theorem fr_cons (F : Nat → List Nat) (k : Nat) (v : List Nat) (r : List (Nat × List Nat)) (d : Nat) : Fr_ F ((k, v) :: r) d = if d = k then v.flatMap (Fr_ F r) else Fr_ F r d := by
  unfold Fr_
  rw [phi_cons]
  split
  · rw [phi_flat r v, List.flatMap_assoc]
  · rfl
theorem flat_fr (F : Nat → List Nat) (r : List (Nat × List Nat)) (l : List Nat) : l.flatMap (Fr_ F r) = (phi r l).flatMap F := by
  unfold Fr_
  rw [phi_flat r l, List.flatMap_assoc]
theorem val_lt : ∀ (l : List Nat), (∀ d ∈ l, d < 16) → val16 l < 16 ^ l.length := by
  intro l
  induction l with
  | nil => intro _; simp [val16]
  | cons d r ih =>
    intro h
    have h1 := ih fun x hx => h x (List.mem_cons_of_mem _ hx)
    have hd := h d List.mem_cons_self
    have e : val16 (d :: r) = d * 16 ^ r.length + val16 r := by
      have := val_fold r (0 * 16 + d)
      simpa [val16] using this
    rw [e, List.length_cons, Nat.pow_succ]
    have : (d + 1) * 16 ^ r.length ≤ 16 * 16 ^ r.length := Nat.mul_le_mul_right _ hd
    rw [Nat.add_mul] at this
    omega
theorem digs_val : ∀ (n : Nat) (l : List Nat), l.length = n → (∀ d ∈ l, d < 16) → l = List.replicate (l.length - (digs (val16 l)).length) 0 ++ digs (val16 l) ∧ (digs (val16 l)).length ≤ l.length := by
  intro n
  induction n with
  | zero =>
    intro l hl _
    have : l = [] := List.length_eq_zero_iff.mp hl
    subst this
    simp [val16, digs_zero]
  | succ n ih =>
    intro l hl h
    obtain ⟨l', d, rfl⟩ : ∃ l' d, l = l' ++ [d] := ⟨l.dropLast, l.getLast (by intro e; subst e; simp at hl), (List.dropLast_concat_getLast _).symm⟩
    have hl' : l'.length = n := by simpa using hl
    have hd : d < 16 := h d (by simp)
    have hi := ih l' hl' fun x hx => h x (by simp [hx])
    have e : val16 (l' ++ [d]) = val16 l' * 16 + d := by rw [val_append]; simp [val16]
    rw [e]
    by_cases h0 : val16 l' * 16 + d = 0
    · have h1 : val16 l' = 0 := by omega
      have h2 : d = 0 := by omega
      rw [h0, digs_zero]
      rw [h1, digs_zero] at hi
      refine ⟨?_, by simp⟩
      have := hi.1
      simp only [List.length_nil, Nat.sub_zero, List.append_nil] at this ⊢
      rw [h2]
      conv => lhs; rw [this]
      simp [List.replicate_succ']
    · rw [digs_pos h0]
      have e1 : (val16 l' * 16 + d) / 16 = val16 l' := by omega
      have e2 : (val16 l' * 16 + d) % 16 = d := by omega
      rw [e1, e2]
      refine ⟨?_, by simp; exact hi.2⟩
      have e3 : (l' ++ [d]).length - (digs (val16 l') ++ [d]).length = l'.length - (digs (val16 l')).length := by simp
      rw [e3, ← List.append_assoc, ← hi.1]
theorem pad_val : ∀ (l : List Nat), (∀ d ∈ l, d < 16) → (List.range l.length).map (fun j => val16 l / 16 ^ (l.length - 1 - j) % 16) = l
  | [], _ => rfl
  | d :: r, h => by
    have hd := h d List.mem_cons_self
    have hr := pad_val r fun x hx => h x (List.mem_cons_of_mem _ hx)
    have hv := val_lt r fun x hx => h x (List.mem_cons_of_mem _ hx)
    have e : val16 (d :: r) = d * 16 ^ r.length + val16 r := by
      have := val_fold r (0 * 16 + d)
      simpa [val16] using this
    rw [List.length_cons, List.range_succ_eq_map, List.map_cons, List.map_map]
    have hp : 0 < 16 ^ r.length := Nat.pow_pos (by decide)
    have a : val16 (d :: r) / 16 ^ (r.length + 1 - 1 - 0) % 16 = d := by
      rw [e, Nat.add_sub_cancel, Nat.sub_zero, Nat.mul_comm, Nat.mul_add_div hp, Nat.div_eq_of_lt hv]; omega
    rw [a]
    congr 1
    conv => rhs; rw [← hr]
    apply List.map_congr_left
    intro j hj
    have hj' : j < r.length := List.mem_range.mp hj
    simp only [Function.comp]
    have e1 : r.length + 1 - 1 - (j + 1) = r.length - 1 - j := by omega
    show val16 (d :: r) / 16 ^ (r.length + 1 - 1 - (j + 1)) % 16 = _
    rw [e1, e]
    have e2 : 16 ^ r.length = 16 ^ (r.length - 1 - j) * (16 * 16 ^ j) := by
      rw [← Nat.mul_assoc, ← Nat.pow_succ, ← Nat.pow_add]
      congr 1; omega
    have hq : 0 < 16 ^ (r.length - 1 - j) := Nat.pow_pos (by decide)
    rw [e2, show d * (16 ^ (r.length - 1 - j) * (16 * 16 ^ j)) = 16 ^ (r.length - 1 - j) * (d * (16 * 16 ^ j)) by rw [Nat.mul_left_comm], Nat.mul_add_div hq]
    have e3 : d * (16 * 16 ^ j) = 16 * (d * 16 ^ j) := Nat.mul_left_comm ..
    rw [e3, Nat.mul_add_mod]
end Mine
end
section
open PySem PySem.W PyProof.Rows PySem.Calls
set_option maxRecDepth 100000
set_option maxHeartbeats 2000000
namespace Mine
/-- a frame's names over what stands beneath -/
def bndM (m0 : Str → Option Value) : List (Str × Option Value) → Str → Option Value
  | [], y => m0 y
  | (k, v) :: r, y => if y = k then v else bndM m0 r y
structure BndMOn (ks : List Str) (m m0 : Str → Option Value) (r : List (Str × Option Value)) : Prop where
  on : ∀ y, y ∉ ks → m y = bndM m0 r y
theorem bndM_of {m m0 : Str → Option Value} {r : List (Str × Option Value)} (h : BndMOn [] m m0 r) : m = bndM m0 r := funext fun y => h.on y (fun q => nomatch q)
theorem bndM_cons {ks : List Str} {m m0 : Str → Option Value} {k : Str} {v : Option Value} {r : List (Str × Option Value)} (h1 : m k = v) (h2 : BndMOn (k :: ks) m m0 r) : BndMOn ks m m0 ((k, v) :: r) := ⟨fun y hy => by
  by_cases h : y = k
  · subst h; rw [h1]; simp [bndM]
  · rw [h2.on y (fun q => (List.mem_cons.mp q).elim h hy)]; simp only [bndM, if_neg h]⟩
theorem bndM_nil {ks : List Str} {m m0 : Str → Option Value} (h : ∀ y, y ∉ ks → m y = m0 y) : BndMOn ks m m0 [] := ⟨h⟩
theorem bndM_self {ks : List Str} {m : Str → Option Value} : BndMOn ks m m [] := ⟨fun _ _ => rfl⟩
theorem num_six {vs : List Value} {l : List Int} {n : Nat} (h : IntsAre vs (List.take (min 4 n - 2) l)) :
    ∃ k : Nat, (List.take (min 4 n - 2) l).foldl (fun n v => n * 16 + (v.fdiv 64).fmod 16) (4868 : Int) = (k : Int) ∧ (digs k).length ≤ 6 := by
  have := num_pre h
  exact ⟨_, (Int.toNat_of_nonneg this.1).symm, this.2⟩
/-- the parts, as far as i, beside one object that is kept apart -/
inductive PTurn (q0 : Addr × Obj) (nw0 : List (Addr × Obj)) (i : Nat) (oD : Obj) (all : List (Addr × Obj)) : Prop where
  | mk (nw : List (Addr × Obj)) (ys : List Value) (ea : all = q0 :: nw) (e : oD = LCg.lst ys) (hl : ys.length = i) (at' : ∀ j, j < i → ∃ a, ys[j]? = some (.ref a) ∧ PartAt nw a (j, 1)) (sub : ∀ p ∈ nw0, p ∈ nw) (off : ∀ p ∈ nw, p.1 ≠ q0.1)
theorem PTurn.nil {q0 : Addr × Obj} {nw0 : List (Addr × Obj)} (off : ∀ p ∈ nw0, p.1 ≠ q0.1) : PTurn q0 nw0 0 (LCg.lst []) (q0 :: nw0) := ⟨nw0, [], rfl, rfl, rfl, fun _ h => absurd h (Nat.not_lt_zero _), fun _ h => h, off⟩
theorem off_cons {I C D : Addr} {p : Addr × Obj} {nw : List (Addr × Obj)} (h : LCg.Off3 I C D nw) (hI : I < p.1) (hC : C < p.1) (hD : D < p.1) : LCg.Off3 I C D (p :: nw) := LCg.Off3.of fun q hq => by
  rcases List.mem_cons.mp hq with rfl | hq
  · exact ⟨Nat.ne_of_gt hI, Nat.ne_of_gt hC, Nat.ne_of_gt hD⟩
  · exact h.mem q hq
theorem off_swap {I C D : Addr} {p q : Addr × Obj} {nw : List (Addr × Obj)} (h : LCg.Off3 I C D (p :: q :: nw)) : LCg.Off3 I C D (q :: p :: nw) := LCg.Off3.of fun r hr => h.mem r (by
  simp only [List.mem_cons] at hr ⊢
  rcases hr with h | h | h <;> simp [h])
theorem rot3 {a b c d e : Addr × Obj} {nw : List (Addr × Obj)} : ∀ p ∈ a :: b :: c :: e :: d :: nw, p ∈ d :: a :: b :: c :: e :: nw := by
  intro p hp
  simp only [List.mem_cons] at hp ⊢
  rcases hp with h | h | h | h | h | h <;> simp [h]
/-- one figure's turn ends -/
theorem cend_part {prog : Program} {w : World} {A : Around} {E : Value → Shared → Prop} {h₀ : Heap} {L : Addr} {m : Str → Option Value} {I C D a : Addr} {oI oC o : Obj} {ys : List Value} {q0 : Addr × Obj} {nw0 nw : List (Addr × Obj)} {s₁ : Shared} {h : Heap} {tk i : Nat} (F : Fr h₀ L h m) (N : News h₀ L h ((a, o) :: (I, oI) :: (C, oC) :: (D, LCg.lst ys) :: q0 :: nw))
    (lt : I < a ∧ C < a ∧ D < a ∧ q0.1 < a ∧ AllLt a nw) (off : LCg.Off3 I C D (q0 :: nw)) (ne : (@Ne Nat I C) ∧ (@Ne Nat I D) ∧ (@Ne Nat C D)) (hi : i < 16) (hl : ys.length = i) (hat : ∀ j, j < i → ∃ a, ys[j]? = some (.ref a) ∧ PartAt nw a (j, 1)) (sub : ∀ p ∈ nw0, p ∈ nw) (hoff : ∀ p ∈ nw, p.1 ≠ q0.1) (ho : TupObj o (i, 1)) :
    wpAny (model prog w) A (call (.builtin "list.append") [.ref D, .ref a]) (fun _ s₅ => CEnd h₀ L m I oI C oC D (PTurn q0 nw0 (i + 1)) s₁ s₅) E { s₁ with heap := h, toks := tk } := by
  refine cend_append (nw := q0 :: (a, o) :: nw) F N rot3 (off_swap (off_cons off lt.1 lt.2.1 lt.2.2.1)) ne (by rw [hl, sizeLine_eq]; omega) ?_
  refine ⟨(a, o) :: nw, _, rfl, rfl, by simp [hl], fun j hj => ?_, fun p hp => List.mem_cons_of_mem _ (sub p hp), fun p hp => ?_⟩
  · rcases Nat.lt_or_ge j i with hlt | hge
    · obtain ⟨b, hb, hp⟩ := hat j hlt
      exact ⟨b, by rw [List.getElem?_append_left (by omega)]; exact hb, hp.mono fun q hq => List.mem_cons_of_mem _ hq⟩
    · have : j = i := by omega
      subst this
      exact ⟨a, by rw [List.getElem?_append_right (by omega)]; simp [hl], ⟨o, List.mem_cons_self, ho⟩⟩
  · rcases List.mem_cons.mp hp with rfl | hp
    · exact Nat.ne_of_gt lt.2.2.2.1
    · exact hoff p hp
theorem fig_tup {i : Nat} {t u : Tok} {n : Nat} : TupObj { cls := .type "tuple", data := .seq #[.int (0 + (i : Int) * 1) t, .int 1 u] n } (i, 1) := ⟨rfl, t, u, n, by rw [show (0 : Int) + (i : Int) * 1 = ((i : Nat) : Int) by omega]; rfl⟩
theorem lst_data (ys : List Value) : (LCg.lst ys).data = .seq ys.toArray ys.length ∧ (LCg.lst ys).cls = .type "list" := ⟨rfl, rfl⟩
theorem PTurn.parts {q0 : Addr × Obj} {nw0 : List (Addr × Obj)} {oD : Obj} {all : List (Addr × Obj)} (h : PTurn q0 nw0 16 oD all) : ∃ nw, all = q0 :: nw ∧ PartsObj nw oD (fun d => (d, 1)) ∧ (∀ p ∈ nw0, p ∈ nw) ∧ ∀ p ∈ nw, p.1 ≠ q0.1 := by
  obtain ⟨nw, ys, ea, rfl, hl, hat, sub, off⟩ := h
  exact ⟨nw, ea, ⟨ys, (lst_data ys).2, _, (lst_data ys).1, hl, fun i hi => hat i hi⟩, sub, off⟩
theorem news_some {h₀ h : Heap} {L : Addr} {a b : List (Addr × Obj)} (N : News h₀ L h a) (hs : ∀ p ∈ b, p ∈ a) : News h₀ L h b := fun p hp => N p (hs p hp)
theorem pick10 {hh h₀ : Heap} {L : Addr} {a b c d e f g i j k : Addr × Obj} (N : News h₀ L hh [a, b, c, d, e, f, g, i, j, k]) : News h₀ L hh [j, k, a, b, d] :=
  news_some N fun p hp => by
    simp only [List.mem_cons, List.not_mem_nil, or_false] at hp ⊢
    rcases hp with h | h | h | h | h <;> simp [h]
end Mine
end
section
open PySem PySem.W PyProof.Rows PySem.Calls
set_option maxRecDepth 100000
set_option maxHeartbeats 2000000
namespace Mine
/-- the table's calls, one behind another -/
def pw (kvs : List (Nat × List Nat)) : Nat → List Nat → List Nat
  | 0, l => l
  | i + 1, l => pw kvs i (phi kvs l)
theorem pw_phi (kvs : List (Nat × List Nat)) : ∀ (i : Nat) (l : List Nat), phi kvs (pw kvs i l) = pw kvs (i + 1) l
  | 0, _ => rfl
  | i + 1, l => pw_phi kvs i (phi kvs l)
theorem pw_flat (kvs : List (Nat × List Nat)) : ∀ (i : Nat) (l : List Nat), pw kvs i l = l.flatMap fun d => pw kvs i [d]
  | 0, l => by simp [pw]
  | i + 1, l => by
    show pw kvs i (phi kvs l) = l.flatMap fun d => pw kvs i (phi kvs [d])
    rw [pw_flat kvs i (phi kvs l), phi_flat kvs l, List.flatMap_assoc]
    congr 1
    funext d
    exact (pw_flat kvs i _).symm
theorem pw_lt {kvs : List (Nat × List Nat)} (h : ∀ p ∈ kvs, ∀ d ∈ p.2, d < 16) : ∀ (i : Nat) {l : List Nat}, (∀ d ∈ l, d < 16) → ∀ d ∈ pw kvs i l, d < 16
  | 0, _, hl => hl
  | i + 1, _, hl => pw_lt h i (phi_lt h hl)
theorem pw_len {kvs : List (Nat × List Nat)} (h : Words kvs) : ∀ (i : Nat) (l : List Nat), (pw kvs i l).length ≤ 8 ^ i * l.length
  | 0, l => by simp [pw]
  | i + 1, l => by
    have h1 := pw_len h i (phi kvs l)
    have h2 := Nat.mul_le_mul_left (8 ^ i) (phi_len8 h l)
    rw [Nat.pow_succ, Nat.mul_assoc]
    exact Nat.le_trans h1 h2
/-- the parts within a call, the table's entries from r on taken -/
def pin (kvs : List (Nat × List Nat)) (i : Nat) (r : List (Nat × List Nat)) (d : Nat) : List Nat := Fr_ (fun d => pw kvs i [d]) r d
def psIn (kvs : List (Nat × List Nat)) (i j : Nat) (d : Nat) : Nat × Nat := Mof (pin kvs i (kvs.drop (kvs.length - j)) d)
def psOut (kvs : List (Nat × List Nat)) (i : Nat) (d : Nat) : Nat × Nat := Mof (pw kvs i [d])
theorem psIn_zero (kvs : List (Nat × List Nat)) (i : Nat) : psIn kvs i 0 = psOut kvs i := by
  funext d
  unfold psIn psOut pin
  rw [Nat.sub_zero, List.drop_length, fr_nil]
theorem psIn_all (kvs : List (Nat × List Nat)) (i : Nat) : psIn kvs i kvs.length = psOut kvs (i + 1) := by
  funext d
  unfold psIn psOut pin Fr_
  rw [Nat.sub_self, List.drop_zero, ← pw_flat]
  rfl
theorem psOut_zero (kvs : List (Nat × List Nat)) : psOut kvs 0 = fun d => (d, 1) := by
  funext d
  simp [psOut, pw, Mof, val16]
theorem psIn_next (kvs : List (Nat × List Nat)) (i j k : Nat) (v : List Nat) (hj : j < kvs.length) (hk : kvs[kvs.length - 1 - j]? = some (k, v)) :
    psIn kvs i (j + 1) = fun d => if d = k then jn (psIn kvs i j) v else psIn kvs i j d := by
  have e : kvs.drop (kvs.length - (j + 1)) = (k, v) :: kvs.drop (kvs.length - j) := by
    have hi : kvs.length - 1 - j < kvs.length := by omega
    have := (List.getElem?_eq_some_iff.mp hk).2
    rw [show kvs.length - (j + 1) = kvs.length - 1 - j by omega, List.drop_eq_getElem_cons hi, this, show kvs.length - 1 - j + 1 = kvs.length - j by omega]
  funext d
  show Mof (pin kvs i (kvs.drop (kvs.length - (j + 1))) d) = _
  rw [e]
  unfold pin
  rw [fr_cons]
  split
  · show _ = jn (fun d => Mof (Fr_ (fun d => pw kvs i [d]) (kvs.drop (kvs.length - j)) d)) v
    rw [jn_flat]
  · rfl
theorem psIn_sized {kvs : List (Nat × List Nat)} (h : Words kvs) {i j : Nat} (hi : i ≤ 1) : Sized 64 (psIn kvs i j) := by
  refine ⟨fun d hd => ?_⟩
  have hl : (pin kvs i (kvs.drop (kvs.length - j)) d).length ≤ 64 := by
    unfold pin Fr_
    rw [← pw_flat]
    have h1 := pw_len h i (phi (kvs.drop (kvs.length - j)) [d])
    have h2 := phi_length (kvs := kvs.drop (kvs.length - j)) (fun p hp => h.two p (List.mem_of_mem_drop hp)) (l := [d])
    have h3 : (kvs.drop (kvs.length - j)).length ≤ 3 := by rw [List.length_drop]; have := h.few; omega
    have h4 := pow_few h3
    have h5 : 8 ^ i ≤ 8 := by
      have : i = 0 ∨ i = 1 := by omega
      rcases this with e | e <;> subst e <;> decide
    have h6 : (phi (kvs.drop (kvs.length - j)) [d]).length ≤ 8 := Nat.le_trans h2 (by rw [List.length_singleton, Nat.mul_one]; exact h4)
    exact Nat.le_trans h1 (Nat.le_trans (Nat.mul_le_mul h5 h6) (by decide))
  have hlt : ∀ x ∈ pin kvs i (kvs.drop (kvs.length - j)) d, x < 16 := by
    unfold pin Fr_
    rw [← pw_flat]
    exact pw_lt h.low i (phi_lt (fun p hp => h.low p (List.mem_of_mem_drop hp)) (by simpa using hd))
  exact ⟨hl, val_lt _ hlt⟩
theorem psOut_sized {kvs : List (Nat × List Nat)} (h : Words kvs) {i : Nat} (hi : i ≤ 2) : Sized 64 (psOut kvs i) := by
  have : i = 0 ∨ i = 1 ∨ i = 2 := by omega
  rcases this with e | e | e <;> subst e
  · rw [← psIn_zero]; exact psIn_sized h (by omega)
  · rw [← psIn_zero]; exact psIn_sized h (by omega)
  · rw [← psIn_all]; exact psIn_sized h (by omega)
theorem jn_out (kvs : List (Nat × List Nat)) (i : Nat) (l : List Nat) : jn (psOut kvs i) l = Mof (pw kvs i l) := by
  show jn (fun d => Mof (pw kvs i [d])) l = _
  rw [jn_flat, ← pw_flat]
/-- the parts' list -/
structure PV (nw : List (Addr × Obj)) (vs : List Value) (ps : Nat → Nat × Nat) : Prop where
  len : vs.length = 16
  at' : ∀ i, i < 16 → ∃ a, vs[i]? = some (.ref a) ∧ PartAt nw a (ps i)
theorem PV.mono {nw nw' : List (Addr × Obj)} {vs : List Value} {ps : Nat → Nat × Nat} (h : PV nw vs ps) (hs : ∀ q ∈ nw, q ∈ nw') : PV nw' vs ps := ⟨h.len, fun i hi => let ⟨a, e, x⟩ := h.at' i hi; ⟨a, e, x.mono hs⟩⟩
theorem PV.partsAt {nw news : List (Addr × Obj)} {vs : List Value} {ps : Nat → Nat × Nat} {pl : Addr} {c : Nat} (h : PV nw vs ps) (hm : (pl, W.listOf vs.toArray c) ∈ news) (hs : ∀ q ∈ nw, q ∈ news) : PartsAt news pl ps :=
  ⟨_, hm, vs, rfl, c, rfl, h.len, fun i hi => let ⟨a, e, x⟩ := h.at' i hi; ⟨a, e, x.mono hs⟩⟩
theorem PV.set {nw nw' : List (Addr × Obj)} {vs : List Value} {ps : Nat → Nat × Nat} {k : Nat} {a : Addr} {r : Nat × Nat} (h : PV nw vs ps) (hs : ∀ q ∈ nw, q ∈ nw') (hk : k < 16) (ha : PartAt nw' a r) :
    PV nw' (vs.take k ++ [.ref a] ++ vs.drop (k + 1)) (fun d => if d = k then r else ps d) := by
  have hl := h.len
  refine ⟨by simp [hl]; omega, fun i hi => ?_⟩
  have htl : (vs.take k).length = k := by rw [List.length_take]; omega
  rcases Nat.lt_trichotomy i k with hlt | heq | hgt
  · obtain ⟨b, hb, hp⟩ := h.at' i hi
    refine ⟨b, ?_, ?_⟩
    · rw [List.getElem?_append_left (by simp; omega), List.getElem?_append_left (by omega), List.getElem?_take_of_lt hlt]; exact hb
    · rw [if_neg (by omega)]; exact hp.mono hs
  · subst heq
    refine ⟨a, ?_, by rw [if_pos rfl]; exact ha⟩
    rw [List.getElem?_append_left (by simp; omega), List.getElem?_append_right (by omega), htl]; simp
  · obtain ⟨b, hb, hp⟩ := h.at' i hi
    refine ⟨b, ?_, ?_⟩
    · rw [List.getElem?_append_right (by simp; omega), List.getElem?_drop]
      have : k + 1 + (i - (vs.take k ++ [Value.ref a]).length) = i := by simp; omega
      rw [this]; exact hb
    · rw [if_neg (by omega)]; exact hp.mono hs
theorem PTurn.pv {q0 : Addr × Obj} {nw0 : List (Addr × Obj)} {oD : Obj} {all : List (Addr × Obj)} (h : PTurn q0 nw0 16 oD all) : ∃ nw vs c, all = q0 :: nw ∧ oD = W.listOf vs.toArray c ∧ PV nw vs (fun d => (d, 1)) ∧ (∀ p ∈ nw0, p ∈ nw) ∧ ∀ p ∈ nw, p.1 ≠ q0.1 := by
  obtain ⟨nw, ys, ea, rfl, hl, hat, sub, off⟩ := h
  exact ⟨nw, ys, _, ea, rfl, ⟨hl, fun i hi => hat i hi⟩, sub, off⟩
theorem six {h₀ h : Heap} {L : Addr} {a q0 q1 q2 q3 q4 : Addr × Obj} {nw : List (Addr × Obj)} (N : News h₀ L h (a :: q0 :: nw)) (hs : ∀ p ∈ [q1, q2, q3, q4], p ∈ nw) : News h₀ L h (a :: q0 :: q1 :: q2 :: q3 :: q4 :: nw) :=
  news_some N fun p hp => by
    simp only [List.mem_cons] at hp ⊢
    rcases hp with h | h | h | h | h | h | h
    · exact .inl h
    · exact .inr (.inl h)
    · exact .inr (.inr (hs p (by simp [h])))
    · exact .inr (.inr (hs p (by simp [h])))
    · exact .inr (.inr (hs p (by simp [h])))
    · exact .inr (.inr (hs p (by simp [h])))
    · exact .inr (.inr h)
/-- the frame's names in the law's loops -/
abbrev lawM (m0 : Str → Option Value) (num : Nat) (tn : Tok) (Dk Dt pl : Addr) (tv : Value) (a1 a2 a3 a4 a5 : Option Value) : Str → Option Value :=
  bndM m0 [(Str.ofString "parts", some (.ref pl)), (Str.ofString "text", some tv), (Str.ofString "number", some (.int (num : Int) tn)), (Str.ofString "keys", some (.ref Dk)), (Str.ofString "table", some (.ref Dt)), (Str.ofString "call", a1), (Str.ofString "k", a2), (Str.ofString "size", a3), (Str.ofString "word", a4), (Str.ofString "due", a5)]
/-- between the calls -/
inductive OutJ (m0 : Str → Option Value) (num : Nat) (tn : Tok) (Dk Dt : Addr) (cw : Addr) (q1 q2 q3 q4 : Addr × Obj) (kvs : List (Nat × List Nat)) (i : Nat) (m : Str → Option Value) (nx : List (Addr × Obj)) : Prop where
  | mk (pl : Addr) (vs : List Value) (c : Nat) (tt : Tok) (ow : Obj) (v0 : Option Value) (nw : List (Addr × Obj)) (a1 a2 a3 a4 a5 : Option Value)
    (em : m = lawM m0 num tn Dk Dt pl (.str (tx (pw kvs i (digs num))) tt) a1 a2 a3 a4 a5) (en : nx = (pl, W.listOf vs.toArray c) :: (cw, ow) :: q1 :: q2 :: q3 :: q4 :: nw)
    (ho : ow.data = .cell v0) (hp : PV nw vs (psOut kvs i)) (off : ∀ p ∈ nw, p.1 ≠ cw) (lp : pl ≠ cw)
/-- between the entries -/
inductive InJ (m0 : Str → Option Value) (num : Nat) (tn : Tok) (Dk Dt : Addr) (tv : Value) (a1 a3 a4 a5 : Option Value) (q5 q0 q1 q2 q3 q4 : Addr × Obj) (kvs : List (Nat × List Nat)) (i j : Nat) (m : Str → Option Value) (nx : List (Addr × Obj)) : Prop where
  | mk (pl : Addr) (vs : List Value) (c : Nat) (nw : List (Addr × Obj)) (a2 : Option Value)
    (em : m = lawM m0 num tn Dk Dt pl tv a1 a2 a3 a4 a5) (en : nx = q5 :: (pl, W.listOf vs.toArray c) :: q0 :: q1 :: q2 :: q3 :: q4 :: nw)
    (hp : PV nw vs (psIn kvs i j)) (off : ∀ p ∈ nw, p.1 ≠ q0.1) (lp : pl ≠ q0.1) (off5 : ∀ p ∈ nw, p.1 ≠ q5.1) (l5 : pl ≠ q5.1)
end Mine
end
section
open PySem PySem.W PyProof.Rows PySem.Calls
set_option maxRecDepth 100000
set_option maxHeartbeats 2000000
namespace Mine
theorem law_any {m0 : Str → Option Value} {num : Nat} {tn : Tok} {Dk Dt pl : Addr} {tv : Value} {a1 a2 a3 a4 a5 : Option Value} {m : Str → Option Value}
    (h1 : m (Str.ofString "parts") = some (.ref pl)) (h2 : m (Str.ofString "text") = some tv) (h3 : m (Str.ofString "number") = some (.int (num : Int) tn)) (h4 : m (Str.ofString "keys") = some (.ref Dk)) (h5 : m (Str.ofString "table") = some (.ref Dt))
    (h6 : m (Str.ofString "call") = a1) (h7 : m (Str.ofString "k") = a2) (h8 : m (Str.ofString "size") = a3) (h9 : m (Str.ofString "word") = a4) (h10 : m (Str.ofString "due") = a5)
    (hn : ∀ y, y ∉ [Str.ofString "due", Str.ofString "word", Str.ofString "size", Str.ofString "k", Str.ofString "call", Str.ofString "table", Str.ofString "keys", Str.ofString "number", Str.ofString "text", Str.ofString "parts"] → m y = m0 y) :
    m = lawM m0 num tn Dk Dt pl tv a1 a2 a3 a4 a5 :=
  bndM_of (bndM_cons h1 (bndM_cons h2 (bndM_cons h3 (bndM_cons h4 (bndM_cons h5 (bndM_cons h6 (bndM_cons h7 (bndM_cons h8 (bndM_cons h9 (bndM_cons h10 (bndM_nil hn)))))))))))
section
variable {prog : Program} {w : World} {A : Around} {E : Value → Shared → Prop} {s : Shared} {h₀ : Heap} {L : Addr} {m : Str → Option Value}
theorem keys_item {value slice : Expr} {news : List (Addr × Obj)} {Dk : Addr} {ks : List Value} {W : List (Int × Int)} {d : Int} {p : Nat} {kk x : Int} {u : Tok} {Q : Value → Shared → Prop} (N : News h₀ L s.heap news) (hm : (Dk, LCg.lst ks) ∈ news) (hK : IntsAre ks (W.map (·.1))) (e : d = ((p : Nat) : Int)) (hW : W[p]? = some (kk, x)) (hp : p ≤ 100)
    (h : ∀ t, Q (.int kk t) s)
    (hs : subscripted slice false (.ref Dk) (.int d u) = operate [.ref Dk, .int d u] (getItem (.ref Dk) (.int d u)) := by with_unfolding_all rfl) :
    wpAny (model prog w) A (subscriptTail value slice (.ref Dk) (.int d u)) Q E s := by
  have hL : s.heap.IsList Dk ks.toArray := ⟨_, (N _ hm).1, rfl, _, rfl⟩
  have hl : p < ks.length := by
    rw [hK.length, List.length_map]
    exact (List.getElem?_eq_some_iff.mp hW).1
  obtain ⟨k, t, hk, hv⟩ := ints_get hK (i := p) (v := ks[p]) (by simp [hl])
  have ek : k = kk := by
    rw [List.getElem?_map, hW] at hk
    simpa using hk.symm
  subst ek
  refine tail_any hL.typeIs slot_list_getitem.lookup (wpAny_getItem_list hL (by omega) (by omega) (by rw [e]; simp [hl]; exact hv) (h t)) hs
theorem slice_upto {value slice : Expr} {news : List (Addr × Obj)} {l : Addr} {vs : List Value} {c : Nat} {y : Int} {t : Tok} {Q : Value → Shared → Prop} (F : Fr h₀ L s.heap m) (N : News h₀ L s.heap news) (hm : (l, W.listOf vs.toArray c) ∈ news) (h16 : vs.length = 16) (h0 : 0 ≤ y)
    (h : ∀ D h', Fr h₀ L h' m → News h₀ L h' ((D, W.listOf (vs.take y.toNat).toArray 0) :: news) → (∀ p ∈ news, p.1 < D) → Q (.ref D) { s with heap := h' })
    (hs : subscripted slice false (.ref l) (.ref s.heap.objs.size) = operate [.ref s.heap.objs.size, .ref l] (getItem (.ref l) (.ref s.heap.objs.size)) := by with_unfolding_all rfl) (ht : ∀ r, letTemporaryGo value (.ref l) r = pure () := by intro _; with_unfolding_all rfl) :
    wpAny (model prog w) A (subscriptTail value slice (.ref l) (.ref s.heap.objs.size)) Q E { s with heap := s.heap.push { cls := .type "slice", data := .fields #[.none, .int y t, .none] } } := by
  have hL : s.heap.IsList l vs.toArray := ⟨_, (N _ hm).1, rfl, _, rfl⟩
  refine kmk_slice_lit F N hL .none (.int _ _) ?_ h hs ht (by rw [List.size_toArray, h16, sizeLine_eq]; omega)
  have e : sliceBounds none (some y) none vs.toArray.size = (((0 : Nat) : Int), ((min y.toNat vs.toArray.size : Nat) : Int), 1) := by
    simp only [sliceBounds, Option.getD_none, show (1 : Int) > 0 by decide, if_true, if_neg (show ¬ (y < 0) by omega)]
    congr 1
    congr 1
    omega
  rw [kmk_pick_nat _ e]
  show (vs.drop 0).take (min y.toNat vs.toArray.size - 0) = _
  rw [List.drop_zero, Nat.sub_zero, List.size_toArray, kmk_take_min]
theorem slice_from {value slice : Expr} {news : List (Addr × Obj)} {l : Addr} {vs : List Value} {c : Nat} {x : Int} {t : Tok} {Q : Value → Shared → Prop} (F : Fr h₀ L s.heap m) (N : News h₀ L s.heap news) (hm : (l, W.listOf vs.toArray c) ∈ news) (h16 : vs.length = 16) (h0 : 0 ≤ x)
    (h : ∀ D h', Fr h₀ L h' m → News h₀ L h' ((D, W.listOf (vs.drop x.toNat).toArray 0) :: news) → (∀ p ∈ news, p.1 < D) → Q (.ref D) { s with heap := h' })
    (hs : subscripted slice false (.ref l) (.ref s.heap.objs.size) = operate [.ref s.heap.objs.size, .ref l] (getItem (.ref l) (.ref s.heap.objs.size)) := by with_unfolding_all rfl) (ht : ∀ r, letTemporaryGo value (.ref l) r = pure () := by intro _; with_unfolding_all rfl) :
    wpAny (model prog w) A (subscriptTail value slice (.ref l) (.ref s.heap.objs.size)) Q E { s with heap := s.heap.push { cls := .type "slice", data := .fields #[.int x t, .none, .none] } } := by
  have hL : s.heap.IsList l vs.toArray := ⟨_, (N _ hm).1, rfl, _, rfl⟩
  refine kmk_slice_lit F N hL (.int _ _) .none ?_ h hs ht (by rw [List.size_toArray, h16, sizeLine_eq]; omega)
  have e : sliceBounds (some x) none none vs.toArray.size = (((min x.toNat vs.toArray.size : Nat) : Int), ((vs.toArray.size : Nat) : Int), 1) := by
    simp only [sliceBounds, Option.getD_none, show (1 : Int) > 0 by decide, if_true, if_neg (show ¬ (x < 0) by omega)]
    congr 1
    omega
  rw [kmk_pick_nat _ e]
  show (vs.drop (min x.toNat vs.toArray.size)).take (vs.toArray.size - min x.toNat vs.toArray.size) = _
  rw [List.size_toArray, kmk_drop_min, List.take_of_length_le (by rw [List.length_drop]; omega)]
theorem add_K {news : List (Addr × Obj)} {a b : Addr} {vs ws : List Value} {c d : Nat} {Q : Value → Shared → Prop} (F : Fr h₀ L s.heap m) (N : News h₀ L s.heap news) (ha : (a, W.listOf vs.toArray c) ∈ news) (hb : (b, W.listOf ws.toArray d) ∈ news) (hz : vs.length + ws.length ≤ 100)
    (h : ∀ D h', Fr h₀ L h' m → News h₀ L h' ((D, W.listOf (vs ++ ws).toArray 0) :: news) → (∀ p ∈ news, p.1 < D) → Q (.ref D) { s with heap := h' }) :
    wpAny (model prog w) A (binaryOp .Add (.ref a) (.ref b)) Q E s := by
  have hA : s.heap.IsList a vs.toArray := ⟨_, (N _ ha).1, rfl, _, rfl⟩
  have hB : s.heap.IsList b ws.toArray := ⟨_, (N _ hb).1, rfl, _, rfl⟩
  exact add_lists F N hA hB (fun h' F' N' => h _ h' F' N' fun p hp => Heap.lt_size (N p hp).1) (by rw [sizeLine_eq]; omega)
end
theorem tkv_get {W : List (Int × Int)} {p : Nat} {kn : Nat} {x : Int} (h : W[p]? = some ((kn : Int), x)) : (tkv W)[p]? = some (kn, digs x.toNat) := by
  unfold tkv
  rw [List.getElem?_map, h]
  rfl
theorem inner_end {h₀ : Heap} {L : Addr} {s₁ : Shared} {h : Heap} {tk : Nat} {m : Str → Option Value} {m0 : Str → Option Value} {num : Nat} {tn : Tok} {Dk Dt : Addr} {tv : Value} {a1 a2 a3 a4 a5 : Option Value} {W0 : List (Int × Int)} {i j kn : Nat} {x : Int} {vs : List Value} {d1 d9 I2 : Addr} {o9 oI2 : Obj} {x1 x2 x3 x4 x5 q5 q0 q1 q2 q3 q4 : Addr × Obj} {nw : List (Addr × Obj)} (F : Fr h₀ L h m)
    (N : News h₀ L h ((d1, W.listOf (List.take (kn : Int).toNat vs ++ [Value.ref d9] ++ List.drop ((kn : Int) + 1).toNat vs).toArray 0) :: x1 :: x2 :: x3 :: (d9, o9) :: x4 :: (I2, oI2) :: q5 :: x5 :: q0 :: q1 :: q2 :: q3 :: q4 :: nw))
    (em : m = lawM m0 num tn Dk Dt d1 tv a1 a2 a3 a4 a5) (tu : TupObj o9 (jn (psIn (tkv W0) i j) (digs x.toNat))) (hp : PV nw vs (psIn (tkv W0) i j)) (hj : j < W0.length) (hW : W0[W0.length - 1 - j]? = some ((kn : Int), x)) (hk : (0 : Int) ≤ (kn : Int) ∧ (kn : Int) < 4)
    (c1 : @LT.lt Nat _ I2 d1) (c2 : @LT.lt Nat _ I2 d9) (c3 : @LT.lt Nat _ q0.1 d1) (c4 : @LT.lt Nat _ q0.1 d9) (c5 : @LT.lt Nat _ q5.1 d1) (c6 : @LT.lt Nat _ q5.1 d9) (offI : ∀ p ∈ q5 :: x5 :: q0 :: q1 :: q2 :: q3 :: q4 :: nw, p.1 ≠ I2) (off : ∀ p ∈ nw, p.1 ≠ q0.1) (off5 : ∀ p ∈ nw, p.1 ≠ q5.1) :
    TEnd h₀ L I2 oI2 (InJ m0 num tn Dk Dt tv a1 a3 a4 a5 q5 q0 q1 q2 q3 q4 (tkv W0) i (j + 1)) s₁ { s₁ with heap := h, toks := tk } := by
  have hlen : (tkv W0).length = W0.length := by simp [tkv]
  have hp' := hp.set (nw' := (d9, o9) :: nw) (fun q hq => List.mem_cons_of_mem _ hq) (k := kn) (by omega) ⟨o9, List.mem_cons_self, tu⟩
  rw [← psIn_next (tkv W0) i j kn (digs x.toNat) (by omega) (tkv_get (by rw [hlen]; exact hW))] at hp'
  refine TEnd.intro (q5 :: (d1, W.listOf (List.take (kn : Int).toNat vs ++ [Value.ref d9] ++ List.drop ((kn : Int) + 1).toNat vs).toArray 0) :: q0 :: q1 :: q2 :: q3 :: q4 :: (d9, o9) :: nw) F N ?_ ?_ (InJ.mk d1 _ 0 ((d9, o9) :: nw) a2 em rfl hp' ?_ (Nat.ne_of_gt c3) ?_ (Nat.ne_of_gt c5))
  · intro p hp
    simp only [List.mem_cons] at hp ⊢
    rcases hp with h | h | h | h | h | h | h | h | h | h <;> simp [h]
  · intro p hp
    simp only [List.mem_cons] at hp
    rcases hp with h | h | h | h | h | h | h | h | h
    · exact offI p (by simp [h])
    · rw [h]; exact Nat.ne_of_gt c1
    · exact offI p (by simp [h])
    · exact offI p (by simp [h])
    · exact offI p (by simp [h])
    · exact offI p (by simp [h])
    · exact offI p (by simp [h])
    · rw [h]; exact Nat.ne_of_gt c2
    · exact offI p (by simp [h])
  · intro p hp
    rcases List.mem_cons.mp hp with rfl | hp
    · exact Nat.ne_of_gt c4
    · exact off p hp
  · intro p hp
    rcases List.mem_cons.mp hp with rfl | hp
    · exact Nat.ne_of_gt c6
    · exact off5 p hp
/-- the due text's letters, as far as j -/
structure DueTo (r : List Nat) (j : Nat) (ys : List Value) : Prop where
  are : StrsAre ys ((r.take j).map fun d => tx [d])
theorem DueTo.nil {r : List Nat} : DueTo r 0 [] := ⟨.nil⟩
theorem DueTo.snoc {r : List Nat} {j : Nat} {ys : List Value} {d : Nat} {t : Tok} (h : DueTo r j ys) (hd : r[j]? = some d) : DueTo r (j + 1) (ys ++ [.str (tx [d]) t]) := by
  refine ⟨?_⟩
  rw [List.take_add_one, hd]
  have := kct_snoc (t := t) (y := tx [d]) h.are
  simpa using this
theorem DueTo.length {r : List Nat} {j : Nat} {ys : List Value} (h : DueTo r j ys) : ys.length ≤ r.length := by
  rw [h.are.length, List.length_map, List.length_take]; omega
theorem join_tx (r : List Nat) : Txt.join (Str.ofString "") (r.map fun d => tx [d]) = tx r := by
  apply str_ext
  rw [join_flat, tx_list, List.map_map]
  induction r with
  | nil => rfl
  | cons d r ih => simp only [List.map_cons, List.flatten_cons, ih]; simp [tx_list]
theorem digit_at {r : List Nat} (h : ∀ d ∈ r, d < 16) {j : Nat} (hj : j < r.length) : ∃ d, r[j]? = some d ∧ d < 16 ∧ val16 r / 16 ^ (r.length - 1 - j) % 16 = d := by
  have hp := pad_val r h
  have e := congrArg (fun l : List Nat => l[j]?) hp
  simp only [List.getElem?_map, List.getElem?_range hj, Option.map_some] at e
  refine ⟨_, e.symm, ?_, rfl⟩
  exact Nat.mod_lt _ (by decide)
theorem letters {d : Nat} (h : d < 16) : Txt.item (Str.ofString "ABCDEFGHIJKLMNOP") (d : Int) = tx [d] := by
  have : d = 0 ∨ d = 1 ∨ d = 2 ∨ d = 3 ∨ d = 4 ∨ d = 5 ∨ d = 6 ∨ d = 7 ∨ d = 8 ∨ d = 9 ∨ d = 10 ∨ d = 11 ∨ d = 12 ∨ d = 13 ∨ d = 14 ∨ d = 15 := by omega
  rcases this with h | h | h | h | h | h | h | h | h | h | h | h | h | h | h | h <;> subst h <;> decide +kernel
section
variable {prog : Program} {w : World} {A : Around} {E : Value → Shared → Prop} {s : Shared}
theorem div16 {v k : Nat} {t u : Tok} {Q : Value → Shared → Prop} (hk : k ≤ 1000) (h : Q (.int ((v / 16 ^ k : Nat) : Int) s.toks) { s with toks := s.toks + 1 }) :
    wpAny (model prog w) A (binaryOp .FloorDiv (.int (v : Int) t) (.int ((16 : Int) ^ ((k : Nat) : Int).toNat) u)) Q E s := by
  have e : (16 : Int) ^ ((k : Nat) : Int).toNat = ((16 ^ k : Nat) : Int) := by simp
  have hp : 0 < 16 ^ k := Nat.pow_pos (by decide)
  rw [e]
  refine floordiv_int (by omega) ?_ (Or.inl (PyProof.noPylong_of_log2 ?_))
  · rw [Int.fdiv_eq_ediv_of_nonneg _ (Int.natCast_nonneg _), ← Int.natCast_ediv]
    exact h
  · rw [Int.natAbs_natCast, Nat.log2_lt (by omega), show (16 : Nat) = 2 ^ 4 from rfl, ← Nat.pow_mul]
    exact Nat.pow_lt_pow_right (by decide) (by omega)
theorem letter_at {q dg : Nat} {t u : Tok} {value slice : Expr} {Q : Value → Shared → Prop} (e : q % 16 = dg) (h : Q (.str (tx [dg]) s.toks) { s with toks := s.toks + 1 })
    (hs : ∀ i, subscripted slice false (.str (Str.ofString "ABCDEFGHIJKLMNOP") t) (.int i u) = operate [.str (Str.ofString "ABCDEFGHIJKLMNOP") t, .int i u] (getItem (.str (Str.ofString "ABCDEFGHIJKLMNOP") t) (.int i u)) := by intro _; with_unfolding_all rfl)
    (ht : ∀ r, letTemporaryGo value (.str (Str.ofString "ABCDEFGHIJKLMNOP") t) r = pure () := by intro _; with_unfolding_all rfl) :
    wpAny (model prog w) A (subscriptTail value slice (.str (Str.ofString "ABCDEFGHIJKLMNOP") t) (.int (((q : Nat) : Int).fmod 16) u)) Q E s := by
  have e2 : ((q : Nat) : Int).fmod 16 = ((dg : Nat) : Int) := by rw [Int.fmod_eq_emod_of_nonneg _ (by decide), ← e]; rfl
  have h16 : dg < 16 := by omega
  have hl : (Str.ofString "ABCDEFGHIJKLMNOP").length = 16 := by decide +kernel
  rw [e2]
  refine item_str (fitsSsize_of (N := 9223372036854775808) (by omega) (by omega) (Int.le_refl _)) (by omega) (by rw [hl]; omega) (fun _ => ?_) (hs _) ht
  rw [letters h16]
  exact h
end
theorem young_strs {vs : List Value} {ys : List Str} (h : StrsAre vs ys) : ∀ {a : List Value} {x : List Str}, Young 0 a x → Young 0 (a ++ vs) (x ++ ys) := by
  induction h with
  | nil => intro a x ha; simpa using ha
  | cons y t _ ih =>
    intro a x ha
    have := ih (ha.snoc (y := y) (t := t) (Nat.zero_le _))
    simpa using this
theorem ones_tx (l : List Nat) : ((l.map fun d => tx [d]).map (·.length)).sum = l.length := by
  induction l with
  | nil => rfl
  | cons a r ih => simp only [List.map_cons, List.sum_cons, ih, List.length_cons, tx_length]; simp; omega
theorem join_due {prog : Program} {w : World} {A : Around} {E : Value → Shared → Prop} {s : Shared} {h₀ : Heap} {L : Addr} {t : Tok} {D : Addr} {news : List (Addr × Obj)} {ys : List Value} {r : List Nat} {Q : Value → Shared → Prop} (N : News h₀ L s.heap news) (hm : (D, LCg.lst ys) ∈ news) (hj : StrsAre ys (r.map fun d => tx [d])) (hr : r.length ≤ 384)
    (h : ∀ t' k, Q (.str (tx r) t') { s with toks := k }) : wpAny (model prog w) A (call (.builtin "str.join") [.str (Str.ofString "") t, .ref D]) Q E s := by
  have hy : Young 0 ys (r.map fun d => tx [d]) := by simpa using young_strs hj Young.nil
  refine joinT ⟨_, (N _ hm).1, rfl, _, rfl⟩ hy (Nat.zero_le _) ?_ ?_
  · rw [ones_tx, List.length_map, show (Str.ofString "").length = 0 from by decide +kernel]; omega
  · intro t' k _
    rw [join_tx]
    exact h t' k
end Mine
end
section
open PySem PySem.W PyProof.Rows PySem.Calls
set_option maxRecDepth 100000
set_option maxHeartbeats 2000000
namespace Mine
theorem tx_append (a b : List Nat) : tx a ++ tx b = tx (a ++ b) := by
  apply str_ext
  rw [Str.cps_append, Array.toList_append, tx_list, tx_list, tx_list, List.map_append]
theorem txs_nodup {kvs : List (Nat × List Nat)} (h : (kvs.map (·.1)).Nodup) : ((txs kvs).map (·.1)).Nodup := by
  induction kvs with
  | nil => simp [txs]
  | cons p r ih =>
    rw [List.map_cons, List.nodup_cons] at h
    have hr := ih h.2
    show (tx [p.1] :: (txs r).map (·.1)).Nodup
    rw [List.nodup_cons]
    refine ⟨fun hm => h.1 ?_, hr⟩
    obtain ⟨q, hq, e⟩ := List.mem_map.mp hm
    obtain ⟨q', hq', rfl⟩ := List.mem_map.mp hq
    have := tx_inj e
    simp only [List.cons.injEq, and_true] at this
    exact this ▸ List.mem_map_of_mem hq'
section
variable {prog : Program} {w : World} {A : Around} {E : Value → Shared → Prop} {s : Shared}
theorem len_tx {l : List Nat} {t : Tok} {Q : Value → Shared → Prop} (hl : l.length ≤ 384) (h : Q (.int ((l.length : Nat) : Int) (s.toks + 1)) { s with toks := s.toks + 1 + 1 }) : wpAny (model prog w) A (call (.builtin "len") [.str (tx l) t]) Q E s := by
  have e := tx_length l
  refine PyProof.Rows.len_str (by rw [e]; omega) ?_
  rw [e]
  exact h
theorem mul_A {k : Nat} {t u : Tok} {n : Int} {Q : Value → Shared → Prop} (e : n = ((k : Nat) : Int)) (hk : k ≤ 384) (h : ∀ t' j, Q (.str (tx (List.replicate k 0)) t') { s with toks := j }) : wpAny (model prog w) A (binaryOp .Mult (.str (Str.ofString "A") t) (.int n u)) Q E s := by
  have hA : (Str.ofString "A").length = 1 := by decide +kernel
  have hm : MulOk (Str.ofString "A") n := mulOk_of 1 384 (by omega) (by omega) (by omega) (by decide) (by decide)
  have ex : Txt.mul (Str.ofString "A") n = tx (List.replicate k 0) := by
    apply str_ext
    rw [tx_list, e]
    unfold Txt.mul
    have hc : (Str.ofString "A").cps = #[65] := by decide +kernel
    have hf : ∀ (k : Nat) (a : Array Nat), ((List.replicate k #[65]).foldl (· ++ ·) a).toList = a.toList ++ List.replicate k 65 := by
      intro k
      induction k with
      | zero => intro a; simp
      | succ k ih => intro a; rw [List.replicate_succ, List.foldl_cons, ih]; simp [List.replicate_succ]
    split
    · have : k = 0 := by omega
      subst this; rfl
    · split
      · rename_i h1 h2
        rw [hA] at h2
        have : k = 1 := by
          simp at h2
          omega
        subst this; rw [hc]; rfl
      · rw [Int.toNat_natCast, hc]
        show ((List.replicate k #[65]).foldl (· ++ ·) #[]).toList = _
        rw [hf]; simp
  refine SB.mul hm ?_
  rw [ex]
  intro t' j
  exact h t' j
theorem quote_len : (Str.ofString "\"").length = 1 := by decide +kernel
theorem ne_same {x y : Str} {t u : Tok} {Q : Value → Shared → Prop} (e : x = y) (h : Q (.bool false) s) : wpAny (model prog w) A (compareOp .NotEq (.str x t) (.str y u)) Q E s := by
  subst e
  refine PyProof.Rows.ne_str ?_
  rw [show (x != x) = false by simp]
  exact h
end
theorem outer_end {h₀ : Heap} {L : Addr} {s₁ : Shared} {h : Heap} {tk : Nat} {m : Str → Option Value} {m0 : Str → Option Value} {num : Nat} {tn tt : Tok} {Dk Dt pl cw I : Addr} {a1 a2 a3 a4 a5 : Option Value} {kvs : List (Nat × List Nat)} {i c : Nat} {vs : List Value} {ow oI : Obj} {v : Option Value} {x1 x2 q1 q2 q3 q4 : Addr × Obj} {nw : List (Addr × Obj)} {r : List Nat} (F : Fr h₀ L h m)
    (N : News h₀ L h (x1 :: x2 :: (I, oI) :: (pl, W.listOf vs.toArray c) :: (cw, ow) :: q1 :: q2 :: q3 :: q4 :: nw)) (hr : r = pw kvs (i + 1) (digs num))
    (em : m = lawM m0 num tn Dk Dt pl (.str (tx r) tt) a1 a2 a3 a4 a5) (ho : ow.data = .cell v) (hp : PV nw vs (psOut kvs (i + 1)))
    (off : ∀ p ∈ nw, p.1 ≠ cw) (lp : pl ≠ cw) (n1 : pl ≠ I) {y1 : Addr × Obj} {oy : Obj} {nz : List (Addr × Obj)} (offI : ∀ p ∈ y1 :: (cw, oy) :: q1 :: q2 :: q3 :: q4 :: nz, p.1 ≠ I) (off5 : ∀ p ∈ nw, p.1 ≠ I) :
    TEnd h₀ L I oI (OutJ m0 num tn Dk Dt cw q1 q2 q3 q4 kvs (i + 1)) s₁ { s₁ with heap := h, toks := tk } := by
  subst hr
  refine TEnd.intro ((pl, W.listOf vs.toArray c) :: (cw, ow) :: q1 :: q2 :: q3 :: q4 :: nw) F N ?_ ?_ (OutJ.mk pl vs c tt ow v nw a1 a2 a3 a4 a5 em rfl ho hp off lp)
  · intro p hp
    exact List.mem_cons_of_mem _ (List.mem_cons_of_mem _ hp)
  · intro p hp
    rcases List.mem_cons.mp hp with rfl | hp
    · exact n1
    rcases List.mem_cons.mp hp with rfl | hp
    · exact offI (cw, oy) (by simp)
    · simp only [List.mem_cons] at hp
      rcases hp with h | h | h | h | h
      · exact offI p (by simp [h])
      · exact offI p (by simp [h])
      · exact offI p (by simp [h])
      · exact offI p (by simp [h])
      · exact off5 p h
end Mine
end
section
open PySem PySem.W PyProof.Rows
set_option maxRecDepth 100000
set_option maxHeartbeats 8000000
namespace Mine
local macro_rules | `(tactic| walk_at "mine sub") => `(tactic| (intro p hp; (repeat (first | assumption | refine List.mem_cons_of_mem _ ?_))))
local macro_rules | `(tactic| walk_at "call builtin:list.append") => `(tactic| (k_here; (with_reducible show wpAny _ _ (call (Value.builtin _) [Value.ref _, _]) _ _ _); k_dflt (refine' cend_append ?a1 ?a2 ?a3 ?a4 ?a5 ?a6 ?a7; (case a1 => k_asm); (case a2 => k_asm); (case a4 => assumption); (case a5 => assumption); (case a3 => walk_at "mine sub"); (case a6 => assumption); (case a7 => first | exact ⟨rfl, _, rfl, Copied.snoc (by assumption) (by with_reducible assumption)⟩ | exact ⟨rfl, _, rfl, KeysTo.snoc (by assumption) (by with_reducible assumption)⟩))))
local macro_rules | `(tactic| walk_at "eval ListComp") => `(tactic| (k_here; k_dflt (refine' ListComp_T (F₀ := ?f) ?a1 ?a2 ?a3 ?a4 ?a5 ?_; (case f => k_asm); (case a1 => with_unfolding_all rfl); (case a2 => decide); (case a3 => rfl); (case a4 => decide); (case a5 => rfl))))
local macro_rules | `(tactic| walk_at "pyIter ref") => `(tactic| (k_here; (with_reducible show wpAny _ _ (pyIter (Value.ref _)) (CT _ _ _ _ _ _ _ _ _ _ _ _ _ _) _ _); k_dflt (refine' ct_list ?k1 ?k2 ?k3 ?k4 ?_; (case k1 => exact rfl); (case k2 => k_asm); (case k3 => k_asm); (case k4 => exact .inr ⟨_, by k_mem, rfl, _, rfl⟩)); intro g' hg' hlt'))
local macro_rules | `(tactic| walk_at "eval DictComp") => `(tactic| (k_here; k_dflt (refine' DictComp_T (F₀ := ?f) ?a1 ?a2 ?a3 ?a4 ?a5 ?_; (case f => k_asm); (case a1 => with_unfolding_all rfl); (case a2 => decide); (case a3 => rfl); (case a4 => decide); (case a5 => rfl))))
local macro_rules | `(tactic| walk_at "dictSet") => `(tactic| (k_here; (with_reducible show wpAny _ _ (dictSet _ (Value.int _ _) (Value.int _ _)) _ _ _); k_dflt (refine' cend_worth ?a1 ?a2 ?a3 ?a4 ?a5 ?a6 ?a7 ?a8; (case a1 => k_asm); (case a2 => k_asm); (case a4 => assumption); (case a5 => assumption); (case a3 => walk_at "mine sub"); (case a6 => assumption); (case a7 => with_reducible assumption); (case a8 => assumption))))
local macro_rules | `(tactic| walk_at "mine k") => `(tactic| (
  (case k1 => k_asm); (case k2 => k_asm); (case k3 => k_asm); (case k4 => k_asm); (case k5 => k_asm); (case kK => first | exact rfl | assumption); (case kp => first | assumption | walk_at "mine pre"); (case kd => ktr_room); (case ku => ktr_units)))
local macro_rules | `(tactic| walk_at "call ref") => `(tactic| (k_here; (with_reducible show wpAny _ _ (call (Value.ref 60) _ _) _ _ _); (have hCb := @word; dsimp only [Spec] at hCb); k_dflt (refine' hCb _ _ _ _ _ _ _ _ _ _ _ _ _ _ _ _ _ _ _ _ ?k1 ?k2 ?k3 ?k4 ?k5 ?kK ?kp ?kd ?ku ?_); k_dflt (walk_at "mine k"); clear hCb; intro t9 h9 tk9 le9 F9 N9; (try dsimp only); (try dsimp only at le9); (try k_fold)))
local macro_rules | `(tactic| walk_at "exec Assign cons ListComp") => `(tactic| (k_here; k_dflt (refine' Assign_ListComp_T (F₀ := ?f) rfl ?a0 ?a1 ?a2 ?a3 ?a4 ?a5 ?a6 ?a7 ?_; (case a6 => rfl); (case f => k_asm); (case a0 => with_unfolding_all rfl); (case a1 => with_unfolding_all rfl); (case a2 => decide); (case a3 => rfl); (case a4 => decide); (case a5 => rfl); (case a7 => rfl))))
local macro_rules | `(tactic| walk_at "exec Assign cons DictComp") => `(tactic| (k_here; k_dflt (refine' Assign_DictComp_T (F₀ := ?f) rfl ?a0 ?a1 ?a2 ?a3 ?a4 ?a5 ?a6 ?a7 ?_; (case a6 => rfl); (case f => k_asm); (case a0 => with_unfolding_all rfl); (case a1 => with_unfolding_all rfl); (case a2 => decide); (case a3 => rfl); (case a4 => decide); (case a5 => rfl); (case a7 => rfl))))
local macro_rules | `(tactic| walk_at "pyIter ref") => `(tactic| (k_here; (with_reducible show wpAny _ _ (pyIter (Value.ref _)) (CT _ _ _ _ _ _ _ _ _ _ _ _ _ _) _ _); k_dflt (refine' ct_worth ?k1 ?k2 ?k3 ?k4 ?k5 ?k6 ?_; (case k1 => exact rfl); (case k2 => k_asm); (case k3 => k_asm); (case k6 => with_reducible assumption); (case k5 => k_mem); (case k4 => assumption)); intro g' hg' hlt'))
local macro_rules | `(tactic| walk_at "subscriptTail") => `(tactic| (k_here; (with_reducible show wpAny _ _ (subscriptTail _ _ (Value.ref _) (Value.int _ _)) _ _ _); k_dflt (refine' worth_item ?k1 ?k2 ?k3 ?k4 ?_; (case k1 => k_asm); (case k3 => with_reducible assumption); (case k2 => k_mem); (case k4 => with_reducible assumption); intro _)))
local macro_rules | `(tactic| walk_at "subscriptTail Constant Name str int") => `(tactic| (k_here; k_dflt (refine' item_str ?k1 ?k2 ?k3 ?_; (case k1 => exact fitsSsize_of (N := 9223372036854775808) (by omega) (by omega) (Int.le_refl _)); (case k2 => omega); (case k3 => omega); intro _)))
local macro_rules | `(tactic| walk_at "mine tkne") => `(tactic| (show @Ne Nat _ _; (try dsimp only); omega))
local macro_rules | `(tactic| walk_at "dictSet") => `(tactic| (k_here; (with_reducible show wpAny _ _ (dictSet _ (Value.str _ _) (Value.str _ _)) _ _ _); k_dflt (refine' cend_table ?a1 ?a2 ?a3 ?a4 ?a5 ?a6 ?a7 ?a8 ?a9 ?b1 ?b2 ?b3; (case a1 => k_asm); (case a2 => k_asm); (case a4 => assumption); (case a5 => assumption); (case a3 => walk_at "mine sub"); (case a6 => assumption); (case a7 => with_reducible assumption); (case a8 => assumption); (case a9 => assumption); (case b1 => walk_at "mine tkne"); (case b2 => walk_at "mine tkne"); (case b3 => walk_at "mine tkne"))))
local macro_rules | `(tactic| mul_fits) => `(tactic| exact NumAt.mul (by assumption))
local macro_rules | `(tactic| walk_at "exec For") => `(tactic| (k_here; (with_reducible show wpAny _ _ (exec (Stmt.For (Expr.Name _ _) _ _ [] _) _) _ _ _); with_unfolding_all ((rename Fr _ _ _ _ => F'); (refine' For_invVF F' ?ka ?kb ?_ ?kc ?kd; (case ka => rfl); (case kb => rfl); (case kc => (intro _; rfl)); (case kd => passes_own)))))
local macro_rules | `(tactic| walk_at "mine pre") => `(tactic| exact num_pre' (by assumption))
local macro_rules | `(tactic| walk_at "exec For Name Call cons nil") => `(tactic| (k_here; (with_reducible show wpAny _ _ (exec (Stmt.For (Expr.Name _ _) _ _ [] _) _) _ _ _); with_unfolding_all ((rename Fr _ _ _ _ => F'); (refine' For_invVF F' ?ka ?kb ?_ ?kc ?kd; (case ka => rfl); (case kb => rfl); (case kc => (intro _; rfl)); (case kd => passes_own)))))
local macro_rules | `(tactic| walk_at "mine lawM") => `(tactic| exact law_any rfl rfl rfl rfl rfl rfl rfl rfl rfl rfl (by intro y hy; simp only [List.mem_cons, List.not_mem_nil, or_false, not_or] at hy; simp [bndM, hy]))
local macro_rules | `(tactic| walk_at "subscriptTail") => `(tactic| (k_here; (with_reducible show wpAny _ _ (subscriptTail _ _ (Value.ref _) (Value.int _ _)) _ _ _); k_dflt (refine' keys_item ?k1 ?k2 ?k3 ?k4 ?k5 ?k6 ?_; (case k4 => with_reducible assumption); (case k1 => k_asm); (case k2 => k_mem); (case k3 => with_reducible assumption); (case k5 => with_reducible assumption); (case k6 => with_reducible assumption); intro _)))
local macro_rules | `(tactic| walk_at "subscriptTail Name Name ref int") => `(tactic| (k_here; (with_reducible show wpAny _ _ (subscriptTail _ _ (Value.ref _) (Value.int _ _)) _ _ _); k_dflt (refine' keys_item ?k1 ?k2 ?k3 ?k4 ?k5 ?k6 ?_; (case k4 => with_reducible assumption); (case k1 => k_asm); (case k2 => k_mem); (case k3 => with_reducible assumption); (case k5 => with_reducible assumption); (case k6 => with_reducible assumption); intro _)))
local macro_rules | `(tactic| walk_at "subscriptTail Name Subscript ref int") => `(tactic| (k_here; (with_reducible show wpAny _ _ (subscriptTail _ _ (Value.ref _) (Value.int _ _)) _ _ _); k_dflt (refine' worth_item ?k1 ?k2 ?k3 ?k4 ?_; (case k1 => k_asm); (case k3 => with_reducible assumption); (case k2 => k_mem); (case k4 => with_reducible assumption); intro _)))
local macro_rules | `(tactic| walk_at "subscriptTail Name Slice ref ref") => `(tactic| (k_here; (with_reducible show wpAny _ _ (subscriptTail _ (PySem.Expr.Slice none _ none _) (Value.ref _) (Value.ref _)) _ _ _); k_dflt (refine' slice_upto ?k1 ?k2 ?k3 ?k4 ?k5 ?_; (case k1 => k_asm); (case k2 => k_asm); (case k3 => k_mem); (case k4 => exact PV.len (by assumption)); (case k5 => exact Int.natCast_nonneg _); intro D8 h8 F8 N8 l8; (try k_lt l8))))
local macro_rules | `(tactic| walk_at "subscriptTail Name Slice ref ref") => `(tactic| (k_here; (with_reducible show wpAny _ _ (subscriptTail _ (PySem.Expr.Slice (some _) none none _) (Value.ref _) (Value.ref _)) _ _ _); k_dflt (refine' slice_from ?k1 ?k2 ?k3 ?k4 ?k5 ?_; (case k1 => k_asm); (case k2 => k_asm); (case k3 => k_mem); (case k4 => exact PV.len (by assumption)); (case k5 => omega); intro D8 h8 F8 N8 l8; (try k_lt l8))))
local macro_rules | `(tactic| walk_at "binaryOp Add ref ref") => `(tactic| (k_here; (with_reducible show wpAny _ _ (binaryOp Operator.Add (Value.ref _) (Value.ref _)) _ _ _); (rename PV _ _ _ => pV9); (have pL9 := pV9.len); k_dflt (refine' add_K ?k1 ?k2 ?k3 ?k4 ?k5 ?_; (case k1 => k_asm); (case k2 => k_asm); (case k3 => k_mem); (case k4 => k_mem); (case k5 => (simp only [List.length_append, List.length_take, List.length_drop, List.length_cons, List.length_nil, pL9]; omega)); intro D8 h8 F8 N8 l8; (try k_lt l8); clear pL9)))
local macro_rules | `(tactic| walk_at "mine pre67") => `(tactic| exact ⟨PV.partsAt (by with_reducible assumption) (by k_mem) (by walk_at "mine sub"), by with_reducible assumption, by with_reducible assumption, by with_reducible assumption⟩)
local macro_rules | `(tactic| walk_at "call ref") => `(tactic| (k_here; (with_reducible show wpAny _ _ (call (Value.ref 67) _ _) _ _ _); (have hCb := @joined; dsimp only [Spec] at hCb); k_dflt (refine' hCb _ _ _ _ _ _ _ _ _ _ _ _ _ _ _ _ _ _ _ _ _ _ ?k1 ?k2 ?k3 ?k4 ?k5 ?kK ?kp ?kd ?ku ?_); k_dflt ((case k1 => k_asm); (case k2 => k_asm); (case k3 => k_asm); (case k4 => k_asm); (case k5 => k_asm); (case kK => first | exact rfl | assumption); (case kp => walk_at "mine pre67"); (case kd => ktr_room); (case ku => ktr_units)); clear hCb; intro D9 o9 h9 tk9 tu9 lt9 F9 N9; (try dsimp only); (try k_lt lt9); (try k_fold)))
local macro_rules | `(tactic| k_all) => `(tactic| with_reducible assumption)
local macro_rules | `(tactic| walk_at "binaryOp FloorDiv int int") => `(tactic| (k_here; (with_reducible show wpAny _ _ (binaryOp Operator.FloorDiv (Value.int (Nat.cast _) _) (Value.int ((16 : Int) ^ _) _)) _ _ _); (refine' div16 ?vk ?_; (case vk => omega))))
local macro_rules | `(tactic| walk_at "subscriptTail Constant str BinOp str int") => `(tactic| (k_here; (with_reducible show wpAny _ _ (subscriptTail _ _ (Value.str _ _) (Value.int (Int.fmod (Nat.cast _) 16) _)) _ _ _); k_dflt (refine' letter_at ?le ?_ ?ls ?lt; (case le => with_reducible assumption); (case ls => (intro _; with_unfolding_all rfl)); (case lt => (intro _; with_unfolding_all rfl)))))
local macro_rules | `(tactic| walk_at "call builtin:list.append") => `(tactic| (k_here; (with_reducible show wpAny _ _ (call (Value.builtin _) [Value.ref _, Value.str _ _]) _ _ _); k_dflt (refine' cend_append ?ab1 ?ab2 ?ab3 ?ab4 ?ab5 ?ab6 ?ab7; (case ab1 => k_asm); (case ab2 => k_asm); (case ab4 => assumption); (case ab5 => assumption); (case ab3 => walk_at "mine sub"); (case ab6 => assumption); (case ab7 => exact ⟨rfl, _, rfl, DueTo.snoc (by assumption) (by with_reducible assumption)⟩))))
local macro_rules | `(tactic| walk_at "call builtin:str.join") => `(tactic| (k_here; (with_reducible show wpAny _ _ (call (Value.builtin "str.join") [Value.str _ _, Value.ref _]) _ _ _); k_dflt (refine' join_due ?jd1 ?jd2 ?jd3 ?jd4 ?_; (case jd3 => with_reducible assumption); (case jd1 => k_asm); (case jd2 => k_mem); (case jd4 => with_reducible assumption)); intro t' k'))
local macro_rules | `(tactic| walk_at "call builtin:len") => `(tactic| (k_here; (with_reducible show wpAny _ _ (call (Value.builtin "len") [Value.str (tx _) _]) _ _ _); (refine' len_tx ?ln ?_; (case ln => omega))))
local macro_rules | `(tactic| walk_at "binaryOp Mult str int") => `(tactic| (k_here; (with_reducible show wpAny _ _ (binaryOp Operator.Mult (Value.str (Str.ofString "A") _) (Value.int _ _)) _ _ _); k_dflt (refine' mul_A ?mu1 ?mu2 ?_; (case mu1 => with_reducible assumption); (case mu2 => omega)); intro t' k'))
local macro_rules | `(tactic| walk_at "compareOp NotEq str str") => `(tactic| (k_here; (with_reducible show wpAny _ _ (compareOp CmpOp.NotEq (Value.str _ _) (Value.str _ _)) _ _ _); (refine' ne_same ?ne ?_; (case ne => first | with_reducible rfl | with_reducible assumption))))
local macro_rules | `(tactic| walk_at "mine preE") => `(tactic| exact ⟨⟨_, _, (by k_mem), (by with_reducible assumption), (by with_reducible assumption), (by with_reducible assumption), (by with_reducible assumption), (by with_reducible assumption)⟩, by with_reducible assumption⟩)
local macro_rules | `(tactic| walk_at "mine preQ") => `(tactic| exact ⟨⟨_, _, (by k_mem), (by with_reducible assumption), (by with_reducible assumption), (by with_reducible assumption), (by with_reducible assumption), (by with_reducible assumption)⟩, by with_reducible assumption, by with_reducible assumption⟩)
local macro_rules | `(tactic| walk_at "call ref") => `(tactic| (k_here; (with_reducible show wpAny _ _ (call (Value.ref 37) _ _) _ _ _); (have hCb := @escape_; dsimp only [Spec, CbRet] at hCb); k_dflt (refine' hCb _ _ _ _ _ _ _ _ _ _ _ _ _ _ _ _ _ _ _ _ _ _ _ ?ke1 ?ke2 ?ke3 ?ke4 ?ke5 ?keK ?kep ?ked ?keu ?_); k_dflt ((case ke1 => k_asm); (case ke2 => k_asm); (case ke3 => k_asm); (case ke4 => k_asm); (case ke5 => k_asm); (case keK => first | exact rfl | assumption); (case kep => walk_at "mine preE"); (case ked => ktr_room); (case keu => ktr_units)); clear hCb; intro t9 h9 tk9 F9 N9; (try dsimp only); (try k_fold)))
local macro_rules | `(tactic| walk_at "call ref") => `(tactic| (k_here; (with_reducible show wpAny _ _ (call (Value.ref 46) _ _) _ _ _); (have hCb := @unescape_; dsimp only [Spec, CbRet] at hCb); k_dflt (refine' hCb _ _ _ _ _ _ _ _ _ _ _ _ _ _ _ _ _ _ _ _ _ _ _ ?ku1 ?ku2 ?ku3 ?ku4 ?ku5 ?kuK ?kup ?kud ?kuu ?_); k_dflt ((case ku1 => k_asm); (case ku2 => k_asm); (case ku3 => k_asm); (case ku4 => k_asm); (case ku5 => k_asm); (case kuK => first | exact rfl | assumption); (case kup => walk_at "mine preE"); (case kud => ktr_room); (case kuu => ktr_units)); clear hCb; intro t9 h9 tk9 F9 N9; (try dsimp only); (try k_fold)))
local macro_rules | `(tactic| walk_at "call ref") => `(tactic| (k_here; (with_reducible show wpAny _ _ (call (Value.ref 55) _ _) _ _ _); (have hCb := @quoteattr_; dsimp only [Spec, CbRet] at hCb); k_dflt (refine' hCb _ _ _ _ _ _ _ _ _ _ _ _ _ _ _ _ _ _ _ _ _ _ ?kq1 ?kq2 ?kq3 ?kq4 ?kq5 ?kqK ?kqp ?kqd ?kqu ?_); k_dflt ((case kq1 => k_asm); (case kq2 => k_asm); (case kq3 => k_asm); (case kq4 => k_asm); (case kq5 => k_asm); (case kqK => first | exact rfl | assumption); (case kqp => walk_at "mine preQ"); (case kqd => ktr_room); (case kqu => ktr_units)); clear hCb; intro t9 h9 tk9 F9 N9; (try dsimp only); (try k_fold)))
local macro_rules | `(tactic| walk_at "binaryOp Add str str") => `(tactic| (k_here; (with_reducible show wpAny _ _ (binaryOp Operator.Add (Value.str _ _) (Value.str _ _)) _ _ _); (refine' SB.add ?_ ?as1; (case as1 => (simp only [PySem.Str.length_append, tx_length, List.length_replicate, quote_len, sizeLine_eq]; omega))); intro t' k'))
theorem law_walk : PySem.Challenge.rw_ik0021_01.Holds := by
  w_top off
  refine hd ?_
  w_strict (k_go0; (all_goals try k_fold))
  rename World => wld
  k_steps
  rename IntsAre _ (List.take 2 _) => hI2
  refine CTurns.fixed (.inr ⟨_, by k_mem, rfl, _, rfl⟩) (by assumption) (Copied hI2) ⟨.nil⟩ ?_ ?_
  · intro i v ys m₂ I oI C oC D h tkT E' hi hR hv hT hC hx F N off ne
    obtain ⟨k, t, hk, rfl⟩ := ints_get hI2 hv
    have hlen : ys.length ≤ sizeLine := hR.len (by rw [hI2.length, List.length_take]; omega)
    k_steps
  intro D ys h tkT hR hT h1 h2 h4 F N
  k_lt h4
  have hJ := hR.whole rfl
  show wpAny _ _ _ _ _ _
  clear hR
  k_steps
  rename IntsAre _ ([_] ++ List.take 2 _) => hI3
  have hl3 := len3 hI3
  refine CTurns.fixedD (.inr ⟨_, by k_mem, rfl, _, rfl⟩) (by assumption) (WRel PySem.Challenge.rw_ik0021_01.row.prog wld hI3) ⟨WObj.nil⟩ ?_ ?_
  · intro i v oD m₂ I oI C oC D h tkT E' hi hR hv hT hC hx F N off ne
    obtain ⟨k, t, hk, rfl⟩ := ints_get hI3 hv
    k_steps
  intro Dw oW h tkT hR hT h1w h2w h4w F N
  k_lt h4w
  obtain ⟨W0, hW, hWk, hW3, hWne⟩ : ∃ W, WObj PySem.Challenge.rw_ik0021_01.row.prog wld W oW ∧ WOk W ∧ W.length ≤ 3 ∧ W ≠ [] := ⟨_, hR.whole rfl, wtab3 hI3⟩
  have loW : (Dw == sysModules) = false := by
    have h1 := modules_low (Top.nolimit (by assumption))
    exact beq_eq_false_iff_ne.mpr (Nat.ne_of_gt (Nat.lt_trans h1 (by omega)))
  show wpAny _ _ _ _ _ _
  clear hR
  k_steps
  refine CTurns.fixed (by k_mem) (by assumption) (KeysTo W0) ⟨.nil⟩ ?_ ?_
  · intro i v ys m₂ I oI C oC D h tkT E' hi hR hv hT hC hx F N off ne
    obtain ⟨k, x, t, hWi, rfl⟩ := hv
    have hlen := hR.len hW3
    k_steps
  intro Dk ks h tkT hR hT h1k h2k h4k F N
  k_lt h4k
  have hK := hR.whole
  clear hR
  (try dsimp only)
  k_steps
  have hA4 : (Str.ofString "ABCD").length = 4 := by decide +kernel
  refine CTurns.fixedD (.inr ⟨_, by k_mem, rfl, _, rfl⟩) (by assumption) (TRel wld W0) TRel.nil ?_ ?_
  · intro i v oD m₂ I oI C oC D h tkT E' hi hR hv hT hC hx F N off ne
    obtain ⟨k, t, hk, rfl⟩ := ints_get hK hv
    obtain ⟨x, hWi⟩ := key_at hk
    obtain ⟨hk4, hpre, hx51⟩ := hWk.key_at hWi
    k_steps
  intro Dt oT h tkT hR hT h1t h2t h4t F N
  k_lt h4t
  obtain ⟨es, en, rfl, hEs⟩ := hR.whole (by rw [List.size_toArray, hK.length, List.length_map])
  clear hR
  (try dsimp only)
  dsimp only [envOfC] at F N
  rename IntsAre _ (List.take _ (List.drop 2 _)) => hNI
  obtain ⟨num, hnum, hn6⟩ := num_six hNI
  rw [hnum] at F
  obtain ⟨m0, tn, F1⟩ : ∃ m0 tn, Fr _ _ _ (bndM m0 [(Str.ofString "number", some (.int (num : Int) tn)), (Str.ofString "keys", some (.ref Dk)), (Str.ofString "table", some (.ref Dt))]) :=
    ⟨_, _, fr_as F (bndM_of (bndM_cons rfl (bndM_cons rfl (bndM_cons rfl bndM_self))))⟩
  have N1 := pick10 N
  rename Obj.data _ = Data.cell (some (Value.ref Dw)) => hc1
  rename (Obj.data _ = Data.cell (bindC _ _ _ (Str.ofString "worth"))) => hXX
  clear hXX
  rename (Obj.data _ = Data.cell (bindC _ _ _ (Str.ofString "whole"))) => hcw0
  obtain ⟨v0, hcw⟩ : ∃ v0, Obj.data _ = Data.cell v0 := ⟨_, hcw0⟩
  have loT : (Dt == sysModules) = false := by
    have h1 := modules_low (Top.nolimit (by assumption))
    exact beq_eq_false_iff_ne.mpr (Nat.ne_of_gt (Nat.lt_trans h1 (by omega)))
  have e1 : (Dt : Nat) ≠ _ := Nat.ne_of_gt h4t.2.2.2.2.2.2.2.1
  have e2 : (Dk : Nat) ≠ _ := Nat.ne_of_gt h4k.2.2.2.2.2.2.1
  have e3 : (Dw : Nat) ≠ _ := Nat.ne_of_gt h4w.2.2.2.2.1
  clear hcw0 N F hNI h4t h4k h4w hnum h1t h2t h1k h2k h1w h2w
  clear hI2 hI3 hJ h1 h2
  revert F1 N1 hW3 hn6
  repeat (rename Fr _ _ _ _ => xF; clear xF)
  repeat (rename News _ _ _ _ => xF; clear xF)
  repeat (rename (_ < _) ∧ _ => xF; clear xF)
  repeat (rename (_ ≤ _) => xF; clear xF)
  repeat (rename (∀ p ∈ _, (p : Addr × Obj).1 < _) => xF; clear xF)
  intro hW3 hn6 F1 N1
  have hp60 : 0 ≤ (num : Int) ∧ (digs (num : Int).toNat).length ≤ 4096 := ⟨Int.natCast_nonneg _, Nat.le_trans hn6 (by decide)⟩
  repeat' ((fail_if_success (with_reducible show wpAny _ _ (pyIter (Value.ref _)) _ _ _)); first | (k_unfold; (try dsimp only)) | (k_end; wrow_close) | walk1 | (dsimp only; walk1) | (leave1; walk_say "STEP leave1"; try dsimp only) | fail "no step")
  rename IsRange _ _ _ _ _ _ _ _ => rgP
  k_dflt (refine' ct_range (n := 16) ?pk1 ?pk2 ?pk3 ?pk4 ?pk5 ?pk6 ?_; (case pk1 => exact rfl); (case pk2 => k_asm); (case pk3 => k_asm); (case pk4 => exact rgP); (case pk5 => decide); (case pk6 => decide))
  intro g' hg' hlt'
  refine CTurns.mk (PTurn _ _) (PTurn.nil ?_) (fun _ _ _ _ => trivial) ?_ ?_
  · intro p hp
    simp only [List.mem_cons, List.not_mem_nil, or_false] at hp
    rcases hp with rfl | rfl | rfl | rfl
    · exact Nat.ne_of_lt (Nat.lt_succ_self _)
    · exact e1
    · exact e2
    · exact e3
  · intro i v oD nw m₂ I oI C oC D h tkT E' hi hR hv hT hC hx F N off ne hDs
    obtain ⟨t, rfl⟩ := hv
    obtain ⟨nw, ys, rfl, rfl, hyl, hat, hsub, hoff⟩ := hR
    show wpAny _ _ _ _ _ _
    repeat' ((fail_if_success (with_reducible show wpAny _ _ (call (Value.builtin _) [Value.ref _, Value.ref _]) _ _ _)); first | (k_unfold; (try dsimp only)) | (k_end; wrow_close) | walk1 | (dsimp only; walk1) | (leave1; walk_say "STEP leave1"; try dsimp only) | fail "no step")
    k_dflt (refine' cend_part ?pa1 ?pa2 ?pa3 off ne hi hyl hat hsub hoff ?pa4; (case pa1 => k_asm); (case pa2 => k_asm); (case pa3 => assumption); (case pa4 => exact fig_tup))
  intro Dp oP nw h tkT hR hT hD1 hD2 hD3 hDn F N
  obtain ⟨nw, vs, cl, rfl, rfl, hPo, hsub, hoff⟩ := hR.pv
  dsimp only [envOfC] at F N
  show wpAny _ _ _ _ _ _
  have eD := Ne.symm (hDn _ List.mem_cons_self)
  dsimp only at eD hoff
  have N2 := six N hsub
  rw [show wd (num : Int).toNat = tx (pw (tkv W0) 0 (digs num)) from rfl] at F
  obtain ⟨b1, b2, b3, b4, b5, tt, F2⟩ : ∃ a1 a2 a3 a4 a5 tt, Fr _ _ _ (lawM m0 num tn Dk Dt Dp (.str (tx (pw (tkv W0) 0 (digs num))) tt) a1 a2 a3 a4 a5) :=
    ⟨_, _, _, _, _, _, fr_as F (bndM_of (bndM_cons rfl (bndM_cons rfl (bndM_cons rfl (bndM_cons rfl (bndM_cons rfl (bndM_cons rfl (bndM_cons rfl (bndM_cons rfl (bndM_cons rfl (bndM_cons rfl (bndM_nil (by intro y hy; simp only [List.mem_cons, List.not_mem_nil, or_false, not_or] at hy; simp [bndM, hy])))))))))))))⟩
  rw [← psOut_zero (tkv W0)] at hPo
  clear hR hT hD3 hD1 hD2 hDn hlt' hg' F1 N1 rgP N F hsub
  revert F2 N2
  repeat (rename Fr _ _ _ _ => xF; clear xF)
  repeat (rename News _ _ _ _ => xF; clear xF)
  intro N2 F2
  (try dsimp only)
  repeat' ((fail_if_success (with_reducible show wpAny _ _ (pyIter (Value.ref _)) _ _ _)); first | (k_unfold; (try dsimp only)) | (k_end; wrow_close) | walk1 | (dsimp only; walk1) | (leave1; walk_say "STEP leave1"; try dsimp only) | fail "no step")
  rename IsRange _ _ _ _ _ _ _ _ => rgO
  rename Fr _ _ _ _ => oF
  rename News _ _ _ _ => oN
  with_unfolding_all refine' loop_range (n := 2) (OutJ m0 num tn Dk Dt _ _ (Dt, dictOf es en) (Dk, LCg.lst ks) (Dw, oW) (tkv W0)) rfl rgO (by decide) (by decide) oF oN (OutJ.mk Dp vs cl tt _ _ nw b1 b2 b3 b4 b5 rfl rfl hcw hPo hoff eD) ?oturn ?odone
  case odone =>
    clear oF oN
    rintro m nx h tk ⟨pl, vs, c, tt, ow, v0, nw, a1, a2, a3, a4, a5, rfl, rfl, ho, hp, off, lp⟩ fK nK
    k_steps
  case oturn =>
    clear oF oN
    rintro i v m nx h tk I oI hi ⟨t', rfl⟩ ⟨pl, vs, c, tt, ow, v0, nw, a1, a2, a3, a4, a5, rfl, rfl, ho, hp, off, lp⟩ offI fK nK
    revert fK nK
    repeat (rename Fr _ _ _ _ => xF; clear xF)
    repeat (rename News _ _ _ _ => xF; clear xF)
    intro fK nK
    clear hPo hoff eD hcw rgO
    dsimp only [envOfC] at fK nK offI
    obtain ⟨a1, fK2⟩ : ∃ a1, Fr _ _ _ (lawM m0 num tn Dk Dt pl (.str (tx (pw (tkv W0) i (digs num))) tt) a1 a2 a3 a4 a5) := ⟨_, fr_as fK (by walk_at "mine lawM")⟩
    clear fK
    rw [← psIn_zero] at hp
    repeat' ((fail_if_success (with_reducible show wpAny _ _ (pyIter (Value.ref _)) _ _ _)); first | (k_unfold; (try dsimp only)) | (k_end; wrow_close) | walk1 | (dsimp only; walk1) | (leave1; walk_say "STEP leave1"; try dsimp only) | fail "no step")
    rename IsRange _ _ _ _ _ _ _ _ => rgI
    rename Fr _ _ _ _ => iF
    rename News _ _ _ _ => iN
    have hnl : (List.map (fun x => x.fst) W0).length = W0.length := by simp
    have hnt : (tkv W0).length = W0.length := by simp [tkv]
    with_unfolding_all refine' loop_range (n := (tkv W0).length) (InJ m0 num tn Dk Dt (.str (tx (pw (tkv W0) i (digs num))) tt) a1 a3 a4 a5 (I, oI) _ _ (Dt, dictOf es en) (Dk, LCg.lst ks) (Dw, oW) (tkv W0) i) rfl rgI (small_down (by omega) (by omega) (by omega) (by omega)) (by rw [rangeSize_downNat]; omega) iF iN (InJ.mk pl vs c nw a2 rfl rfl hp off lp (fun p hp => offI p (List.mem_cons_of_mem _ (List.mem_cons_of_mem _ (List.mem_cons_of_mem _ (List.mem_cons_of_mem _ (List.mem_cons_of_mem _ (List.mem_cons_of_mem _ hp))))))) (offI _ List.mem_cons_self)) ?iturn ?idone
    case iturn =>
      clear iF iN hp off lp
      rintro j v m nx h tk I2 oI2 hj ⟨t', rfl⟩ ⟨pl, vs, c, nw, a2, rfl, rfl, hp, off, lp, off5, l5⟩ offI2 fK nK
      revert fK nK
      repeat (rename Fr _ _ _ _ => xF; clear xF)
      repeat (rename News _ _ _ _ => xF; clear xF)
      intro fK nK
      dsimp only [envOfC] at fK nK offI2
      have fK2 : Fr _ _ _ (lawM m0 num tn Dk Dt pl (.str (tx (pw (tkv W0) i (digs num))) tt) a1 (some (.int _ t')) a3 a4 a5) := fr_as fK (by walk_at "mine lawM")
      clear fK
      have hjn : j < W0.length := by omega
      obtain ⟨kk, x, hWj⟩ : ∃ kk x, W0[W0.length - 1 - j]? = some (kk, x) := ⟨(W0[W0.length - 1 - j]'(by omega)).1, (W0[W0.length - 1 - j]'(by omega)).2, by rw [List.getElem?_eq_getElem (by omega)]⟩
      have hd : ((((List.map (fun x => x.fst) W0).length : Nat) : Int) - 1 + (j : Int) * -1) = (((W0.length - 1 - j : Nat)) : Int) := by omega
      have hp100 : W0.length - 1 - j ≤ 100 := by omega
      obtain ⟨hk4, hpx, hx51⟩ := hWk.key_at hWj
      obtain ⟨kn, rfl⟩ := Int.eq_ofNat_of_zero_le hk4.1
      have hx0 : 0 ≤ x := hpx.1
      have hx8 : (digs x.toNat).length ≤ 8 := Nat.le_trans (digs_two hx51) (by decide)
      have hS : Sized 64 (psIn (tkv W0) i j) := psIn_sized (tkv_words hWk hW3 hWne) (by omega)
      k_steps
      rename Fr _ _ _ _ => fE4
      rename News _ _ _ _ => nE4
      rename TupObj _ _ => tu4
      show TEnd _ _ _ _ _ _ _
      rename PV _ _ _ => hp4
      exact inner_end fE4 nE4 (by walk_at "mine lawM") tu4 hp4 hjn hWj hk4 (by omega) (by omega) (by dsimp only; omega) (by dsimp only; omega) (by dsimp only; omega) (by dsimp only; omega) offI2 off off5
    case idone =>
      clear iF iN hp off lp
      rintro m nx h tk ⟨pl, vs, c, nw, a2, rfl, rfl, hp, off, lp, off5, l5⟩ fK nK
      rw [psIn_all] at hp
      dsimp only at off lp off5 l5
      revert fK nK
      repeat (rename Fr _ _ _ _ => xF; clear xF)
      repeat (rename News _ _ _ _ => xF; clear xF)
      intro fK nK
      dsimp only [envOfC] at fK nK
      have hW9 := tkv_words hWk hW3 hWne
      have hS : Sized 64 (psOut (tkv W0) (i + 1)) := psOut_sized hW9 (by omega)
      have hn8 : (digs (num : Int).toNat).length ≤ 8 := Nat.le_trans hn6 (by decide)
      have hn0 : 0 ≤ (num : Int) := Int.natCast_nonneg _
      clear rgI
      repeat' ((fail_if_success (with_reducible show wpAny _ _ (assign (Expr.Tuple _ _ _) _ (Value.ref _)) _ _ _)); first | (k_unfold; (try dsimp only)) | (k_end; wrow_close) | walk1 | (dsimp only; walk1) | (leave1; walk_say "STEP leave1"; try dsimp only) | fail "no step")
      rename TupObj _ _ => tu
      rw [jn_out, Int.toNat_natCast] at tu
      have hr16 : ∀ d ∈ pw (tkv W0) (i + 1) (digs num), d < 16 := pw_lt hW9.low (i + 1) (digs_lt num)
      have hrl : (pw (tkv W0) (i + 1) (digs num)).length ≤ 384 := by
        have h1 := pw_len hW9 (i + 1) (digs num)
        have h2 : 8 ^ (i + 1) ≤ 64 := by
          have : i = 0 ∨ i = 1 := by omega
          rcases this with e | e <;> subst e <;> decide
        have h3 := Nat.mul_le_mul h2 hn6
        omega
      obtain ⟨r, hr⟩ : ∃ r, r = pw (tkv W0) (i + 1) (digs num) := ⟨_, rfl⟩
      rw [← hr] at tu hr16 hrl
      obtain ⟨tuc, tw0, tw1, tun, tud⟩ := tu
      rename News _ _ _ _ => nT
      have T9 : IsTup _ _ #[Value.int ((val16 r : Nat) : Int) tw0, Value.int ((r.length : Nat) : Int) tw1] := ⟨_, (nT _ List.mem_cons_self).1, tuc, tun, tud⟩
      have hwl : (digs (val16 r)).length ≤ r.length := (digs_val _ r rfl hr16).2
      have hp60w : 0 ≤ ((val16 r : Nat) : Int) ∧ (digs ((val16 r : Nat) : Int).toNat).length ≤ 4096 := ⟨Int.natCast_nonneg _, by rw [Int.toNat_natCast]; omega⟩
      have n1 : @Ne Nat pl _ := lp
      have n2 : @Ne Nat Dt _ := e1
      have n3 : @Ne Nat Dk _ := e2
      have n4 : @Ne Nat Dw _ := e3
      have n5 : @Ne Nat _ I := offI _ (List.mem_cons_of_mem _ List.mem_cons_self)
      dsimp only at n5
      repeat' ((fail_if_success (with_reducible show wpAny _ _ (storeName _ _ _) _ _ _)); first | (k_unfold; (try dsimp only)) | (k_end; wrow_close) | walk1 | (dsimp only; walk1) | (leave1; walk_say "STEP leave1"; try dsimp only) | fail "no step")
      k_here
      k_dflt (refine' storeX_C ?gF ?gN ?gc ?gU ?gd ?_ ?ga ?gb; (case ga => rfl); (case gb => rfl); (case gF => k_asm); (case gN => k_asm); (case gc => rfl))
      case gU => k_dflt k_updF
      case gd => k_dflt k_asm
      intro h7 ow7 fN7 nN7 hd7
      try dsimp only at nN7
      try k_sweep
      repeat' ((fail_if_success (with_reducible show wpAny _ _ (pyIter (Value.ref _)) _ _ _)); first | (k_unfold; (try dsimp only)) | (k_end; wrow_close) | walk1 | (dsimp only; walk1) | (leave1; walk_say "STEP leave1"; try dsimp only) | fail "no step")
      rename IsRange _ _ _ _ _ _ _ _ => rgD
      k_dflt (refine' ct_range (n := r.length) ?dk1 ?dk2 ?dk3 ?dk4 ?dk5 ?dk6 ?_; (case dk1 => exact rfl); (case dk2 => k_asm); (case dk3 => k_asm); (case dk4 => exact rgD); (case dk5 => exact small_down (by omega) (by omega) (by omega) (by omega)); (case dk6 => rw [rangeSize_downNat]; omega))
      intro g' hg' hlt'
      refine CTurns.fixed trivial (by assumption) (DueTo r) DueTo.nil ?_ ?_
      · intro j v ys m₂ I oI C oC D h tkT E' hj hR hv hT hC hx F N off ne
        obtain ⟨t, rfl⟩ := hv
        have hpl : ((r.length : Nat) : Int) - 1 + (j : Int) * -1 = (((r.length - 1 - j : Nat)) : Int) := by omega
        rw [hpl] at hx
        obtain ⟨dg, hdg, hdg16, hdv⟩ := digit_at hr16 hj
        have hyl : ys.length ≤ sizeLine := Nat.le_trans hR.length (by rw [sizeLine_eq]; omega)
        k_steps
      intro Dd ys h tkT hR hT hd1 hd2 hd4 F N
      have hJ : StrsAre ys (r.map fun d => tx [d]) := by
        have := hR.are
        rwa [List.take_length] at this
      have hyl : ys.length ≤ 384 := Nat.le_trans hR.length hrl
      k_lt hd4
      clear hR hT hd1 hd2 hlt' hg' rgD
      show wpAny _ _ _ _ _ _
      (try dsimp only)
      repeat' ((fail_if_success (with_reducible show wpAny _ _ (exec (Stmt.If _ _ _ _) _) _ _ _)); first | (k_unfold; (try dsimp only)) | (k_end; wrow_close) | walk1 | (dsimp only; walk1) | (leave1; walk_say "STEP leave1"; try dsimp only) | fail "no step")
      rename Fr _ _ _ _ => fX
      have fX2 : Fr _ _ _ (lawM m0 num tn Dk Dt pl (.str (tx (pw (tkv W0) i (digs num))) tt) a1 a2 (some (.int ((r.length : Nat) : Int) _)) (some (.str (tx (digs (val16 r))) _)) (some (.str (tx r) _))) := fr_as fX (by walk_at "mine lawM")
      clear fX
      have hr0 : r = List.replicate (r.length - (digs (val16 r)).length) 0 ++ digs (val16 r) := (digs_val _ r rfl hr16).1
      have hE1 : tx (List.replicate (r.length - (digs (val16 r)).length) 0) ++ tx (digs (val16 r)) = tx r := by rw [tx_append, ← hr0]
      have hM1 : ((r.length : Nat) : Int) - (((digs (val16 r)).length : Nat) : Int) = ((r.length - (digs (val16 r)).length : Nat) : Int) := by omega
      have hE3 : Str.ofString "\"" ++ tx (phi (tkv W0) (pw (tkv W0) i (digs num))) ++ Str.ofString "\"" = Str.ofString "\"" ++ tx r ++ Str.ofString "\"" := by rw [pw_phi, ← hr]
      have hl48 : (pw (tkv W0) i (digs num)).length ≤ 48 := by
        have h1 := pw_len hW9 i (digs num)
        have h2 : 8 ^ i ≤ 8 := by
          have : i = 0 ∨ i = 1 := by omega
          rcases this with e | e <;> subst e <;> decide
        have h3 := Nat.mul_le_mul h2 hn6
        omega
      have hl1000 : (pw (tkv W0) i (digs num)).length ≤ 1000 := by omega
      have hRp : Reps (tx (pw (tkv W0) i (digs num))) (txs (tkv W0)) (tx r) := by
        rw [hr, ← pw_phi]
        have h3 := pow_few hW9.few
        have h4 := Nat.mul_le_mul h3 hl48
        exact reps_txs (tkv W0) _ hW9.two (by omega)
      have hTn := txs_nodup hW9.keys
      have hTs : txs (tkv W0) ≠ [] := by
        have := hW9.some
        intro e
        exact this (List.map_eq_nil_iff.mp e)
      have hTf : (txs (tkv W0)).length ≤ 100 := by
        have := hW9.few
        rw [show (txs (tkv W0)).length = (tkv W0).length from List.length_map ..]
        omega
      k_steps
      rename Fr _ _ _ _ => fE6
      rename News _ _ _ _ => nE6
      show TEnd _ _ _ _ _ _ _
      exact outer_end fE6 nE6 hr (by walk_at "mine lawM") hd7 hp off lp l5 offI off5
end Mine
end
theorem PySem.Challenge.cw_ik0021_01_holds : PySem.Challenge.rw_ik0021_01.Holds := by
  exact Mine.law_walk
