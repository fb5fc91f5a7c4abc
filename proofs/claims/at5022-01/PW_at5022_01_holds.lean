import PyProof.Rows.All
import Wide.All
import OpenK.AllK
import Wide.FinOn
import PySem.Challenge.RW_at5022_01
open PySem PySem.W PySem.Calls PyProof.Rows
set_option Elab.async false
set_option maxRecDepth 100000
set_option maxHeartbeats 8000000

-- part Hd
namespace Mine
open_top hd for PySem.Challenge.rw_at5022_01
end Mine

-- part Pl
namespace Mine
open PyProof
def row (l : List Nat) (n : Nat) : List Nat := (List.range n).map fun k => l.getD (k % l.length) 0
def S (l : List Nat) : PySem.Str := ⟨l.toArray⟩
theorem S_cps (l : List Nat) : (S l).cps.toList = l := rfl
theorem S_len (l : List Nat) : (S l).length = l.length := by simp [S, PySem.Str.length]
theorem S_of (x : PySem.Str) : S x.cps.toList = x := by cases x; simp [S]
theorem row_len (l : List Nat) (n : Nat) : (row l n).length = n := by simp [row]

theorem flat_rep_get {α : Type} (l : List α) (k i : Nat) (h : 0 < l.length) : (List.replicate k l).flatten[i]? = if i < k * l.length then l[i % l.length]? else none := by
  induction k generalizing i with
  | zero => simp
  | succ k ih =>
    rw [List.replicate_succ, List.flatten_cons, List.getElem?_append]
    by_cases hi : i < l.length
    · rw [if_pos hi, if_pos (by rw [Nat.succ_mul]; omega), Nat.mod_eq_of_lt hi]
    · rw [if_neg hi, ih]
      have e : (i - l.length) % l.length = i % l.length := by
        conv => rhs; rw [show i = (i - l.length) + l.length by omega]
        rw [Nat.add_mod_right]
      rw [e, Nat.succ_mul]
      by_cases h2 : i - l.length < k * l.length
      · rw [if_pos h2, if_pos (by omega)]
      · rw [if_neg h2, if_neg (by omega)]
theorem flat_rep_len {α : Type} (l : List α) (k : Nat) : (List.replicate k l).flatten.length = k * l.length := by
  induction k with
  | zero => simp
  | succ k ih => rw [List.replicate_succ, List.flatten_cons, List.length_append, ih, Nat.succ_mul]; omega
theorem foldl_arr {α : Type} (a : Array α) (k : Nat) (b : Array α) : ((List.replicate k a).foldl (· ++ ·) b).toList = b.toList ++ (List.replicate k a.toList).flatten := by
  induction k generalizing b with
  | zero => simp
  | succ k ih => rw [List.replicate_succ, List.foldl_cons, ih, List.replicate_succ, List.flatten_cons, Array.toList_append, List.append_assoc]
theorem take_row {l : List Nat} {k n : Nat} (h : 0 < l.length) (hn : n ≤ k * l.length) : (List.replicate k l).flatten.take n = row l n := by
  apply List.ext_getElem?
  intro i
  rw [List.getElem?_take, row, List.getElem?_map]
  by_cases hi : i < n
  · rw [if_pos hi, flat_rep_get l k i h, if_pos (by omega)]
    have hm : i % l.length < l.length := Nat.mod_lt _ h
    simp [hi, hm]
  · rw [if_neg hi]
    simp [hi]
theorem mul_list (x : PySem.Str) (k : Int) (hk : 0 ≤ k) : (Txt.mul x k).cps.toList = (List.replicate k.toNat x.cps.toList).flatten := by
  unfold Txt.mul
  by_cases h1 : k < 1
  · rw [if_pos h1, show k.toNat = 0 by omega]; rfl
  · rw [if_neg h1]
    split
    · rename_i h
      by_cases hk1 : k = 1
      · subst hk1; simp
      · have : x.length = 0 := by simpa [hk1] using h
        have hx : x.cps.toList = [] := by
          apply List.eq_nil_of_length_eq_zero
          simpa [PySem.Str.length] using this
        rw [hx]; simp
    · rw [foldl_arr]; simp
theorem mult_ge {n len : Int} (h1 : 1 ≤ len) (hn : 0 ≤ n) : 0 ≤ 1 + (n - 1).fdiv len ∧ n ≤ (1 + (n - 1).fdiv len) * len ∧ (1 + (n - 1).fdiv len) ≤ n := by
  have e := Int.mul_fdiv_add_fmod (n - 1) len
  have m0 := Int.fmod_nonneg_of_pos (n - 1) (show 0 < len by omega)
  have m1 := Int.fmod_lt_of_pos (n - 1) (show 0 < len by omega)
  generalize (n - 1).fdiv len = q at *
  generalize (n - 1).fmod len = r at *
  have e2 : (1 + q) * len = len + len * q := by rw [Int.add_mul, Int.one_mul, Int.mul_comm q]
  have hq : -1 ≤ q := by
    refine Int.not_lt.mp fun hlt => ?_
    have : len * (q + 1) ≤ len * (-1) := Int.mul_le_mul_of_nonneg_left (by omega) (by omega)
    rw [Int.mul_add] at this
    omega
  refine ⟨by omega, by omega, ?_⟩
  by_cases h0 : 0 ≤ q
  · have : 1 * q ≤ len * q := Int.mul_le_mul_of_nonneg_right h1 h0
    omega
  · omega
theorem rep_eq (x : PySem.Str) (n : Int) (h1 : 1 ≤ x.cps.size) (hn : 0 ≤ n) :
    Txt.slice (Txt.mul x (1 + (n - 1).fdiv x.length)) none (some n) = S (row x.cps.toList n.toNat) := by
  have hl : x.length = x.cps.toList.length := by simp [PySem.Str.length]
  have hp : 0 < x.cps.toList.length := by rw [Array.length_toList]; omega
  obtain ⟨hm0, hm1, _⟩ := mult_ge (n := n) (len := (x.length : Int)) (by rw [hl]; omega) hn
  generalize hk : 1 + (n - 1).fdiv (x.length : Int) = k at *
  obtain ⟨k', rfl⟩ := Int.eq_ofNat_of_zero_le hm0
  obtain ⟨n', rfl⟩ := Int.eq_ofNat_of_zero_le hn
  have hle : n' ≤ k' * x.cps.toList.length := by rw [← hl]; omega
  have e := mul_list x (k' : Int) hm0
  have hlen : (n' : Int) ≤ (Txt.mul x (k' : Int)).cps.toList.length := by
    rw [e, flat_rep_len]
    simp only [Int.toNat_natCast]
    omega
  have q := StrLaws.sliceText_to (x := Txt.mul x (k' : Int)) (j := (n' : Int)) ⟨by omega, hlen⟩
  refine Eq.trans q ?_
  rw [e]
  simp only [List.drop_zero, Int.sub_zero, Int.toNat_natCast]
  rw [take_row hp hle]; rfl
theorem item_eq (x : PySem.Str) (i : Int) (h0 : 0 ≤ i) (h1 : i < x.length) : Txt.item x i = S [x.cps.toList.getD i.toNat 0] := by
  unfold Txt.item Txt.charAt
  rw [StrLaws.seqIndex_nonneg h0 h1]
  have hlt : i.toNat < x.cps.size := by unfold PySem.Str.length at h1; omega
  simp [S, hlt]
theorem S_app (l r : List Nat) : S l ++ S r = S (l ++ r) := by
  apply PySem.Str.ext'
  rw [PySem.Str.cps_append]; simp [S]
theorem join_S {α : Type} (f : α → Nat) : ∀ l : List α, Txt.join (PySem.Str.ofString "") (l.map fun a => S [f a]) = S (l.map f) := by
  have e0 : PySem.Str.ofString "" = S [] := by decide
  intro l
  show Builtin.Str.glued _ _ = _
  rw [StrLaws.glued_eq_join, e0]
  induction l with
  | nil => rfl
  | cons a l ih =>
    cases l with
    | nil => rfl
    | cons b l =>
      show S [f a] ++ S [] ++ PySem.Str.join (S []) _ = _
      rw [ih, S_app, S_app]; rfl

def LetS (x : PySem.Str) : Prop := ∀ c ∈ x.cps.toList, c = 97 ∨ c = 98
theorem slice_to (x : PySem.Str) (c : Nat) (h : c ≤ x.length) : Txt.slice x none (some (c : Int)) = S (x.cps.toList.take c) := by
  have hl : x.length = x.cps.toList.length := by simp [PySem.Str.length]
  have q := StrLaws.sliceText_to (x := x) (j := (c : Int)) ⟨by omega, by omega⟩
  refine Eq.trans q ?_
  simp only [List.drop_zero, Int.sub_zero, Int.toNat_natCast]; rfl
theorem slice_but (x : PySem.Str) (h : 1 ≤ x.length) : Txt.slice x none (some (-1)) = S (x.cps.toList.take (x.length - 1)) := by
  have e : Txt.slice x none (some (-1)) = Txt.slice x none (some ((x.length - 1 : Nat) : Int)) := by
    show StrLaws.sliceText x none (some (-1)) = StrLaws.sliceText x none (some ((x.length - 1 : Nat) : Int))
    unfold StrLaws.sliceText
    have : Builtin.Str.strSliceIndices none (some (-1)) 1 x.length = Builtin.Str.strSliceIndices none (some ((x.length - 1 : Nat) : Int)) 1 x.length := by
      unfold Builtin.Str.strSliceIndices
      have a1 : ¬ (((x.length - 1 : Nat) : Int) < 0) := by omega
      have a2 : (-1 : Int) + (x.length : Int) = ((x.length - 1 : Nat) : Int) := by omega
      simp only [a1, if_false, show (-1 : Int) < 0 from by decide, if_true, a2]
    rw [this]
  rw [e, slice_to _ _ (by omega)]
theorem item_last (x : PySem.Str) (h : 1 ≤ x.length) : Txt.item x (-1) = S [x.cps.toList.getD (x.length - 1) 0] := by
  unfold Txt.item Txt.charAt
  rw [StrLaws.seqIndex_neg (by decide) (by omega)]
  have e : ((-1 : Int) + (x.length : Int)).toNat = x.length - 1 := by omega
  have hlt : x.length - 1 < x.cps.size := by unfold PySem.Str.length at *; omega
  rw [e]
  simp [S, hlt]
theorem mul_S (l : List Nat) (k : Int) (hk : 0 ≤ k) : Txt.mul (S l) k = S ((List.replicate k.toNat l).flatten) := by
  have e := mul_list (S l) k hk
  rw [S_cps] at e
  rw [← S_of (Txt.mul (S l) k), e]
theorem LetS_S {l : List Nat} (h : ∀ c ∈ l, c = 97 ∨ c = 98) : LetS (S l) := h
theorem let_rep {l : List Nat} (h : ∀ c ∈ l, c = 97 ∨ c = 98) (k : Nat) : ∀ c ∈ (List.replicate k l).flatten, c = 97 ∨ c = 98 := by
  intro c hc
  obtain ⟨r, hr, hcr⟩ := List.mem_flatten.mp hc
  rw [List.eq_of_mem_replicate hr] at hcr
  exact h c hcr

end Mine

-- part Base
namespace Mine
def bodyOf : Stmt → List Stmt
  | .FunctionDef _ _ b _ _ _ _ _ _ _ => b
  | _ => []
def scopeOf : Stmt → Scope
  | .FunctionDef _ _ _ _ _ _ s _ _ _ => s
  | _ => { kind := .function, names := [], isGenerator := false, isCoroutine := false }
def noSt : Stmt := .Pass ⟨0, 0, 0, 0⟩
def lawDef : Stmt := (Challenge.pw_at5022_01.main.body).getD 5 noSt
def lawBody : List Stmt := bodyOf lawDef
def lawScope : Scope := scopeOf lawDef
def st (i : Nat) : Stmt := lawBody.getD i noSt
abbrev LE (L a : Addr) (cd : Value) : Env := envOfC (Str.ofString "law") lawScope L a cd
theorem spell {h₀ h : Heap} {L : Addr} {m : Str → Option Value} {x : Str} {v : Value} (F : Fr h₀ L h m) (e : m x = some v) : Fr h₀ L h (fun y => if y = x then some v else m y) := by
  have q : (fun y => if y = x then some v else m y) = m := by
    funext y
    by_cases hy : y = x
    · rw [if_pos hy, hy, e]
    · rw [if_neg hy]
  rw [q]; exact F
theorem lk {m : Str → Option Value} {x y : Str} {v v' : Value} (e1 : m x = some v) (e2 : m y = some v') : (fun z => if z = x then some v else m z) y = some v' := by
  show (if y = x then some v else m y) = some v'
  by_cases h : y = x
  · rw [if_pos h, ← e1, ← h, e2]
  · rw [if_neg h, e2]
section
variable {h₀ h : Heap} {L : Addr} {m : Str → Option Value} {x1 x2 x3 x4 x5 x6 : Str} {v1 v2 v3 v4 v5 v6 : Value}
theorem spell2 (F : Fr h₀ L h m) (e1 : m x1 = some v1) (e2 : m x2 = some v2) : Fr h₀ L h (fun y => if y = x2 then some v2 else if y = x1 then some v1 else m y) := spell (spell F e1) (lk e1 e2)
theorem spell3 (F : Fr h₀ L h m) (e1 : m x1 = some v1) (e2 : m x2 = some v2) (e3 : m x3 = some v3) : Fr h₀ L h (fun y => if y = x3 then some v3 else if y = x2 then some v2 else if y = x1 then some v1 else m y) :=
  spell (spell2 F e1 e2) (lk (m := fun y => if y = x1 then some v1 else m y) (lk e1 e2) (lk e1 e3))
theorem spell4 (F : Fr h₀ L h m) (e1 : m x1 = some v1) (e2 : m x2 = some v2) (e3 : m x3 = some v3) (e4 : m x4 = some v4) : Fr h₀ L h (fun y => if y = x4 then some v4 else if y = x3 then some v3 else if y = x2 then some v2 else if y = x1 then some v1 else m y) :=
  spell3 (spell F e1) (lk e1 e2) (lk e1 e3) (lk e1 e4)
theorem spell5 (F : Fr h₀ L h m) (e1 : m x1 = some v1) (e2 : m x2 = some v2) (e3 : m x3 = some v3) (e4 : m x4 = some v4) (e5 : m x5 = some v5) : Fr h₀ L h (fun y => if y = x5 then some v5 else if y = x4 then some v4 else if y = x3 then some v3 else if y = x2 then some v2 else if y = x1 then some v1 else m y) :=
  spell4 (spell F e1) (lk e1 e2) (lk e1 e3) (lk e1 e4) (lk e1 e5)
theorem spell6 (F : Fr h₀ L h m) (e1 : m x1 = some v1) (e2 : m x2 = some v2) (e3 : m x3 = some v3) (e4 : m x4 = some v4) (e5 : m x5 = some v5) (e6 : m x6 = some v6) : Fr h₀ L h (fun y => if y = x6 then some v6 else if y = x5 then some v5 else if y = x4 then some v4 else if y = x3 then some v3 else if y = x2 then some v2 else if y = x1 then some v1 else m y) :=
  spell5 (spell F e1) (lk e1 e2) (lk e1 e3) (lk e1 e4) (lk e1 e5) (lk e1 e6)
end
end Mine

-- part R1
namespace Mine
theorem mulOk_of {x : PySem.Str} {k : Int} (h0 : 0 ≤ k) (h1 : k ≤ 1000) (h2 : x.length ≤ 100) : MulOk x k := by
  refine ⟨?_, fun h hb => ?_, fun h hb => ?_⟩
  · rw [Bool.or_eq_false_iff, decide_eq_false_iff_not, decide_eq_false_iff_not]; omega
  · have : (2 ^ 63 - 1) / (1000 : Int) ≤ (2 ^ 63 - 1) / k := by
      refine Int.le_ediv_of_mul_le (by omega) ?_
      have : (2 ^ 63 - 1) / (1000 : Int) * k ≤ (2 ^ 63 - 1) / (1000 : Int) * 1000 := Int.mul_le_mul_of_nonneg_left h1 (by decide)
      omega
    have h9 : ((100 : Nat) : Int) ≤ (2 ^ 63 - 1) / (1000 : Int) := by decide
    omega
  · have : x.length * k.toNat ≤ 100 * 1000 := Nat.mul_le_mul h2 (by omega)
    simp only [Builtin.Str.tooLong, decide_eq_false_iff_not, sizeLine_eq]
    omega
theorem rep_str {w : World} {A A₀ : Around} {base h₀ : Heap} {outer : List Env} {env : Env} {L : Addr} {m : Str → Option Value} {news : List (Addr × Obj)} {s : Shared}
   {loose : List Str} {mean : ExcName → Option Value} {mg mb : Str → Option Value} {Q : Value → Shared → Prop} {E : Value → Shared → Prop} {x : Str} {tx tn : Tok} {n : Int}
   (B : Below A₀ base outer h₀) (F : Fr h₀ L s.heap m) (X : (Mine.hd.heap_39 w.params).In h₀) (N : News h₀ L s.heap news) (T : Top Mine.hd.view_39 loose mean mg mb h₀)
   (hA : A.frames = some (env :: outer)) (hf : env.frame = some L) (hke : env.scope.kind = .function) (hroom : A.depth < recursionLimit)
   (hx : 1 ≤ x.length) (hx2 : x.length ≤ 100) (hn : 0 ≤ n) (hn2 : n ≤ 1000)
   (k : ∀ h' tk t, Fr h₀ L h' m → News h₀ L h' news → Q (.str (S (row x.cps.toList n.toNat)) t) { s with heap := h', toks := tk }) :
   wpAny (model Challenge.rw_at5022_01.row.prog w) A (call (.ref 21) [.str x tx, .int n tn]) Q E s := by
  revert X; k_fill; intro X
  refine wpAny_call ?_
  refine' code_def (binds := [((Str.ofString "source"), .str x tx), ((Str.ofString "size"), .int n tn)]) B F X N T hA hf hke ?k6 ?k7 hroom ?k9 ?kB ?_ ?c2 ?c3 ?c4 ?c5
  (case k6 => k_is); (case k7 => k_is); (case k9 => exact BindsTo.of_eq rfl); (case c5 => decide); (case kB => exact locs rfl); (case c2 => exact rfl); (case c3 => exact rfl); (case c4 => exact rfl)
  clear F B X N T
  intro g' L' h' FG' F' N' B' X' T'; (try dsimp only)
  (try k_lift B'); (try k_fold)
  k_steps
  obtain ⟨hm0, hm1, hm2⟩ := mult_ge (n := n) (len := (x.length : Int)) (by omega) hn
  have hp : (1 + (n - 1).fdiv ↑x.length) * x.length ≤ 1000 * 100 := Int.mul_le_mul (by omega) (by omega) (by omega) (by omega)
  refine SB.mul (mulOk_of (by omega) (by omega) (by omega)) ?_
  intro t' tk'
  iterate 6 (first | walk1 | (dsimp only; walk1) | skip)
  dsimp only
  with_reducible rename Fr _ _ _ _ => F9
  with_reducible rename News _ _ _ _ => N9
  refine slice_strN_ns (hsz := ?hsz) (s := ⟨_, _, _, _, _⟩) F9 N9 ?_
  case hsz =>
    have e := len_mul x (1 + (n - 1).fdiv ↑x.length)
    rw [if_neg (by rw [decide_eq_true_eq]; omega), Int.mul_comm] at e
    rw [sizeLine_eq]
    omega
  intro h2 t2 k2 F2 N2
  rw [rep_eq x n hx hn]
  k_steps
  exact leaveK_ F2 N2 fun a b => k _ _ _ a b
end Mine

-- part S1
namespace Mine
theorem law_s1 {w : World} {h₀ : Heap} {L a : Addr} {cd : Value} {loose : List Str} {mean : ExcName → Option Value} {mg mb : Str → Option Value} {Q : Flow → Shared → Prop} {m : Str → Option Value} {s : Shared}
   {c1 c2 c3 c4 : Obj} {l : Addr} {vs : List Value} {ns : List Int} {v2 : Option Value}
   (B : Below callerA h₀ [] h₀) (F : Fr h₀ L s.heap m) (X : (Mine.hd.heap_39 w.params).In h₀) (T : Top Mine.hd.view_39 loose mean mg mb h₀)
   (N : News h₀ L s.heap [(L + 1 + 1 + 1 + 1, c4), (L + 1 + 1 + 1, c3), (L + 1 + 1, c2), (L + 1, c1)])
   (h1 : c1.data = .cell (some (.ref l))) (h2 : c2.data = .cell v2) (hl : h₀.IsList l vs.toArray) (hi : IntsAre vs ns) (hns : ns.length ≤ 63)
   (k : ∀ h' tk m' c2' D d0 d1 d2 t0 t1 t2, Fr h₀ L h' m' → News h₀ L h' [(D, LCg.lst [.int d0 t0, .int d1 t1, .int d2 t2]), (L + 1 + 1 + 1 + 1, c4), (L + 1 + 1 + 1, c3), (L + 1 + 1, c2'), (L + 1, c1)] → c2'.data = .cell (some (.ref D)) →
      Q .next { s with heap := h', toks := tk }) :
   wpAny (model Challenge.rw_at5022_01.row.prog w) (callerA.deeper (LE L a cd)) (exec (st 0) (LE L a cd)) Q (fun _ _ => False) s := by
  revert X; k_fill; intro X
  conv in (st 0) => whnf
  iterate 9 (first | walk1 | (dsimp only; walk1))
  refine LCg.CompSrc.range (n := 3) (by rfl) (by k_asm) (by k_asm) (by assumption) (by decide) (by rfl) (by decide) ?_
  intro g'
  refine kcf_range (fun k => if k < ns.length then ns.getD k.toNat 0 else [264, 9, 41].getD k.toNat 0) ?_ ?_
  · intro k' t' I' oI' C' oC' D' m' ys' h' tk' E' hlo' hhi' hC' hx' F' N' off' ne'
    simp only [LCg.Off3, and_true] at off'
    intro mk
    k_steps
  · intro ys hys
    have e3 : List.map (fun k : Int => if k < ns.length then ns.getD k.toNat 0 else [264, 9, 41].getD k.toNat 0) (rangeKs 0 3) = [_, _, _] := rfl
    rw [e3] at hys
    cases hys with
    | cons d0 t0 hys =>
    cases hys with
    | cons d1 t1 hys =>
    cases hys with
    | cons d2 t2 hys =>
    cases hys
    intro D h9 tk9 F' N' o1
    dsimp only
    walk1
    dsimp only
    exact k _ _ _ _ _ _ _ _ _ _ _ (by assumption) (by assumption) (by assumption)
end Mine

-- part S2
namespace Mine
theorem law_s2 {w : World} {h₀ : Heap} {L a : Addr} {cd : Value} {loose : List Str} {mean : ExcName → Option Value} {mg mb : Str → Option Value} {Q : Flow → Shared → Prop} {m : Str → Option Value} {s : Shared}
   {c1 c2 c3 c4 : Obj} {D : Addr} {d0 d1 d2 : Int} {t0 t1 t2 : Tok} {v3 : Option Value}
   (B : Below callerA h₀ [] h₀) (F : Fr h₀ L s.heap m) (X : (Mine.hd.heap_39 w.params).In h₀) (T : Top Mine.hd.view_39 loose mean mg mb h₀)
   (N : News h₀ L s.heap [(D, LCg.lst [.int d0 t0, .int d1 t1, .int d2 t2]), (L + 1 + 1 + 1 + 1, c4), (L + 1 + 1 + 1, c3), (L + 1 + 1, c2), (L + 1, c1)])
   (h2 : c2.data = .cell (some (.ref D))) (h3 : c3.data = .cell v3)
   (k : ∀ h' tk m' c3' t t' t'', Fr h₀ L h' m' → News h₀ L h' [(D, LCg.lst [.int d0 t0, .int d1 t1, .int d2 t2]), (L + 1 + 1 + 1 + 1, c4), (L + 1 + 1 + 1, c3'), (L + 1 + 1, c2), (L + 1, c1)] → c3'.data = .cell (some (.int (1 + (d0.fdiv 3).fmod 12) t)) →
      m' (Str.ofString "kind") = some (.int (d0.fmod 3) t') → m' (Str.ofString "other") = some (.int (1 + (d0.fdiv 36).fmod 12) t'') → Q .next { s with heap := h', toks := tk }) :
   wpAny (model Challenge.rw_at5022_01.row.prog w) (callerA.deeper (LE L a cd)) (exec (st 1) (LE L a cd)) Q (fun _ _ => False) s := by
  revert X; k_fill; intro X
  conv in (st 1) => whnf
  k_steps
  with_reducible rename Fr _ _ _ _ => F9
  with_reducible rename News _ _ _ _ => N9
  exact k _ _ _ _ _ _ _ F9 (cb_drop N9 (by intro p hp; exact List.mem_cons_of_mem _ hp)) (by assumption) rfl rfl
theorem law_s3 {w : World} {h₀ : Heap} {L a : Addr} {cd : Value} {loose : List Str} {mean : ExcName → Option Value} {mg mb : Str → Option Value} {Q : Flow → Shared → Prop} {m : Str → Option Value} {s : Shared}
   {c1 c2 c3 c4 : Obj} {news : List (Addr × Obj)} {size other kind : Int} {t1 t2 t3 : Tok}
   (B : Below callerA h₀ [] h₀) (F : Fr h₀ L s.heap m) (X : (Mine.hd.heap_39 w.params).In h₀) (T : Top Mine.hd.view_39 loose mean mg mb h₀)
   (N : News h₀ L s.heap ((L + 1 + 1 + 1, c3) :: news))
   (h3 : c3.data = .cell (some (.int size t1))) (hk : m (Str.ofString "kind") = some (.int kind t3)) (ho : m (Str.ofString "other") = some (.int other t2))
   (k : ∀ h' tk m' t t' t3 t4, Fr h₀ L h' m' → News h₀ L h' ((L + 1 + 1 + 1, c3) :: news) → m' (Str.ofString "kind") = some (.int kind t3) → m' (Str.ofString "other") = some (.int other t4) →
      m' (Str.ofString "common") = some (.int size t) → m' (Str.ofString "left") = some (.int other t') → Q .next { s with heap := h', toks := tk }) :
   wpAny (model Challenge.rw_at5022_01.row.prog w) (callerA.deeper (LE L a cd)) (exec (st 2) (LE L a cd)) Q (fun _ _ => False) s := by
  revert X; k_fill; intro X
  conv in (st 2) => whnf
  replace F := spell2 F hk ho
  k_steps
  with_reducible rename Fr _ _ _ _ => F9
  with_reducible rename News _ _ _ _ => N9
  exact k _ _ _ _ _ _ _ F9 (cb_drop N9 (by intro p hp; exact List.mem_cons_of_mem _ hp)) rfl rfl rfl rfl
end Mine

-- part S4
namespace Mine
def eu (p : Int × Int) : Int × Int := if p.2 > 0 then (p.2, p.1.fmod p.2) else p
theorem law_s4 {w : World} {h₀ : Heap} {L a : Addr} {cd : Value} {loose : List Str} {mean : ExcName → Option Value} {mg mb : Str → Option Value} {Q : Flow → Shared → Prop} {m : Str → Option Value} {s : Shared}
   {news : List (Addr × Obj)} {size other kind : Int} {t1 t2 t3 t4 : Tok}
   (B : Below callerA h₀ [] h₀) (F : Fr h₀ L s.heap m) (X : (Mine.hd.heap_39 w.params).In h₀) (T : Top Mine.hd.view_39 loose mean mg mb h₀)
   (N : News h₀ L s.heap news)
   (hk : m (Str.ofString "kind") = some (.int kind t1)) (ho : m (Str.ofString "other") = some (.int other t2)) (hc : m (Str.ofString "common") = some (.int size t3)) (hl : m (Str.ofString "left") = some (.int other t4))
   (k : ∀ h' tk m' t1 t2 t3, Fr h₀ L h' m' → News h₀ L h' news → m' (Str.ofString "kind") = some (.int kind t1) → m' (Str.ofString "other") = some (.int other t2) →
      m' (Str.ofString "common") = some (.int (eu (eu (eu (eu (eu (eu (size, other))))))).1 t3) → Q .next { s with heap := h', toks := tk }) :
   wpAny (model Challenge.rw_at5022_01.row.prog w) (callerA.deeper (LE L a cd)) (exec (st 3) (LE L a cd)) Q (fun _ _ => False) s := by
  revert X; k_fill; intro X
  conv in (st 3) => whnf
  refine For_invVF F (by rfl) (by rfl) ?_ (by intro _; rfl) PassesOwn.never
  iterate 7 (first | walk1 | (dsimp only; walk1))
  with_reducible rename Fr _ _ _ _ => F9
  with_reducible rename News _ _ _ _ => N9
  with_reducible rename IsRange _ _ _ _ _ _ _ _ => R9
  dsimp only at F9 N9 R9 ⊢
  refine iter_rangeS (σ := Int × Int) (n := 6) (fun p m nx => nx = news ∧ (∃ t, m (Str.ofString "kind") = some (.int kind t)) ∧ (∃ t, m (Str.ofString "other") = some (.int other t)) ∧ (∃ t, m (Str.ofString "common") = some (.int p.1 t)) ∧ ∃ t, m (Str.ofString "left") = some (.int p.2 t))
    (fun p _ => eu p) (size, other) (by rfl) R9 (by decide) (by rfl) F9 N9 ⟨rfl, ⟨_, hk⟩, ⟨_, ho⟩, ⟨_, hc⟩, ⟨_, hl⟩⟩ ?_ ?_
  · clear F9 N9 R9 hk ho hc hl
    rintro kk tt ⟨c, d⟩ m₁ nx h tk own hkk hoff ⟨rfl, ⟨u1, e1⟩, ⟨u2, e2⟩, ⟨u3, e3⟩, ⟨u4, e4⟩⟩ F' N'
    dsimp only at e3 e4
    have F' := spell4 F' (x1 := Str.ofString "kind") (x2 := Str.ofString "other") (x3 := Str.ofString "common") (x4 := Str.ofString "left") ((if_neg (by decide)).trans e1) ((if_neg (by decide)).trans e2) ((if_neg (by decide)).trans e3) ((if_neg (by decide)).trans e4)
    k_steps
    · with_reducible rename Fr _ _ _ _ => F9
      with_reducible rename News _ _ _ _ => N9
      have e : eu (c, d) = (d, c.fmod d) := if_pos (by assumption)
      rw [e]
      exact InvEndN.intro F9 N9 ⟨rfl, ⟨_, rfl⟩, ⟨_, rfl⟩, ⟨_, rfl⟩, ⟨_, rfl⟩⟩ rfl (fun p hp => List.mem_cons_of_mem _ (List.mem_append_left _ hp)) (fun p hp => List.mem_cons_of_mem _ (List.mem_append_right _ hp))
    · with_reducible rename Fr _ _ _ _ => F9
      with_reducible rename News _ _ _ _ => N9
      have e : eu (c, d) = (c, d) := if_neg (by assumption)
      rw [e]
      exact InvEndN.intro F9 N9 ⟨rfl, ⟨_, rfl⟩, ⟨_, rfl⟩, ⟨_, rfl⟩, ⟨_, rfl⟩⟩ rfl (fun p hp => (List.mem_append_left _ hp)) (fun p hp => (List.mem_append_right _ hp))
  · rintro m₁ nx h tk ⟨rfl, ⟨u1, e1⟩, ⟨u2, e2⟩, ⟨u3, e3⟩, _⟩ F' N'
    exact k _ _ _ _ _ _ F' N' e1 e2 e3
end Mine

-- part S5
namespace Mine
theorem law_s5 {w : World} {h₀ : Heap} {L a : Addr} {cd : Value} {loose : List Str} {mean : ExcName → Option Value} {mg mb : Str → Option Value} {Q : Flow → Shared → Prop} {m : Str → Option Value} {s : Shared}
   {c1 c2 c3 c4 : Obj} {D : Addr} {d0 d1 d2 size : Int} {t0 t1 t2 t3 : Tok} {v4 : Option Value}
   (B : Below callerA h₀ [] h₀) (F : Fr h₀ L s.heap m) (X : (Mine.hd.heap_39 w.params).In h₀) (T : Top Mine.hd.view_39 loose mean mg mb h₀)
   (N : News h₀ L s.heap [(D, LCg.lst [.int d0 t0, .int d1 t1, .int d2 t2]), (L + 1 + 1 + 1 + 1, c4), (L + 1 + 1 + 1, c3), (L + 1 + 1, c2), (L + 1, c1)])
   (h2 : c2.data = .cell (some (.ref D))) (h3 : c3.data = .cell (some (.int size t3))) (h4 : c4.data = .cell v4) (hs1 : 1 ≤ size) (hs2 : size ≤ 12)
   (k : ∀ h' tk c4' x t, Fr h₀ L h' m → News h₀ L h' [(D, LCg.lst [.int d0 t0, .int d1 t1, .int d2 t2]), (L + 1 + 1 + 1 + 1, c4'), (L + 1 + 1 + 1, c3), (L + 1 + 1, c2), (L + 1, c1)] → c4'.data = .cell (some (.str x t)) →
      LetS x → (x.length : Int) = size → Q .next { s with heap := h', toks := tk }) :
   wpAny (model Challenge.rw_at5022_01.row.prog w) (callerA.deeper (LE L a cd)) (exec (st 4) (LE L a cd)) Q (fun _ _ => False) s := by
  revert X; k_fill; intro X
  conv in (st 4) => whnf
  iterate 14 (first | walk1 | (dsimp only; walk1))
  obtain ⟨n, rfl⟩ := Int.eq_ofNat_of_zero_le (show 0 ≤ size by omega)
  refine LCg.CompSrc.range (n := n) (by rfl) (by k_asm) (by k_asm) (by assumption) (small_one (by decide) (by decide) (by omega) (by omega)) (rangeSize_nat _ _) (by rw [sizeLine_eq]; omega) ?_
  intro g'
  refine kct_range (fun k => S [if Builtin.bitAnd (d1.fdiv (2 ^ k.toNat)) 1 = 0 then 97 else 98]) ?_ ?_
  · intro k' t' I' oI' C' oC' D' m' ys' h' tk' E' hlo' hhi' hC' hx' F' N' off' ne'
    have off2 := off'
    simp only [LCg.Off3, and_true] at off2
    intro mk
    dsimp only
    iterate 12 (first | walk1 | (dsimp only; walk1))
    dsimp only
    have hd1 : [d0, d1, d2].getD (Int.toNat 1) 0 = d1 := rfl
    rw [hd1]
    have hb := bitAnd_m1 (d1.fdiv (2 ^ k'.toNat))
    generalize Builtin.bitAnd (d1.fdiv (2 ^ k'.toNat)) 1 = e at hb ⊢
    have hl2 : (PySem.Str.ofString "ab").length = 2 := by decide
    have hlen : ((PySem.Str.ofString "ab").length : Int) = 2 := by rw [hl2]; rfl
    refine item_str (fitsSsize_of (N := 9223372036854775808) (by omega) (by omega) (by decide)) (by omega) (by omega) ?_
    intro _
    refine LCg.CompEnd.intro F' N' _ (fun p hp => hp) off' trivial (kct_el ?_ rfl rfl)
    rw [item_eq _ _ (by omega) (by omega)]
    congr 2
    by_cases h0 : e = 0
    · rw [if_pos h0, h0]; decide
    · rw [if_neg h0, show e = 1 by omega]; decide
  · intro ys hys hlen
    intro D9 h9 tk9 F' N' o1
    dsimp only
    walk1
    try dsimp only
    refine KT.join_B (l := rangeKs 0 n) (g := fun k => S [if Builtin.bitAnd (d1.fdiv (2 ^ k.toNat)) 1 = 0 then 97 else 98]) 1 (News.isList N' (.head _)) hys (fun a _ => Nat.le_of_eq rfl) (by rw [hlen]; omega) (by decide) ?_
    intro t7 k7
    rw [join_S]
    walk1
    dsimp only
    refine k _ _ _ _ _ (by assumption) (cb_drop (by assumption) ?_) (by assumption) ?_ ?_
    · intro p hp; exact List.mem_cons_of_mem _ hp
    · intro c hc
      rw [S_cps] at hc
      obtain ⟨j, _, rfl⟩ := List.mem_map.mp hc
      split
      · exact .inl rfl
      · exact .inr rfl
    · rw [S_len, List.length_map, hlen]
end Mine

-- part S6
namespace Mine
theorem law_s6 {w : World} {h₀ : Heap} {L a : Addr} {cd : Value} {loose : List Str} {mean : ExcName → Option Value} {mg mb : Str → Option Value} {Q : Flow → Shared → Prop} {m : Str → Option Value} {s : Shared}
   {c1 c2 c3 c4 : Obj} {D : Addr} {d0 d1 d2 size kind common : Int} {t0 t1 t2 u1 u2 u3 : Tok}
   (B : Below callerA h₀ [] h₀) (F : Fr h₀ L s.heap m) (X : (Mine.hd.heap_39 w.params).In h₀) (T : Top Mine.hd.view_39 loose mean mg mb h₀)
   (N : News h₀ L s.heap [(D, LCg.lst [.int d0 t0, .int d1 t1, .int d2 t2]), (L + 1 + 1 + 1 + 1, c4), (L + 1 + 1 + 1, c3), (L + 1 + 1, c2), (L + 1, c1)])
   (h2 : c2.data = .cell (some (.ref D))) (hk : m (Str.ofString "kind") = some (.int kind u1)) (ho : m (Str.ofString "other") = some (.int size u2)) (hc : m (Str.ofString "common") = some (.int common u3)) (hs1 : 1 ≤ size) (hs2 : size ≤ 12)
   (k : ∀ h' tk m' x t u1 u2 u3, Fr h₀ L h' m' → News h₀ L h' [(D, LCg.lst [.int d0 t0, .int d1 t1, .int d2 t2]), (L + 1 + 1 + 1 + 1, c4), (L + 1 + 1 + 1, c3), (L + 1 + 1, c2), (L + 1, c1)] →
      m' (Str.ofString "kind") = some (.int kind u1) → m' (Str.ofString "other") = some (.int size u2) → m' (Str.ofString "common") = some (.int common u3) → m' (Str.ofString "second") = some (.str x t) →
      LetS x → (x.length : Int) = size → Q .next { s with heap := h', toks := tk }) :
   wpAny (model Challenge.rw_at5022_01.row.prog w) (callerA.deeper (LE L a cd)) (exec (st 5) (LE L a cd)) Q (fun _ _ => False) s := by
  revert X; k_fill; intro X
  conv in (st 5) => whnf
  replace F := spell3 F hk ho hc
  iterate 14 (first | walk1 | (dsimp only; walk1))
  obtain ⟨n, rfl⟩ := Int.eq_ofNat_of_zero_le (show 0 ≤ size by omega)
  refine LCg.CompSrc.range (n := n) (by rfl) (by k_asm) (by k_asm) (by assumption) (small_one (by decide) (by decide) (by omega) (by omega)) (rangeSize_nat _ _) (by rw [sizeLine_eq]; omega) ?_
  intro g'
  refine kct_range (fun k => S [if Builtin.bitAnd (d2.fdiv (2 ^ k.toNat)) 1 = 0 then 97 else 98]) ?_ ?_
  · intro k' t' I' oI' C' oC' D' m' ys' h' tk' E' hlo' hhi' hC' hx' F' N' off' ne'
    have off2 := off'
    simp only [LCg.Off3, and_true] at off2
    intro mk
    dsimp only
    iterate 12 (first | walk1 | (dsimp only; walk1))
    dsimp only
    have hd1 : [d0, d1, d2].getD (Int.toNat 2) 0 = d2 := rfl
    rw [hd1]
    have hb := bitAnd_m1 (d2.fdiv (2 ^ k'.toNat))
    generalize Builtin.bitAnd (d2.fdiv (2 ^ k'.toNat)) 1 = e at hb ⊢
    have hl2 : (PySem.Str.ofString "ab").length = 2 := by decide
    have hlen : ((PySem.Str.ofString "ab").length : Int) = 2 := by rw [hl2]; rfl
    refine item_str (fitsSsize_of (N := 9223372036854775808) (by omega) (by omega) (by decide)) (by omega) (by omega) ?_
    intro _
    refine LCg.CompEnd.intro F' N' _ (fun p hp => hp) off' trivial (kct_el ?_ rfl rfl)
    rw [item_eq _ _ (by omega) (by omega)]
    congr 2
    by_cases h0 : e = 0
    · rw [if_pos h0, h0]; decide
    · rw [if_neg h0, show e = 1 by omega]; decide
  · intro ys hys hlen
    intro D9 h9 tk9 F' N' o1
    dsimp only
    walk1
    try dsimp only
    refine KT.join_B (l := rangeKs 0 n) (g := fun k => S [if Builtin.bitAnd (d2.fdiv (2 ^ k.toNat)) 1 = 0 then 97 else 98]) 1 (News.isList N' (.head _)) hys (fun a _ => Nat.le_of_eq rfl) (by rw [hlen]; omega) (by decide) ?_
    intro t7 k7
    rw [join_S]
    walk1
    dsimp only
    with_reducible rename Fr _ _ _ _ => F9
    refine k _ _ _ _ _ _ _ _ F9 (cb_drop (by assumption) ?_) rfl rfl rfl rfl ?_ ?_
    · intro p hp; exact List.mem_cons_of_mem _ hp
    · intro c hc
      rw [S_cps] at hc
      obtain ⟨j, _, rfl⟩ := List.mem_map.mp hc
      split
      · exact .inl rfl
      · exact .inr rfl
    · rw [S_len, List.length_map, hlen]
end Mine

-- part S7
namespace Mine
theorem law_s7 {w : World} {h₀ : Heap} {L a : Addr} {cd : Value} {loose : List Str} {mean : ExcName → Option Value} {mg mb : Str → Option Value} {Q : Flow → Shared → Prop} {m : Str → Option Value} {s : Shared}
   {c1 c2 c3 c4 : Obj} {D : Addr} {d0 d1 d2 kind : Int} {v0 v1 v2 : Tok} {p q c : Nat} {t0 t1 t2 u1 u2 u3 u4 : Tok} {x y : PySem.Str}
   (B : Below callerA h₀ [] h₀) (F : Fr h₀ L s.heap m) (X : (Mine.hd.heap_39 w.params).In h₀) (T : Top Mine.hd.view_39 loose mean mg mb h₀)
   (N : News h₀ L s.heap [(D, LCg.lst [.int d0 v0, .int d1 v1, .int d2 v2]), (L + 1 + 1 + 1 + 1, c4), (L + 1 + 1 + 1, c3), (L + 1 + 1, c2), (L + 1, c1)])
   (h4 : c4.data = .cell (some (.str x t0))) (h3 : c3.data = .cell (some (.int p t1)))
   (hk : m (Str.ofString "kind") = some (.int kind u1)) (ho : m (Str.ofString "other") = some (.int q u2)) (hc : m (Str.ofString "common") = some (.int c u3)) (hs : m (Str.ofString "second") = some (.str y u4))
   (hx : LetS x) (hxl : (x.length : Int) = p) (hy : LetS y) (hyl : (y.length : Int) = q) (hp1 : 1 ≤ p) (hp2 : p ≤ 12) (hq1 : 1 ≤ q) (hq2 : q ≤ 12) (hc1 : 1 ≤ c) (hcp : c ∣ p) (hcq : c ∣ q)
   (k : ∀ h' tk m' c4' x' y' t u2 u3 u4, Fr h₀ L h' m' → News h₀ L h' [(D, LCg.lst [.int d0 v0, .int d1 v1, .int d2 v2]), (L + 1 + 1 + 1 + 1, c4'), (L + 1 + 1 + 1, c3), (L + 1 + 1, c2), (L + 1, c1)] → c4'.data = .cell (some (.str x' t)) →
      m' (Str.ofString "other") = some (.int q u2) → m' (Str.ofString "common") = some (.int c u3) → m' (Str.ofString "second") = some (.str y' u4) →
      LetS x' → (x'.length : Int) = p → LetS y' → (y'.length : Int) = q → Q .next { s with heap := h', toks := tk }) :
   wpAny (model Challenge.rw_at5022_01.row.prog w) (callerA.deeper (LE L a cd)) (exec (st 6) (LE L a cd)) Q (fun _ _ => False) s := by
  revert X; k_fill; intro X
  conv in (st 6) => whnf
  replace F := spell4 F hk ho hc hs
  have hc0 : (c : Int) ≠ 0 := by omega
  have hcle : c ≤ p := Nat.le_of_dvd hp1 hcp
  have hcle2 : c ≤ q := Nat.le_of_dvd hq1 hcq
  have e1 := slice_to x c (by omega)
  have e2 : (p : Int).fdiv c = ((p / c : Nat) : Int) := by rw [Int.fdiv_eq_ediv_of_nonneg _ (by omega)]; rfl
  have e3 : (q : Int).fdiv c = ((q / c : Nat) : Int) := by rw [Int.fdiv_eq_ediv_of_nonneg _ (by omega)]; rfl
  have e4 : p / c * c = p := Nat.div_mul_cancel hcp
  have e5 : q / c * c = q := Nat.div_mul_cancel hcq
  have e6 : p / c ≤ p := Nat.div_le_self _ _
  have e7 : q / c ≤ q := Nat.div_le_self _ _
  have hcl : (S (x.cps.toList.take c)).length = c := by rw [S_len, List.length_take, Array.length_toList]; unfold PySem.Str.length at hxl; omega
  have hroot : ∀ d ∈ x.cps.toList.take c, d = 97 ∨ d = 98 := fun d hd => hx d (List.mem_of_mem_take hd)
  generalize p / c = kp at *
  generalize q / c = kq at *
  generalize hr : x.cps.toList.take c = r at *
  have hrl : r.length = c := by rw [← S_len]; exact hcl
  have hf1 := flat_rep_len r kp
  have hf2 := flat_rep_len r kq
  rw [hrl, e4] at hf1
  rw [hrl, e5] at hf2
  have hz1 := let_rep hroot kp
  have hz2 := let_rep hroot kq
  have eX : Txt.mul (Txt.slice x none (some ↑c)) ((↑p : Int).fdiv ↑c) = S (List.replicate kp r).flatten := by rw [e1, e2, mul_S _ _ (by omega)]; rfl
  have eY : Txt.mul (Txt.slice x none (some ↑c)) ((↑q : Int).fdiv ↑c) = S (List.replicate kq r).flatten := by rw [e1, e3, mul_S _ _ (by omega)]; rfl
  generalize (List.replicate kp r).flatten = f1 at *
  generalize (List.replicate kq r).flatten = f2 at *
  k_steps
  · dsimp only
    with_reducible rename Fr _ _ _ _ => F9
    with_reducible rename News _ _ _ _ => N9
    with_reducible rename Obj.data _ = _ => d9
    rw [eX] at d9
    simp only [eX, eY] at F9 N9 ⊢
    refine slice_strN_ns (hsz := ?hsz) (s := ⟨_, _, _, _, _⟩) F9 N9 ?_
    case hsz => rw [S_len, sizeLine_eq]; omega
    clear F9 N9
    intro h9 t9 k9 F9 N9
    rw [slice_but _ (by rw [S_len]; omega), S_len, S_cps]
    have hl1 : (S f1).length = p := by rw [S_len]; exact hf1
    have hzt : ∀ e, ∀ d ∈ f1.take (f1.length - 1) ++ [e], e = 97 ∨ e = 98 → d = 97 ∨ d = 98 := by
      intro e d hd he
      rcases List.mem_append.mp hd with h | h
      · exact hz1 d (List.mem_of_mem_take h)
      · rw [List.mem_singleton.mp h]; exact he
    have hlt : ∀ e : Nat, (f1.take (f1.length - 1) ++ [e]).length = p := by intro e; simp; omega
    have eb : PySem.Str.ofString "b" = S [98] := by decide
    have ea : PySem.Str.ofString "a" = S [97] := by decide
    dsimp only
    iterate 12 (first | walk1 | (dsimp only; walk1))
    all_goals (walk1; dsimp only)
    · rw [eb]
      refine SB.add ?_ (by rw [S_len, S_len, List.length_take, sizeLine_eq]; simp only [List.length_cons, List.length_nil]; omega)
      intro ta ka
      rw [S_app]
      dsimp only
      walk1
      with_reducible rename Fr _ _ _ _ => F8
      with_reducible rename News _ _ _ _ => N8
      with_reducible rename Obj.data _ = _ => d8
      dsimp only
      iterate 2 walk1
      exact k _ _ _ _ _ _ _ _ _ _ F8 (cb_drop N8 (fun p hp => List.mem_cons_of_mem _ hp)) d8 rfl rfl rfl (fun d hd => hzt _ d hd (.inr rfl)) (by rw [S_len, hlt]) hz2 (by rw [S_len, hf2])
    · rw [ea]
      refine SB.add ?_ (by rw [S_len, S_len, List.length_take, sizeLine_eq]; simp only [List.length_cons, List.length_nil]; omega)
      intro ta ka
      rw [S_app]
      dsimp only
      walk1
      with_reducible rename Fr _ _ _ _ => F8
      with_reducible rename News _ _ _ _ => N8
      with_reducible rename Obj.data _ = _ => d8
      dsimp only
      iterate 2 walk1
      exact k _ _ _ _ _ _ _ _ _ _ F8 (cb_drop N8 (fun p hp => List.mem_cons_of_mem _ hp)) d8 rfl rfl rfl (fun d hd => hzt _ d hd (.inl rfl)) (by rw [S_len, hlt]) hz2 (by rw [S_len, hf2])
  · with_reducible rename Fr _ _ _ _ => F9
    with_reducible rename News _ _ _ _ => N9
    with_reducible rename Obj.data _ = _ => d9
    rw [eX] at d9
    simp only [eX, eY] at F9 N9 ⊢
    exact k _ _ _ _ _ _ _ _ _ _ F9 (cb_drop N9 (fun p hp => List.mem_cons_of_mem _ hp)) d9 rfl rfl rfl hz1 (by rw [S_len, hf1]) hz2 (by rw [S_len, hf2])
  · with_reducible rename Fr _ _ _ _ => F9
    with_reducible rename News _ _ _ _ => N9
    exact k _ _ _ _ _ _ _ _ _ _ F9 N9 h4 rfl rfl rfl hx hxl hy hyl
end Mine

-- part Lp
namespace Mine
section
variable {prog : Program} {w : World} {A : Around} {E : Value → Shared → Prop} {s : Shared} {env : Env} {h₀ : Heap} {x : Str} {body : List Stmt} {Q : Flow → Shared → Prop}
def TurnEnd (h₀ : Heap) (L : Addr) (s : Shared) (I : Addr) (oI : Obj) (J : (Str → Option Value) → List (Addr × Obj) → Prop) (f : Flow) (s₂ : Shared) : Prop :=
  f = .next ∧ ∃ h' tk m₂ news₂, s₂ = { s with heap := h', toks := tk } ∧ Fr h₀ L h' m₂ ∧ News h₀ L h' ((I, oI) :: news₂) ∧ (∀ p ∈ news₂, p.1 ≠ I) ∧ J m₂ news₂
theorem iter_rangeW {r : Addr} {b₀ : Int} {t₀ u₀ v₀ : Tok} {n : Nat} {m₀ : Str → Option Value} {news : List (Addr × Obj)}
    (J : Nat → (Str → Option Value) → List (Addr × Obj) → Prop)
    (hh : A.handled = none) (hr : IsRange s.heap r 0 b₀ 1 t₀ u₀ v₀) (hsmall : Builtin.Range.small 0 b₀ 1 = true) (hn : Builtin.Range.rangeSize 0 b₀ 1 = (n : Int)) (F : Fr h₀ env.locals s.heap m₀) (N : News h₀ env.locals s.heap news)
    (h0 : J 0 m₀ news)
    (turn : ∀ i t m₁ nx h tk I oI, i < n → J i m₁ nx → (∀ p ∈ nx, p.1 ≠ I) → Fr h₀ env.locals h (fun y => if y = x then some (.int (i : Int) t) else m₁ y) → News h₀ env.locals h ((I, oI) :: nx) →
      wpAny (model prog w) A (execs body env) (TurnEnd h₀ env.locals { s with heap := h, toks := tk } I oI (J (i + 1))) E { s with heap := h, toks := tk })
    (done : ∀ m₁ nx h tk, J n m₁ nx → Fr h₀ env.locals h m₁ → News h₀ env.locals h nx → Q .next { s with heap := h, toks := tk }) :
    wpAny (model prog w) A (pyIter (.ref r)) (fun it s₂ => LoopAtV prog w A h₀ env x body Q E it s₂) E s := by
  refine iter_rangeUnr hh hr hsmall hn F N fun I hI => ?_
  have key : ∀ (j i : Nat) (m : Str → Option Value) (nx : List (Addr × Obj)), i + j = n → J i m nx → (∀ p ∈ nx, p.1 ≠ I) → RangeRest prog w A E h₀ env x body Q s I 0 n j i m nx := by
    intro j
    induction j with
    | zero =>
      intro i m nx hij hJ _
      have hin : i = n := by omega
      subst hin
      exact RangeRest.zero fun h tk F' N' => done m nx h tk hJ F' N'
    | succ j ih =>
      intro i m nx hij hJ hoff
      refine RangeRest.succ fun t h tk F' N' => ?_
      rw [Int.zero_add] at F'
      refine wpAny_mono (turn i t m nx h tk I _ (by omega) hJ hoff F' N') (fun f s₂ p => ?_) fun _ _ e => e
      obtain ⟨rfl, h', tk', m', nx', e, F₂, N₂, ho, hJ'⟩ := p
      exact ⟨h', tk', m', nx', e, F₂, N₂, ho, ih (i + 1) m' nx' (by omega) hJ' ho⟩
  exact key n 0 m₀ news (Nat.zero_add n) h0 fun p hp => Nat.ne_of_lt (hI p hp)
end
end Mine

-- part M1
namespace Mine
def madeDef : Stmt := (Challenge.pw_at5022_01.main.body).getD 4 noSt
def madeBody : List Stmt := bodyOf madeDef
def madeScope : Scope := scopeOf madeDef
def mst (i : Nat) : Stmt := madeBody.getD i noSt
abbrev ME (L : Addr) : Env := envOfC (Str.ofString "_law_made") madeScope L 27 (.ref 26)
abbrev cell5 (L : Addr) (c1 c2 c3 c4 c5 : Obj) (news : List (Addr × Obj)) : List (Addr × Obj) := (L + 1 + 1 + 1 + 1 + 1, c5) :: (L + 1 + 1 + 1 + 1, c4) :: (L + 1 + 1 + 1, c3) :: (L + 1 + 1, c2) :: (L + 1, c1) :: news
theorem offL {L d : Addr} {news : List (Addr × Obj)} (h : ∀ p ∈ news, p.1 < L) (hd : @LE.le Nat _ L d) : ∀ p ∈ news, p.1 ≠ d := fun p hp e => Nat.lt_irrefl _ (Nat.lt_of_lt_of_le (h p hp) (e ▸ hd))
local macro_rules | `(tactic| k_all) => `(tactic| exact offL (by assumption) (by (try dsimp only); omega))
theorem made_1 {w : World} {g : Heap} {L L₀ a : Addr} {cd : Value} {loose : List Str} {mean : ExcName → Option Value} {mg mb : Str → Option Value} {Q : Flow → Shared → Prop} {m : Str → Option Value} {s : Shared}
   {c1 c2 c3 c4 c5 : Obj} {news : List (Addr × Obj)} {p q : Nat} {t1 t2 : Tok} {v3 : Option Value}
   (F : Fr g L s.heap m) (X : (Mine.hd.heap_39 w.params).In g) (T : Top Mine.hd.view_39 loose mean mg mb g)
   (N : News g L s.heap (cell5 L c1 c2 c3 c4 c5 news))
   (h1 : c1.data = .cell (some (.int p t1))) (h3 : c3.data = .cell v3) (ho : m (Str.ofString "other") = some (.int q t2)) (hnw : ∀ p ∈ news, p.1 < L) (hp1 : 1 ≤ p) (hp2 : p ≤ 12) (hq1 : 1 ≤ q) (hq2 : q ≤ 12)
   (k : ∀ h' tk m' t2 D ys c3', Fr g L h' m' → News g L h' ((D, LCg.lst ys) :: cell5 L c1 c2 c3' c4 c5 news) → c3'.data = .cell (some (.ref D)) → IntsAre ys (rangeKs 0 (p + q)) → m' (Str.ofString "other") = some (.int q t2) → Q .next { s with heap := h', toks := tk }) :
   wpAny (model Challenge.rw_at5022_01.row.prog w) ((callerA.deeper (LE L₀ a cd)).deeper (ME L)) (exec (mst 0) (ME L)) Q (fun _ _ => False) s := by
  revert X; k_fill; intro X
  conv in (mst 0) => whnf
  replace F := spell F ho
  k_steps
  with_reducible rename Fr _ _ _ _ => F9
  with_reducible rename News _ _ _ _ => N9
  with_reducible rename IntsAre _ _ => I9
  dsimp only
  rw [show ((p : Int) + q - 0).toNat = p + q by omega, List.map_id'' (fun _ => rfl)] at I9
  exact k _ _ _ _ _ _ _ F9 N9 (by assumption) I9 rfl
end Mine

-- part M2
namespace Mine
local macro_rules | `(tactic| k_all) => `(tactic| exact offL (by assumption) (by (try dsimp only); omega))
def mergeS (p q : Nat) (b : List Int) (k : Nat) : List Int := b.map fun n => if n = b.getD (p + k % q) 0 then b.getD (k % p) 0 else n
def bn (p q : Nat) (i : Nat) : List Int := (List.range i).foldl (mergeS p q) (rangeKs 0 (p + q))
theorem bn_succ (p q i : Nat) : bn p q (i + 1) = mergeS p q (bn p q i) i := by
  unfold bn; rw [List.range_succ, List.foldl_append]; rfl
theorem bn_len (p q i : Nat) : (bn p q i).length = p + q := by
  induction i with
  | zero => exact rangeKs_length _ _
  | succ i ih => rw [bn_succ, mergeS, List.length_map, ih]
theorem ne_data {g h : Heap} {L a b : Addr} {o o' : Obj} {news : List (Addr × Obj)} (N : News g L h news) (h1 : (a, o) ∈ news) (h2 : (b, o') ∈ news) (hd : o.data ≠ o'.data) : @Ne Nat a b := fun e => by
  have x1 : h.get? a = some o := (N _ h1).1
  have x2 : h.get? b = some o' := (N _ h2).1
  have e' : a = b := e
  rw [e', x2] at x1
  cases x1
  exact hd rfl
theorem seq_cell {ys : List Value} {c : Obj} {v : Option Value} (h : c.data = .cell v) : (LCg.lst ys).data ≠ c.data := by
  rw [h]; intro e; cases e
theorem made_2 {w : World} {g : Heap} {L L₀ a : Addr} {cd : Value} {loose : List Str} {mean : ExcName → Option Value} {mg mb : Str → Option Value} {Q : Flow → Shared → Prop} {m : Str → Option Value} {s : Shared}
   {c1 c2 c3 c4 c5 : Obj} {news : List (Addr × Obj)} {p q pl : Nat} {t1 t2 t3 : Tok} {v4 v5 : Option Value} {D : Addr} {ys : List Value}
   (F : Fr g L s.heap m) (X : (Mine.hd.heap_39 w.params).In g) (T : Top Mine.hd.view_39 loose mean mg mb g)
   (N : News g L s.heap ((D, LCg.lst ys) :: cell5 L c1 c2 c3 c4 c5 news))
   (h1 : c1.data = .cell (some (.int p t1))) (h2 : c2.data = .cell (some (.int pl t3))) (h3 : c3.data = .cell (some (.ref D))) (h4 : c4.data = .cell v4) (h5 : c5.data = .cell v5) (hi : IntsAre ys (rangeKs 0 (p + q)))
   (ho : m (Str.ofString "other") = some (.int q t2)) (hnw : ∀ p ∈ news, p.1 < L) (hp1 : 1 ≤ p) (hp2 : p ≤ 12) (hq1 : 1 ≤ q) (hq2 : q ≤ 12) (hpl : pl ≤ 24)
   (k : ∀ h' tk m' D ys c3' c4' c5', Fr g L h' m' → News g L h' ((D, LCg.lst ys) :: cell5 L c1 c2 c3' c4' c5' news) → c3'.data = .cell (some (.ref D)) → IntsAre ys (bn p q pl) → Q .next { s with heap := h', toks := tk }) :
   wpAny (model Challenge.rw_at5022_01.row.prog w) ((callerA.deeper (LE L₀ a cd)).deeper (ME L)) (exec (mst 1) (ME L)) Q (fun _ _ => False) s := by
  revert X; k_fill; intro X
  conv in (mst 1) => whnf
  replace F := spell F ho
  refine For_invVF F (by rfl) (by rfl) ?_ (by intro _; rfl) PassesOwn.never
  iterate 7 (first | walk1 | (dsimp only; walk1))
  with_reducible rename Fr _ _ _ _ => F9
  with_reducible rename News _ _ _ _ => N9
  with_reducible rename IsRange _ _ _ _ _ _ _ _ => R9
  refine iter_rangeW (n := pl) (fun i m nx => ∃ D ys c3 c4 c5 v4 v5, nx = (D, LCg.lst ys) :: cell5 L c1 c2 c3 c4 c5 news ∧ c3.data = .cell (some (.ref D)) ∧ c4.data = .cell v4 ∧ c5.data = .cell v5 ∧ IntsAre ys (bn p q i) ∧ ∃ t, m (Str.ofString "other") = some (.int q t))
    (by rfl) R9 (small_one (by decide) (by decide) (by omega) (by omega)) (rangeSize_nat _ _) F9 N9 ⟨D, ys, c3, c4, c5, v4, v5, rfl, h3, h4, h5, hi, _, rfl⟩ ?_ ?_
  · clear F9 N9 R9 ho h3 h4 h5 hi k
    rintro i tt m₁ nx h tk I oI hin ⟨D, ys, c3, c4, c5, v4, v5, rfl, h3, h4, h5, hi, u, e1⟩ hoff F' N'
    have F' := spell F' (x := Str.ofString "other") ((if_neg (by decide)).trans e1)
    have hm1 : (i : Int).fmod p = ((i % p : Nat) : Int) := by rw [Int.fmod_eq_emod_of_nonneg _ (by omega)]; rfl
    have hm2 : (i : Int).fmod q = ((i % q : Nat) : Int) := by rw [Int.fmod_eq_emod_of_nonneg _ (by omega)]; rfl
    have hm3 : i % p < p := Nat.mod_lt _ hp1
    have hm4 : i % q < q := Nat.mod_lt _ hq1
    have hp0 : (p : Int) ≠ 0 := by omega
    have hq0 : (q : Int) ≠ 0 := by omega
    have hbl := bn_len p q i
    have hD3 : @Ne Nat D (L + 1 + 1 + 1) := ne_data N' (.tail _ (.head _)) (.tail _ (.tail _ (.tail _ (.tail _ (.head _))))) (seq_cell h3)
    have hD4 : @Ne Nat D (L + 1 + 1 + 1 + 1) := ne_data N' (.tail _ (.head _)) (.tail _ (.tail _ (.tail _ (.head _)))) (seq_cell h4)
    have hD5 : @Ne Nat D (L + 1 + 1 + 1 + 1 + 1) := ne_data N' (.tail _ (.head _)) (.tail _ (.tail _ (.head _))) (seq_cell h5)
    have hI3 : @Ne Nat (L + 1 + 1 + 1) I := hoff (_, c3) (.tail _ (.tail _ (.tail _ (.head _))))
    have hI4 : @Ne Nat (L + 1 + 1 + 1 + 1) I := hoff (_, c4) (.tail _ (.tail _ (.head _)))
    have hI5 : @Ne Nat (L + 1 + 1 + 1 + 1 + 1) I := hoff (_, c5) (.tail _ (.head _))
    k_steps
    with_reducible rename Fr _ _ _ _ => F9
    with_reducible rename News _ _ _ _ => N9
    with_reducible rename IntsAre _ _ => I9
    have e9 : (bn p q i).map (fun k' => if k' = (bn p q i).getD ((p : Int) + (i : Int).fmod q).toNat 0 then (bn p q i).getD ((i : Int).fmod p).toNat 0 else k') = bn p q (i + 1) := by
      rw [bn_succ, mergeS, hm1, hm2, show ((p : Int) + ((i % q : Nat) : Int)).toNat = p + i % q by omega, Int.toNat_natCast]
    rw [e9] at I9
    with_reducible rename Obj.data _ = Data.cell (some (Value.ref _)) => d3
    with_reducible rename Obj.data _ = Data.cell (some (Value.int (List.getD _ (Int.toNat ((p : Int) + _)) _) _)) => d5
    with_reducible rename Obj.data _ = Data.cell (some (Value.int (List.getD _ (Int.toNat (Int.fmod _ _)) _) _)) => d4
    have hID : I ≠ _ := (by assumption : _ ∧ I ≠ _ ∧ _).2.1
    refine ⟨rfl, _, _, _, _, rfl, F9, cb_drop N9 (fun p hp => ?_), fun p hp => ?_, _, _, _, _, _, _, _, rfl, d3, d4, d5, I9, _, rfl⟩
    · rcases List.mem_cons.mp hp with rfl | hp
      · exact .tail _ (.tail _ (.head _))
      rcases List.mem_cons.mp hp with rfl | hp
      · exact .head _
      · exact .tail _ (.tail _ (.tail _ (.tail _ hp)))
    · rcases List.mem_cons.mp hp with rfl | hp
      · exact Ne.symm hID
      rcases List.mem_cons.mp hp with rfl | hp
      · exact hI5
      rcases List.mem_cons.mp hp with rfl | hp
      · exact hI4
      rcases List.mem_cons.mp hp with rfl | hp
      · exact hI3
      · exact hoff _ (.tail _ (.tail _ (.tail _ (.tail _ hp))))
  · rintro m₁ nx h tk ⟨D, ys, c3, c4, c5, v4, v5, rfl, h3, h4, h5, hi, _⟩ F' N'
    exact k _ _ _ _ _ _ _ _ F' N' h3 hi
end Mine

-- part M3
namespace Mine
def madeL (p q pl : Nat) : List Nat := (bn p q pl).map fun n => if n = (bn p q pl).getD (pl % p) 0 then 98 else 97
theorem made_3 {w : World} {g : Heap} {L L₀ a : Addr} {cd : Value} {loose : List Str} {mean : ExcName → Option Value} {mg mb : Str → Option Value} {Q : Flow → Shared → Prop} {m : Str → Option Value} {s : Shared}
   {c1 c2 c3 c4 c5 : Obj} {news : List (Addr × Obj)} {p q pl : Nat} {t1 t2 t3 : Tok} {D : Addr} {ys : List Value}
   (F : Fr g L s.heap m) (X : (Mine.hd.heap_39 w.params).In g) (T : Top Mine.hd.view_39 loose mean mg mb g)
   (N : News g L s.heap ((D, LCg.lst ys) :: cell5 L c1 c2 c3 c4 c5 news))
   (h1 : c1.data = .cell (some (.int p t1))) (h2 : c2.data = .cell (some (.int pl t3))) (h3 : c3.data = .cell (some (.ref D))) (hi : IntsAre ys (bn p q pl))
   (hnw : ∀ p ∈ news, p.1 < L) (hp1 : 1 ≤ p) (hp2 : p ≤ 12) (hq1 : 1 ≤ q) (hq2 : q ≤ 12) (hpl : pl ≤ 24)
   (k : ∀ h' tk m' t, Fr g L h' m' → News g L h' (cell5 L c1 c2 c3 c4 c5 news) → m' (Str.ofString "letters") = some (.str (S (madeL p q pl)) t) → Q .next { s with heap := h', toks := tk }) :
   wpAny (model Challenge.rw_at5022_01.row.prog w) ((callerA.deeper (LE L₀ a cd)).deeper (ME L)) (exec (mst 2) (ME L)) Q (fun _ _ => False) s := by
  revert X; k_fill; intro X
  conv in (mst 2) => whnf
  have hbl := bn_len p q pl
  have hm1 : (pl : Int).fmod p = ((pl % p : Nat) : Int) := by rw [Int.fmod_eq_emod_of_nonneg _ (by omega)]; rfl
  have hm3 : pl % p < p := Nat.mod_lt _ hp1
  have hp0 : (p : Int) ≠ 0 := by omega
  have hlen := hi.length
  iterate 8 (first | walk1 | (dsimp only; walk1))
  dsimp only
  refine LCg.CompSrc.ledger (by rfl) F N (.head _) (by rw [List.size_toArray, sizeLine_eq]; omega) ?_
  intro g'
  refine kct_list (fun n => S [if n = (bn p q pl).getD (pl % p) 0 then 98 else 97]) hi ?_ ?_
  · clear F N
    intro k' t' I' oI' C' oC' D' m' ys' h' tk' E' hk' hC' hx' F' N' off' ne'
    have off2 := off'
    simp only [LCg.Off3, and_true] at off2
    intro mk
    dsimp only
    k_steps
    · refine LCg.CompEnd.intro F' N' _ (fun p hp => hp) off' (.inr ⟨_, .head _, rfl, _, rfl⟩) (kct_el ?_ rfl rfl)
      have e : k' = (bn p q pl).getD ((pl : Int).fmod p).toNat 0 := by assumption
      rw [hm1, Int.toNat_natCast] at e
      rw [if_pos e]; decide
    · refine LCg.CompEnd.intro F' N' _ (fun p hp => hp) off' (.inr ⟨_, .head _, rfl, _, rfl⟩) (kct_el ?_ rfl rfl)
      have e : ¬ k' = (bn p q pl).getD ((pl : Int).fmod p).toNat 0 := by assumption
      rw [hm1, Int.toNat_natCast] at e
      rw [if_neg e]; decide
  · intro ys9 hys hlen9
    intro D9 h9 tk9 F' N' o1
    dsimp only
    walk1
    try dsimp only
    refine KT.join_B (l := bn p q pl) (g := fun n => S [if n = (bn p q pl).getD (pl % p) 0 then 98 else 97]) 1 (News.isList N' (.head _)) hys (fun a _ => Nat.le_of_eq rfl) (by omega) (by decide) ?_
    intro t7 k7
    rw [join_S]
    walk1
    with_reducible rename Fr _ _ _ _ => F9
    with_reducible rename News _ _ _ _ => N9
    dsimp only
    exact k _ _ _ _ F9 (cb_drop N9 (fun p hp => .tail _ (.tail _ hp))) rfl
end Mine

-- part M4
namespace Mine
abbrev tupOf (u v : Value) : Obj := { cls := .type "tuple", data := .seq #[u, v] }
theorem slice_from (x : PySem.Str) (c : Nat) (h : c ≤ x.length) : Txt.slice x (some (c : Int)) none = S (x.cps.toList.drop c) := by
  have hl : x.length = x.cps.toList.length := by simp [PySem.Str.length]
  have q := StrLaws.sliceText_from (x := x) (i := (c : Int)) ⟨by omega, by omega⟩
  refine Eq.trans q ?_
  rw [List.take_of_length_le (by rw [List.length_drop]; omega)]; rfl
theorem made_4 {w : World} {g : Heap} {L L₀ a : Addr} {cd : Value} {loose : List Str} {mean : ExcName → Option Value} {mg mb : Str → Option Value} {Q : Flow → Shared → Prop} {m : Str → Option Value} {s : Shared}
   {c1 c2 c3 c4 c5 : Obj} {news : List (Addr × Obj)} {p : Nat} {l : List Nat} {t1 t2 : Tok}
   (F : Fr g L s.heap m) (X : (Mine.hd.heap_39 w.params).In g) (T : Top Mine.hd.view_39 loose mean mg mb g)
   (N : News g L s.heap (cell5 L c1 c2 c3 c4 c5 news))
   (h1 : c1.data = .cell (some (.int p t1))) (hl : m (Str.ofString "letters") = some (.str (S l) t2))
   (hp1 : 1 ≤ p) (hp2 : p ≤ l.length) (hp3 : l.length ≤ 24)
   (k : ∀ h' tk m' D t t', Fr g L h' m' → News g L h' ((D, tupOf (.str (S (l.take p)) t) (.str (S (l.drop p)) t')) :: cell5 L c1 c2 c3 c4 c5 news) → Q (.ret (.ref D)) { s with heap := h', toks := tk }) :
   wpAny (model Challenge.rw_at5022_01.row.prog w) ((callerA.deeper (LE L₀ a cd)).deeper (ME L)) (exec (mst 3) (ME L)) Q (fun _ _ => False) s := by
  revert X; k_fill; intro X
  conv in (mst 3) => whnf
  replace F := spell F hl
  have hsl := S_len l
  k_steps
  with_reducible rename Fr _ _ _ _ => F9
  with_reducible rename News _ _ _ _ => N9
  rw [slice_to _ _ (by omega), slice_from _ _ (by omega), S_cps] at N9
  exact k _ _ _ _ _ _ F9 N9
theorem made_law {w : World} {h₀ : Heap} {L a : Addr} {cd : Value} {loose : List Str} {mean : ExcName → Option Value} {mg mb : Str → Option Value} {Q : Value → Shared → Prop} {E : Value → Shared → Prop} {m : Str → Option Value} {s : Shared} {news : List (Addr × Obj)} {p q pl : Nat} {t1 t2 t3 : Tok}
   (B : Below callerA h₀ [] h₀) (F : Fr h₀ L s.heap m) (X : (Mine.hd.heap_39 w.params).In h₀) (N : News h₀ L s.heap news) (T : Top Mine.hd.view_39 loose mean mg mb h₀)
   (hp1 : 1 ≤ p) (hp2 : p ≤ 12) (hq1 : 1 ≤ q) (hq2 : q ≤ 12) (hpl : pl ≤ 24)
   (k : ∀ h' tk D t t', Fr h₀ L h' m → News h₀ L h' ((D, tupOf (.str (S ((madeL p q pl).take p)) t) (.str (S ((madeL p q pl).drop p)) t')) :: news) → Q (.ref D) { s with heap := h', toks := tk }) :
   wpAny (model Challenge.rw_at5022_01.row.prog w) (callerA.deeper (LE L a cd)) (call (.ref 27) [.int p t1, .int q t2, .int pl t3]) Q E s := by
  revert X; k_fill; intro X
  refine wpAny_call ?_
  refine' code_defC (binds := [((Str.ofString "size"), .int p t1), ((Str.ofString "other"), .int q t2), ((Str.ofString "places"), .int pl t3)]) B F X N T ?kA ?kF ?kK ?k6 ?k7 ?k8 ?k9 ?kB ?kD ?_ ?c2 ?c3 ?c4
  (case kA => exact rfl); (case kF => exact rfl); (case kK => exact rfl); (case k6 => k_is); (case k7 => k_is); (case k8 => k_room); (case k9 => exact BindsTo.of_eq rfl); (case kB => exact rfl); (case kD => decide +kernel); (case c2 => exact rfl); (case c3 => exact rfl); (case c4 => exact rfl)
  intro g L' h1 tk cells FG F' N' Y B' X' T' l1
  obtain ⟨o5, o4, o3, o2, o1, rfl, d5, d4, d3, d2, d1⟩ := kc_five Y
  have ho : (bindL (ME L').kindOf [((Str.ofString "size"), Value.int p t1), ((Str.ofString "other"), .int q t2), ((Str.ofString "places"), .int pl t3)] fun _ => none) (Str.ofString "other") = some (.int q t2) := rfl
  have e1 : o1.data = .cell (some (.int p t1)) := d1
  have e2 : o2.data = .cell (some (.int pl t3)) := d2
  have hml : (madeL p q pl).length = p + q := by rw [madeL, List.length_map, bn_len]
  have body : ∀ (Qf : Flow → Shared → Prop), (∀ h' tk D t t' m' c3 c4 c5, Fr g L' h' m' → News g L' h' ((D, tupOf (.str (S ((madeL p q pl).take p)) t) (.str (S ((madeL p q pl).drop p)) t')) :: cell5 L' o1 o2 c3 c4 c5 news) → Qf (.ret (.ref D)) { s with heap := h', toks := tk }) →
      wpAny (model Challenge.rw_at5022_01.row.prog w) ((callerA.deeper (LE L a cd)).deeper (ME L')) (execs [mst 0, mst 1, mst 2, mst 3] (ME L')) Qf (fun _ _ => False) { s with heap := h1, toks := tk } := by
    intro Qf hQ
    refine wpAny_execs_cons (made_1 F' X' T' N' e1 d3 ho l1 hp1 hp2 hq1 hq2 ?_)
    intro h2 tk2 m2 u2 D ys c3 F2 N2 d3 hi ho
    refine wpAny_execs_cons (made_2 F2 X' T' N2 e1 e2 d3 d4 d5 hi ho l1 hp1 hp2 hq1 hq2 hpl ?_)
    intro h3 tk3 m3 D ys c3 c4 c5 F3 N3 d3 hi
    refine wpAny_execs_cons (made_3 (t2 := 0) F3 X' T' N3 e1 e2 d3 hi l1 hp1 hp2 hq1 hq2 hpl ?_)
    intro h4 tk4 m4 t4 F4 N4 hl
    refine wpAny_execs_cons (made_4 F4 X' T' N4 e1 hl hp1 (by omega) (by omega) ?_)
    intro h5 tk5 m5 D t t' F5 N5
    exact hQ _ _ _ _ _ _ _ _ _ F5 N5
  refine wpAny_mono (body _ ?_) (fun _ _ h => h) (fun _ _ h => h.elim)
  intro h' tk D t t' m' c3 c4 c5 F9 N9
  exact leaveK_ F9 N9 fun a b => k _ _ _ _ _ a (cb_drop b fun p hp => by
    rcases List.mem_cons.mp hp with rfl | hp
    · exact .head _
    · exact .tail _ (.tail _ (.tail _ (.tail _ (.tail _ (.tail _ hp))))))
end Mine

-- part S8
namespace Mine
theorem law_s8 {w : World} {h₀ : Heap} {L a : Addr} {cd : Value} {loose : List Str} {mean : ExcName → Option Value} {mg mb : Str → Option Value} {Q : Flow → Shared → Prop} {m : Str → Option Value} {s : Shared}
   {c1 c2 c3 c4 : Obj} {D : Addr} {d0 d1 d2 : Int} {v0 v1 v2 : Tok} {p q c b : Nat} {t0 t1 t2 u1 u2 u3 u4 : Tok} {y : PySem.Str}
   (B : Below callerA h₀ [] h₀) (F : Fr h₀ L s.heap m) (X : (Mine.hd.heap_39 w.params).In h₀) (T : Top Mine.hd.view_39 loose mean mg mb h₀)
   (N : News h₀ L s.heap [(D, LCg.lst [.int d0 v0, .int d1 v1, .int d2 v2]), (L + 1 + 1 + 1 + 1, c4), (L + 1 + 1 + 1, c3), (L + 1 + 1, c2), (L + 1, c1)])
   (h3 : c3.data = .cell (some (.int p t1)))
   (ho : m (Str.ofString "other") = some (.int q u2)) (hc : m (Str.ofString "common") = some (.int c u3)) (hs : m (Str.ofString "second") = some (.str y u4))
   (hb : b + c = p + q)
   (k : ∀ h' tk m' u2 u3 u4 u5 u6, Fr h₀ L h' m' → News h₀ L h' [(D, LCg.lst [.int d0 v0, .int d1 v1, .int d2 v2]), (L + 1 + 1 + 1 + 1, c4), (L + 1 + 1 + 1, c3), (L + 1 + 1, c2), (L + 1, c1)] →
      m' (Str.ofString "other") = some (.int q u2) → m' (Str.ofString "common") = some (.int c u3) → m' (Str.ofString "second") = some (.str y u4) →
      m' (Str.ofString "bound") = some (.int b u5) → m' (Str.ofString "agreed") = some (.int 0 u6) → Q .next { s with heap := h', toks := tk }) :
   wpAny (model Challenge.rw_at5022_01.row.prog w) (callerA.deeper (LE L a cd)) (exec (st 7) (LE L a cd)) Q (fun _ _ => False) s := by
  revert X; k_fill; intro X
  conv in (st 7) => whnf
  replace F := spell3 F ho hc hs
  k_steps
  with_reducible rename Fr _ _ _ _ => F9
  with_reducible rename News _ _ _ _ => N9
  have e : (p : Int) + q - c = b := by omega
  simp only [e] at F9
  exact k _ _ _ _ _ _ _ _ F9 (cb_drop N9 (fun p hp => List.mem_cons_of_mem _ hp)) rfl rfl rfl rfl rfl
theorem S1_inj {a b : Nat} (h : S [a] = S [b]) : a = b := by
  have := congrArg (fun x : PySem.Str => x.cps.toList) h
  simpa [S] using this
def agS (x y : PySem.Str) (p q : Nat) (a k : Int) : Int := if a = k ∧ x.cps.toList.getD (k.toNat % p) 0 = y.cps.toList.getD (k.toNat % q) 0 then k + 1 else a
theorem law_s9 {w : World} {h₀ : Heap} {L a : Addr} {cd : Value} {loose : List Str} {mean : ExcName → Option Value} {mg mb : Str → Option Value} {Q : Flow → Shared → Prop} {m : Str → Option Value} {s : Shared}
   {c1 c2 c3 c4 : Obj} {D : Addr} {d0 d1 d2 : Int} {v0 v1 v2 : Tok} {p q c b : Nat} {t0 t1 t2 u1 u2 u3 u4 u5 u6 : Tok} {x y : PySem.Str}
   (B : Below callerA h₀ [] h₀) (F : Fr h₀ L s.heap m) (X : (Mine.hd.heap_39 w.params).In h₀) (T : Top Mine.hd.view_39 loose mean mg mb h₀)
   (N : News h₀ L s.heap [(D, LCg.lst [.int d0 v0, .int d1 v1, .int d2 v2]), (L + 1 + 1 + 1 + 1, c4), (L + 1 + 1 + 1, c3), (L + 1 + 1, c2), (L + 1, c1)])
   (h4 : c4.data = .cell (some (.str x t0))) (h3 : c3.data = .cell (some (.int p t1)))
   (ho : m (Str.ofString "other") = some (.int q u2)) (hc : m (Str.ofString "common") = some (.int c u3)) (hs : m (Str.ofString "second") = some (.str y u4)) (hbo : m (Str.ofString "bound") = some (.int b u5)) (hag : m (Str.ofString "agreed") = some (.int 0 u6))
   (hxl : (x.length : Int) = p) (hyl : (y.length : Int) = q) (hp1 : 1 ≤ p) (hp2 : p ≤ 12) (hq1 : 1 ≤ q) (hq2 : q ≤ 12) (hb : b ≤ 24)
   (k : ∀ h' tk m' u2 u3 u4 u5 u6, Fr h₀ L h' m' → News h₀ L h' [(D, LCg.lst [.int d0 v0, .int d1 v1, .int d2 v2]), (L + 1 + 1 + 1 + 1, c4), (L + 1 + 1 + 1, c3), (L + 1 + 1, c2), (L + 1, c1)] →
      m' (Str.ofString "other") = some (.int q u2) → m' (Str.ofString "common") = some (.int c u3) → m' (Str.ofString "second") = some (.str y u4) →
      m' (Str.ofString "bound") = some (.int b u5) → m' (Str.ofString "agreed") = some (.int ((rangeKs 0 b).foldl (agS x y p q) 0) u6) → Q .next { s with heap := h', toks := tk }) :
   wpAny (model Challenge.rw_at5022_01.row.prog w) (callerA.deeper (LE L a cd)) (exec (st 8) (LE L a cd)) Q (fun _ _ => False) s := by
  revert X; k_fill; intro X
  conv in (st 8) => whnf
  replace F := spell5 F ho hc hs hbo hag
  refine For_invVF F (by rfl) (by rfl) ?_ (by intro _; rfl) PassesOwn.never
  iterate 7 (first | walk1 | (dsimp only; walk1))
  with_reducible rename Fr _ _ _ _ => F9
  with_reducible rename News _ _ _ _ => N9
  with_reducible rename IsRange _ _ _ _ _ _ _ _ => R9
  refine iter_rangeS (σ := Int) (n := b) (fun ag m nx => nx = [(D, LCg.lst [.int d0 v0, .int d1 v1, .int d2 v2]), (L + 1 + 1 + 1 + 1, c4), (L + 1 + 1 + 1, c3), (L + 1 + 1, c2), (L + 1, c1)] ∧ (∃ t, m (Str.ofString "other") = some (.int q t)) ∧ (∃ t, m (Str.ofString "common") = some (.int c t)) ∧ (∃ t, m (Str.ofString "second") = some (.str y t)) ∧ (∃ t, m (Str.ofString "bound") = some (.int b t)) ∧ ∃ t, m (Str.ofString "agreed") = some (.int ag t))
    (agS x y p q) 0 (by rfl) R9 (small_one (by decide) (by decide) (by omega) (by omega)) (rangeSize_nat _ _) F9 N9 ⟨rfl, ⟨_, rfl⟩, ⟨_, rfl⟩, ⟨_, rfl⟩, ⟨_, rfl⟩, ⟨_, rfl⟩⟩ ?_ ?_
  · clear F9 N9 R9 ho hc hs hbo hag k
    rintro kk tt ag m₁ nx h tk own hkk hoff ⟨rfl, ⟨u1, e1⟩, ⟨u2, e2⟩, ⟨u3, e3⟩, ⟨u4, e4⟩, ⟨u5, e5⟩⟩ F' N'
    have F' := spell5 F' (x1 := Str.ofString "other") (x2 := Str.ofString "common") (x3 := Str.ofString "second") (x4 := Str.ofString "bound") (x5 := Str.ofString "agreed") ((if_neg (by decide)).trans e1) ((if_neg (by decide)).trans e2) ((if_neg (by decide)).trans e3) ((if_neg (by decide)).trans e4) ((if_neg (by decide)).trans e5)
    obtain ⟨hk0, hkb⟩ := mem_rangeKs hkk
    obtain ⟨j, rfl⟩ := Int.eq_ofNat_of_zero_le hk0
    have hm1 : (j : Int).fmod p = ((j % p : Nat) : Int) := by rw [Int.fmod_eq_emod_of_nonneg _ (by omega)]; rfl
    have hm2 : (j : Int).fmod q = ((j % q : Nat) : Int) := by rw [Int.fmod_eq_emod_of_nonneg _ (by omega)]; rfl
    have hm3 : j % p < p := Nat.mod_lt _ hp1
    have hm4 : j % q < q := Nat.mod_lt _ hq1
    have hp0 : (p : Int) ≠ 0 := by omega
    have hq0 : (q : Int) ≠ 0 := by omega
    have hi1 : Txt.item x ((j : Int).fmod p) = S [x.cps.toList.getD (j % p) 0] := by rw [hm1, item_eq _ _ (by omega) (by omega)]; rfl
    have hi2 : Txt.item y ((j : Int).fmod q) = S [y.cps.toList.getD (j % q) 0] := by rw [hm2, item_eq _ _ (by omega) (by omega)]; rfl
    k_steps
    · with_reducible rename Fr _ _ _ _ => F9
      with_reducible rename News _ _ _ _ => N9
      with_reducible rename (_ == _) = true => hq
      have e : agS x y p q ag (j : Int) = (j : Int) + 1 := if_pos ⟨by assumption, by rw [hi1, hi2] at hq; exact S1_inj (eq_of_beq hq)⟩
      rw [e]
      exact InvEndN.intro F9 N9 ⟨rfl, ⟨_, rfl⟩, ⟨_, rfl⟩, ⟨_, rfl⟩, ⟨_, rfl⟩, ⟨_, rfl⟩⟩ rfl (fun p hp => (List.mem_append_left _ hp)) (fun p hp => (List.mem_append_right _ hp))
    · with_reducible rename Fr _ _ _ _ => F9
      with_reducible rename News _ _ _ _ => N9
      with_reducible rename (_ == _) = false => hq
      have e : agS x y p q ag (j : Int) = ag := if_neg (fun h => by
        have h2 : x.cps.toList.getD (j % p) 0 = y.cps.toList.getD (j % q) 0 := h.2
        rw [hi1, hi2, h2, beq_self_eq_true] at hq; cases hq)
      rw [e]
      exact InvEndN.intro F9 N9 ⟨rfl, ⟨_, rfl⟩, ⟨_, rfl⟩, ⟨_, rfl⟩, ⟨_, rfl⟩, ⟨_, rfl⟩⟩ rfl (fun p hp => (List.mem_append_left _ hp)) (fun p hp => (List.mem_append_right _ hp))
    · with_reducible rename Fr _ _ _ _ => F9
      with_reducible rename News _ _ _ _ => N9
      have hne : ag ≠ (j : Int) := by assumption
      have e : agS x y p q ag (j : Int) = ag := if_neg (fun h => hne h.1)
      rw [e]
      exact InvEndN.intro F9 N9 ⟨rfl, ⟨_, rfl⟩, ⟨_, rfl⟩, ⟨_, rfl⟩, ⟨_, rfl⟩, ⟨_, rfl⟩⟩ rfl (fun p hp => (List.mem_append_left _ hp)) (fun p hp => (List.mem_append_right _ hp))
  · rintro m₁ nx h tk ⟨rfl, ⟨u1, e1⟩, ⟨u2, e2⟩, ⟨u3, e3⟩, ⟨u4, e4⟩, ⟨u5, e5⟩⟩ F' N'
    exact k _ _ _ _ _ _ _ _ F' N' e1 e2 e3 e4 e5
end Mine

-- part S10
namespace Mine
theorem rep_law {w : World} {h₀ : Heap} {L a : Addr} {cd : Value} {loose : List Str} {mean : ExcName → Option Value} {mg mb : Str → Option Value} {Q : Value → Shared → Prop} {E : Value → Shared → Prop} {m : Str → Option Value} {s : Shared} {news : List (Addr × Obj)} {x : Str} {tx tn : Tok} {n : Int}
   (B : Below callerA h₀ [] h₀) (F : Fr h₀ L s.heap m) (X : (Mine.hd.heap_39 w.params).In h₀) (N : News h₀ L s.heap news) (T : Top Mine.hd.view_39 loose mean mg mb h₀)
   (hx : 1 ≤ x.length) (hx2 : x.length ≤ 100) (hn : 0 ≤ n) (hn2 : n ≤ 1000)
   (k : ∀ h' tk t, Fr h₀ L h' m → News h₀ L h' news → Q (.str (S (row x.cps.toList n.toNat)) t) { s with heap := h', toks := tk }) :
   wpAny (model Challenge.rw_at5022_01.row.prog w) (callerA.deeper (LE L a cd)) (call (.ref 21) [.str x tx, .int n tn]) Q E s :=
  rep_str B F X N T rfl rfl rfl (by k_room) hx hx2 hn hn2 k
local macro_rules | `(tactic| walk_at "call ref") => `(tactic| (k_here; refine rep_law (by assumption) (by k_asm) (by assumption) (by k_asm) (by assumption) (by omega) (by omega) (by omega) (by omega) ?_; intro h' tk' t' F' N'))
theorem law_s10 {w : World} {h₀ : Heap} {L a : Addr} {cd : Value} {loose : List Str} {mean : ExcName → Option Value} {mg mb : Str → Option Value} {Q : Flow → Shared → Prop} {m : Str → Option Value} {s : Shared}
   {c1 c2 c3 c4 : Obj} {D : Addr} {d0 d1 d2 : Int} {v0 v1 v2 : Tok} {p q c b ag : Nat} {t0 t1 t2 u1 u2 u3 u4 u5 u6 : Tok} {x y : PySem.Str}
   (B : Below callerA h₀ [] h₀) (F : Fr h₀ L s.heap m) (X : (Mine.hd.heap_39 w.params).In h₀) (T : Top Mine.hd.view_39 loose mean mg mb h₀)
   (N : News h₀ L s.heap [(D, LCg.lst [.int d0 v0, .int d1 v1, .int d2 v2]), (L + 1 + 1 + 1 + 1, c4), (L + 1 + 1 + 1, c3), (L + 1 + 1, c2), (L + 1, c1)])
   (h4 : c4.data = .cell (some (.str x t0)))
   (ho : m (Str.ofString "other") = some (.int q u2)) (hc : m (Str.ofString "common") = some (.int c u3)) (hs : m (Str.ofString "second") = some (.str y u4)) (hbo : m (Str.ofString "bound") = some (.int b u5)) (hag : m (Str.ofString "agreed") = some (.int ag u6))
   (hxl : x.length = p) (hyl : y.length = q) (hp1 : 1 ≤ p) (hp2 : p ≤ 12) (hq1 : 1 ≤ q) (hq2 : q ≤ 12) (hb : b ≤ 24) (hab : ag ≤ b)
   (hcomm : (S (row x.cps.toList b) == S (row y.cps.toList b)) = (x ++ y == y ++ x))
   (k : ∀ h' tk m' u2 u3 u4 u5 u6, Fr h₀ L h' m' → News h₀ L h' [(D, LCg.lst [.int d0 v0, .int d1 v1, .int d2 v2]), (L + 1 + 1 + 1 + 1, c4), (L + 1 + 1 + 1, c3), (L + 1 + 1, c2), (L + 1, c1)] →
      m' (Str.ofString "other") = some (.int q u2) → m' (Str.ofString "common") = some (.int c u3) → m' (Str.ofString "second") = some (.str y u4) →
      m' (Str.ofString "bound") = some (.int b u5) → m' (Str.ofString "agreed") = some (.int ag u6) → Q .next { s with heap := h', toks := tk }) :
   wpAny (model Challenge.rw_at5022_01.row.prog w) (callerA.deeper (LE L a cd)) (exec (st 9) (LE L a cd)) Q (fun _ _ => False) s := by
  revert X; k_fill; intro X
  conv in (st 9) => whnf
  replace F := spell5 F ho hc hs hbo hag
  k_steps
  · with_reducible rename (_ != _) = true => hq
    rw [Int.toNat_natCast, hcomm, bne_self_eq_false] at hq
    cases hq
  · with_reducible rename Fr _ _ _ _ => F9
    with_reducible rename News _ _ _ _ => N9
    exact k _ _ _ _ _ _ _ _ F9 N9 rfl rfl rfl rfl rfl
end Mine

-- part S11
namespace Mine
local macro_rules | `(tactic| walk_at "call ref") => `(tactic| (k_here; refine rep_law (by assumption) (by k_asm) (by assumption) (by k_asm) (by assumption) (by omega) (by omega) (by omega) (by omega) ?_; intro h' tk' t' F' N'))
theorem law_s11 {w : World} {h₀ : Heap} {L a : Addr} {cd : Value} {loose : List Str} {mean : ExcName → Option Value} {mg mb : Str → Option Value} {Q : Flow → Shared → Prop} {m : Str → Option Value} {s : Shared}
   {c1 c2 c3 c4 : Obj} {D : Addr} {d0 d1 d2 : Int} {v0 v1 v2 : Tok} {p q c b ag : Nat} {t0 t1 t2 u1 u2 u3 u4 u5 u6 : Tok} {x y : PySem.Str}
   (B : Below callerA h₀ [] h₀) (F : Fr h₀ L s.heap m) (X : (Mine.hd.heap_39 w.params).In h₀) (T : Top Mine.hd.view_39 loose mean mg mb h₀)
   (N : News h₀ L s.heap [(D, LCg.lst [.int d0 v0, .int d1 v1, .int d2 v2]), (L + 1 + 1 + 1 + 1, c4), (L + 1 + 1 + 1, c3), (L + 1 + 1, c2), (L + 1, c1)])
   (h4 : c4.data = .cell (some (.str x t0)))
   (ho : m (Str.ofString "other") = some (.int q u2)) (hc : m (Str.ofString "common") = some (.int c u3)) (hs : m (Str.ofString "second") = some (.str y u4)) (hbo : m (Str.ofString "bound") = some (.int b u5)) (hag : m (Str.ofString "agreed") = some (.int ag u6))
   (hxl : x.length = p) (hyl : y.length = q) (hp1 : 1 ≤ p) (hp2 : p ≤ 12) (hq1 : 1 ≤ q) (hq2 : q ≤ 12) (hb : b ≤ 24) (hab : ag ≤ b)
   (heq : row x.cps.toList ag = row y.cps.toList ag)
   (k : ∀ h' tk m' u2 u3 u4 u5 u6, Fr h₀ L h' m' → News h₀ L h' [(D, LCg.lst [.int d0 v0, .int d1 v1, .int d2 v2]), (L + 1 + 1 + 1 + 1, c4), (L + 1 + 1 + 1, c3), (L + 1 + 1, c2), (L + 1, c1)] →
      m' (Str.ofString "other") = some (.int q u2) → m' (Str.ofString "common") = some (.int c u3) → m' (Str.ofString "second") = some (.str y u4) →
      m' (Str.ofString "bound") = some (.int b u5) → m' (Str.ofString "agreed") = some (.int ag u6) → Q .next { s with heap := h', toks := tk }) :
   wpAny (model Challenge.rw_at5022_01.row.prog w) (callerA.deeper (LE L a cd)) (exec (st 10) (LE L a cd)) Q (fun _ _ => False) s := by
  revert X; k_fill; intro X
  conv in (st 10) => whnf
  replace F := spell5 F ho hc hs hbo hag
  k_steps
  · with_reducible rename (_ != _) = true => hq
    rw [Int.toNat_natCast, heq, bne_self_eq_false] at hq
    cases hq
  · with_reducible rename Fr _ _ _ _ => F9
    with_reducible rename News _ _ _ _ => N9
    exact k _ _ _ _ _ _ _ _ F9 N9 rfl rfl rfl rfl rfl
end Mine

-- part S13
namespace Mine
theorem made_lawI {w : World} {h₀ : Heap} {L a : Addr} {cd : Value} {loose : List Str} {mean : ExcName → Option Value} {mg mb : Str → Option Value} {Q : Value → Shared → Prop} {E : Value → Shared → Prop} {m : Str → Option Value} {s : Shared} {news : List (Addr × Obj)} {p q pl : Nat} {z : Int} {t1 t2 t3 : Tok}
   (hz : z = (pl : Int)) (B : Below callerA h₀ [] h₀) (F : Fr h₀ L s.heap m) (X : (Mine.hd.heap_39 w.params).In h₀) (N : News h₀ L s.heap news) (T : Top Mine.hd.view_39 loose mean mg mb h₀)
   (hp1 : 1 ≤ p) (hp2 : p ≤ 12) (hq1 : 1 ≤ q) (hq2 : q ≤ 12) (hpl : pl ≤ 24)
   (k : ∀ h' tk D t t', Fr h₀ L h' m → News h₀ L h' ((D, tupOf (.str (S ((madeL p q pl).take p)) t) (.str (S ((madeL p q pl).drop p)) t')) :: news) → Q (.ref D) { s with heap := h', toks := tk }) :
   wpAny (model Challenge.rw_at5022_01.row.prog w) (callerA.deeper (LE L a cd)) (call (.ref 27) [.int p t1, .int q t2, .int z t3]) Q E s := by
  subst hz; exact made_law B F X N T hp1 hp2 hq1 hq2 hpl k
theorem law_s13 {w : World} {h₀ : Heap} {L a : Addr} {cd : Value} {loose : List Str} {mean : ExcName → Option Value} {mg mb : Str → Option Value} {Q : Flow → Shared → Prop} {m : Str → Option Value} {s : Shared}
   {c1 c2 c3 c4 : Obj} {D : Addr} {d0 d1 d2 : Int} {v0 v1 v2 : Tok} {p q b b' : Nat} {t1 u2 u5 : Tok}
   (B : Below callerA h₀ [] h₀) (F : Fr h₀ L s.heap m) (X : (Mine.hd.heap_39 w.params).In h₀) (T : Top Mine.hd.view_39 loose mean mg mb h₀)
   (N : News h₀ L s.heap [(D, LCg.lst [.int d0 v0, .int d1 v1, .int d2 v2]), (L + 1 + 1 + 1 + 1, c4), (L + 1 + 1 + 1, c3), (L + 1 + 1, c2), (L + 1, c1)])
   (h3 : c3.data = .cell (some (.int p t1)))
   (ho : m (Str.ofString "other") = some (.int q u2)) (hbo : m (Str.ofString "bound") = some (.int b u5))
   (hp1 : 1 ≤ p) (hp2 : p ≤ 12) (hq1 : 1 ≤ q) (hq2 : q ≤ 12) (hb : b ≤ 24) (hb2 : b = b' + 1)
   (k : ∀ h' tk m' t t' u5, Fr h₀ L h' m' → News h₀ L h' [(D, LCg.lst [.int d0 v0, .int d1 v1, .int d2 v2]), (L + 1 + 1 + 1 + 1, c4), (L + 1 + 1 + 1, c3), (L + 1 + 1, c2), (L + 1, c1)] →
      m' (Str.ofString "bound") = some (.int b u5) → m' (Str.ofString "one") = some (.str (S ((madeL p q b').take p)) t) → m' (Str.ofString "two") = some (.str (S ((madeL p q b').drop p)) t') → Q .next { s with heap := h', toks := tk }) :
   wpAny (model Challenge.rw_at5022_01.row.prog w) (callerA.deeper (LE L a cd)) (exec (st 12) (LE L a cd)) Q (fun _ _ => False) s := by
  revert X; k_fill; intro X
  conv in (st 12) => whnf
  replace F := spell2 F ho hbo
  have e9 : (b : Int) - 1 = (b' : Int) := by omega
  iterate 15 (first | walk1 | (dsimp only; walk1))
  refine made_lawI e9 (by assumption) (by k_asm) (by assumption) (by k_asm) (by assumption) (by omega) (by omega) (by omega) (by omega) (by omega) ?_
  intro h' tk' D' t' t2' F' N'
  k_steps
  with_reducible rename Fr _ _ _ _ => F9
  with_reducible rename News _ _ _ _ => N9
  exact k _ _ _ _ _ _ F9 (cb_drop N9 fun p hp => .tail _ hp) rfl rfl rfl
end Mine

-- part S14
namespace Mine
theorem rep_lawI {w : World} {h₀ : Heap} {L a : Addr} {cd : Value} {loose : List Str} {mean : ExcName → Option Value} {mg mb : Str → Option Value} {Q : Value → Shared → Prop} {E : Value → Shared → Prop} {m : Str → Option Value} {s : Shared} {news : List (Addr × Obj)} {x : Str} {tx tn : Tok} {n : Int} {n' : Nat}
   (hz : n = (n' : Int)) (B : Below callerA h₀ [] h₀) (F : Fr h₀ L s.heap m) (X : (Mine.hd.heap_39 w.params).In h₀) (N : News h₀ L s.heap news) (T : Top Mine.hd.view_39 loose mean mg mb h₀)
   (hx : 1 ≤ x.length) (hx2 : x.length ≤ 100) (hn2 : n' ≤ 1000)
   (k : ∀ h' tk t, Fr h₀ L h' m → News h₀ L h' news → Q (.str (S (row x.cps.toList n')) t) { s with heap := h', toks := tk }) :
   wpAny (model Challenge.rw_at5022_01.row.prog w) (callerA.deeper (LE L a cd)) (call (.ref 21) [.str x tx, .int n tn]) Q E s := by
  subst hz
  exact rep_law B F X N T hx hx2 (by omega) (by omega) k
local macro_rules | `(tactic| walk_at "call ref") => `(tactic| (k_here; first
  | (refine rep_lawI (by with_reducible rfl) (by assumption) (by k_asm) (by assumption) (by k_asm) (by assumption) (by omega) (by omega) (by omega) ?_; intro h' tk' t' F' N')
  | (refine rep_lawI (by assumption) (by assumption) (by k_asm) (by assumption) (by k_asm) (by assumption) (by omega) (by omega) (by omega) ?_; intro h' tk' t' F' N')))
theorem law_s14 {w : World} {h₀ : Heap} {L a : Addr} {cd : Value} {loose : List Str} {mean : ExcName → Option Value} {mg mb : Str → Option Value} {Q : Flow → Shared → Prop} {m : Str → Option Value} {s : Shared}
   {news : List (Addr × Obj)} {b b' : Nat} {t1 t2 u5 : Tok} {x y : PySem.Str}
   (B : Below callerA h₀ [] h₀) (F : Fr h₀ L s.heap m) (X : (Mine.hd.heap_39 w.params).In h₀) (T : Top Mine.hd.view_39 loose mean mg mb h₀)
   (N : News h₀ L s.heap news)
   (hbo : m (Str.ofString "bound") = some (.int b u5)) (hx : m (Str.ofString "one") = some (.str x t1)) (hy : m (Str.ofString "two") = some (.str y t2))
   (hxl : 1 ≤ x.length) (hxl2 : x.length ≤ 12) (hyl : 1 ≤ y.length) (hyl2 : y.length ≤ 12) (hb : b ≤ 24) (hb2 : b = b' + 1)
   (he1 : S (row x.cps.toList b') = S (row y.cps.toList b')) (he2 : S (row x.cps.toList b) ≠ S (row y.cps.toList b))
   (k : ∀ h' tk m', Fr h₀ L h' m' → News h₀ L h' news → Q .next { s with heap := h', toks := tk }) :
   wpAny (model Challenge.rw_at5022_01.row.prog w) (callerA.deeper (LE L a cd)) (exec (st 13) (LE L a cd)) Q (fun _ _ => False) s := by
  revert X; k_fill; intro X
  conv in (st 13) => whnf
  replace F := spell3 F hbo hx hy
  have e9 : (b : Int) - 1 = (b' : Int) := by omega
  k_steps
  · with_reducible rename (_ != _) = true => hq
    rw [he1, bne_self_eq_false] at hq
    cases hq
  · with_reducible rename (_ == _) = true => hq
    exact absurd (eq_of_beq hq) he2
  · with_reducible rename Fr _ _ _ _ => F9
    with_reducible rename News _ _ _ _ => N9
    exact k _ _ _ F9 N9
end Mine

-- part S15
namespace Mine
theorem law_s15 {w : World} {h₀ : Heap} {L a : Addr} {cd : Value} {loose : List Str} {mean : ExcName → Option Value} {mg mb : Str → Option Value} {Q : Flow → Shared → Prop} {m : Str → Option Value} {s : Shared}
   {c1 c2 c3 c4 : Obj} {D : Addr} {d0 d1 d2 : Int} {v0 v1 v2 t1 : Tok} {p : Nat}
   (B : Below callerA h₀ [] h₀) (F : Fr h₀ L s.heap m) (X : (Mine.hd.heap_39 w.params).In h₀) (T : Top Mine.hd.view_39 loose mean mg mb h₀)
   (N : News h₀ L s.heap [(D, LCg.lst [.int d0 v0, .int d1 v1, .int d2 v2]), (L + 1 + 1 + 1 + 1, c4), (L + 1 + 1 + 1, c3), (L + 1 + 1, c2), (L + 1, c1)])
   (h2 : c2.data = .cell (some (.ref D))) (h3 : c3.data = .cell (some (.int p t1))) (hp2 : p ≤ 12)
   (k : ∀ h' tk m' t f, Fr h₀ L h' m' → News h₀ L h' [(D, LCg.lst [.int d0 v0, .int d1 v1, .int d2 v2]), (L + 1 + 1 + 1 + 1, c4), (L + 1 + 1 + 1, c3), (L + 1 + 1, c2), (L + 1, c1)] →
      m' (Str.ofString "far") = some (.int (f : Nat) t) → f ≤ 100 → Q .next { s with heap := h', toks := tk }) :
   wpAny (model Challenge.rw_at5022_01.row.prog w) (callerA.deeper (LE L a cd)) (exec (st 14) (LE L a cd)) Q (fun _ _ => False) s := by
  revert X; k_fill; intro X
  conv in (st 14) => whnf
  k_steps
  with_reducible rename Fr _ _ _ _ => F9
  with_reducible rename News _ _ _ _ => N9
  have e : [d0, d1, d2].getD (Int.toNat 1) 0 = d1 := rfl
  simp only [e] at F9
  have m0 := Int.fmod_nonneg_of_pos d1 (show (0 : Int) < 30 by decide)
  have m1 := Int.fmod_lt_of_pos d1 (show (0 : Int) < 30 by decide)
  obtain ⟨f, hf⟩ := Int.eq_ofNat_of_zero_le (show 0 ≤ (p : Int) + d1.fmod 30 by omega)
  rw [hf] at F9
  exact k _ _ _ _ f F9 N9 rfl (by omega)
theorem law_s16 {w : World} {h₀ : Heap} {L a : Addr} {cd : Value} {loose : List Str} {mean : ExcName → Option Value} {mg mb : Str → Option Value} {Q : Flow → Shared → Prop} {m : Str → Option Value} {s : Shared}
   {c1 c2 c3 c4 : Obj} {D : Addr} {d0 d1 d2 : Int} {v0 v1 v2 t0 t1 t2 : Tok} {p f : Nat} {x : PySem.Str}
   (B : Below callerA h₀ [] h₀) (F : Fr h₀ L s.heap m) (X : (Mine.hd.heap_39 w.params).In h₀) (T : Top Mine.hd.view_39 loose mean mg mb h₀)
   (N : News h₀ L s.heap [(D, LCg.lst [.int d0 v0, .int d1 v1, .int d2 v2]), (L + 1 + 1 + 1 + 1, c4), (L + 1 + 1 + 1, c3), (L + 1 + 1, c2), (L + 1, c1)])
   (h4 : c4.data = .cell (some (.str x t0))) (h3 : c3.data = .cell (some (.int p t1))) (hp1 : 1 ≤ p) (hp2 : p ≤ 12) (hxl : x.length = p)
   (hf : m (Str.ofString "far") = some (.int f t2)) (hf2 : f ≤ 100)
   (k : ∀ h' tk m' news, Fr h₀ L h' m' → News h₀ L h' news → Q (.ret (.bool true)) { s with heap := h', toks := tk }) :
   wpAny (model Challenge.rw_at5022_01.row.prog w) (callerA.deeper (LE L a cd)) (exec (st 15) (LE L a cd)) Q (fun _ _ => False) s := by
  revert X; k_fill; intro X
  conv in (st 15) => whnf
  replace F := spell F hf
  iterate 11 (first | walk1 | (dsimp only; walk1))
  refine rep_lawI rfl (by assumption) (by k_asm) (by assumption) (by k_asm) (by assumption) (by omega) (by omega) (by omega) ?_
  clear F N
  intro h' tk' t' F' N'
  try dsimp only
  iterate 13 (first | walk1 | (dsimp only; walk1))
  refine LCg.CompSrc.range (n := f) (by rfl) (by k_asm) (by k_asm) (by assumption) (small_one (by decide) (by decide) (by omega) (by omega)) (rangeSize_nat _ _) (by rw [sizeLine_eq]; omega) ?_
  intro g'
  have hp0 : (p : Int) ≠ 0 := by omega
  refine kct_range (fun k => S [x.cps.toList.getD (k.toNat % p) 0]) ?_ ?_
  · intro k' t' I' oI' C' oC' D' m' ys' h' tk' E' hlo' hhi' hC' hx' F' N' off' ne'
    have off2 := off'
    simp only [LCg.Off3, and_true] at off2
    intro mk
    dsimp only
    obtain ⟨j, rfl⟩ := Int.eq_ofNat_of_zero_le hlo'
    have hm1 : (j : Int).fmod p = ((j % p : Nat) : Int) := by rw [Int.fmod_eq_emod_of_nonneg _ (by omega)]; rfl
    have hm3 : j % p < p := Nat.mod_lt _ hp1
    k_steps
    refine kct_el ?_ rfl rfl
    rw [hm1, item_eq _ _ (by omega) (by omega)]
    rfl
  · intro ys hys hlen
    intro D9 h9 tk9 F' N' o1
    dsimp only
    walk1
    try dsimp only
    refine KT.join_B (l := rangeKs 0 f) (g := fun k => S [x.cps.toList.getD (k.toNat % p) 0]) 1 (News.isList N' (.head _)) hys (fun a _ => Nat.le_of_eq rfl) (by rw [hlen]; omega) (by decide) ?_
    intro t7 k7
    rw [join_S]
    have e : List.map (fun k : Int => x.cps.toList.getD (k.toNat % p) 0) (rangeKs 0 f) = row x.cps.toList f := by
      rw [row, rangeKs, List.map_map]
      apply List.map_congr_left
      intro i hi
      simp only [Function.comp, Int.zero_add, Int.toNat_natCast]
      rw [Array.length_toList, show x.cps.size = p from hxl]
    rw [e]
    walk1
    dsimp only
    rw [beq_self_eq_true]
    exact k _ _ _ _ (by assumption) (by assumption)
end Mine

-- part R2
namespace Mine
def rowB (l : List UInt8) (n : Nat) : List UInt8 := (List.range n).map fun k => l.getD (k % l.length) 0
theorem take_rowB {l : List UInt8} {k n : Nat} (h : 0 < l.length) (hn : n ≤ k * l.length) : (List.replicate k l).flatten.take n = rowB l n := by
  apply List.ext_getElem?
  intro i
  rw [List.getElem?_take, rowB, List.getElem?_map]
  by_cases hi : i < n
  · rw [if_pos hi, flat_rep_get l k i h, if_pos (by omega)]
    have hm : i % l.length < l.length := Nat.mod_lt _ h
    simp [hi, hm]
  · rw [if_neg hi]
    simp [hi]
theorem rep_bytes {w : World} {A A₀ : Around} {base h₀ : Heap} {outer : List Env} {env : Env} {L : Addr} {m : Str → Option Value} {news : List (Addr × Obj)} {s : Shared}
   {loose : List Str} {mean : ExcName → Option Value} {mg mb : Str → Option Value} {Q : Value → Shared → Prop} {E : Value → Shared → Prop} {x : List UInt8} {tx tn : Tok} {n : Int}
   (B : Below A₀ base outer h₀) (F : Fr h₀ L s.heap m) (X : (Mine.hd.heap_39 w.params).In h₀) (N : News h₀ L s.heap news) (T : Top Mine.hd.view_39 loose mean mg mb h₀)
   (hA : A.frames = some (env :: outer)) (hf : env.frame = some L) (hke : env.scope.kind = .function) (hroom : A.depth < recursionLimit)
   (hx : 1 ≤ x.length) (hx2 : x.length ≤ 16) (hn : 0 ≤ n) (hn2 : n ≤ 1000)
   (k : ∀ h' tk t, Fr h₀ L h' m → News h₀ L h' news → Q (.bytes (rowB x n.toNat).toArray t) { s with heap := h', toks := tk }) :
   wpAny (model Challenge.rw_at5022_01.row.prog w) A (call (.ref 21) [.bytes x.toArray tx, .int n tn]) Q E s := by
  revert X; k_fill; intro X
  refine wpAny_call ?_
  refine' code_def (binds := [((Str.ofString "source"), .bytes x.toArray tx), ((Str.ofString "size"), .int n tn)]) B F X N T hA hf hke ?k6 ?k7 hroom ?k9 ?kB ?_ ?c2 ?c3 ?c4 ?c5
  (case k6 => k_is); (case k7 => k_is); (case k9 => exact BindsTo.of_eq rfl); (case c5 => decide); (case kB => exact locs rfl); (case c2 => exact rfl); (case c3 => exact rfl); (case c4 => exact rfl)
  clear F B X N T
  intro g' L' h' FG' F' N' B' X' T'; (try dsimp only)
  (try k_lift B'); (try k_fold)
  obtain ⟨hm0, hm1, hm2⟩ := mult_ge (n := n) (len := (x.length : Int)) (by omega) hn
  iterate 16 (first | k_unfold | walk1 | (dsimp only; walk1))
  refine len_bytes (by rw [List.size_toArray]; omega) ?_
  rw [List.size_toArray]
  dsimp only
  iterate 10 (first | walk1 | (dsimp only; walk1))
  dsimp only
  have hne : x ≠ [] := by intro e; rw [e] at hx; simp at hx
  refine bytes_mul_any hne (by omega) (by omega) (by omega) ?_
  intro t7 k7
  dsimp only
  iterate 5 (first | walk1 | (dsimp only; walk1))
  dsimp only
  with_reducible rename Fr _ _ _ _ => F9
  with_reducible rename News _ _ _ _ => N9
  obtain ⟨kk, hkk⟩ := Int.eq_ofNat_of_zero_le hm0
  obtain ⟨nn, rfl⟩ := Int.eq_ofNat_of_zero_le hn
  rw [hkk] at hm1 hm2 F9 ⊢
  have hfl := flat_rep_len x kk
  have hmul : kk * x.length ≤ 1000 * 16 := Nat.mul_le_mul (by omega) hx2
  refine KBc.slice_K (s := ⟨_, _, _, _, _⟩) F9 N9 rfl IsPart.none (IsPart.int _ _) (by rw [KBw.ints_length, List.size_toArray, Int.toNat_natCast, hfl]; omega) ?_
  intro h2 t2 k2 F2 N2 _
  have e9 : KBy.picked ((List.replicate ((kk : Int)).toNat x).flatten.toArray) none (some (nn : Int)) = (rowB x ((nn : Int)).toNat).toArray := by
    rw [KBc.picked_eq]
    simp only [Option.elim, List.drop_zero, Nat.sub_zero, Int.toNat_natCast, List.size_toArray]
    rw [hfl, ← take_rowB (k := kk) (by omega) (by omega)]
    congr 2
    rw [clipAt_nat]
    omega
  rw [e9]
  exact leaveK_ F2 N2 fun a b => k _ _ _ a b
end Mine

-- part En
namespace Mine
open PySem.Builtin PySem.Builtin._codecs
theorem enc_tree (x : PySem.Str) (t u : Tok) : Builtin.«str.encode» ⟨[.str x t, .str (PySem.Str.ofString "ascii") u], []⟩ = (do ret (← encodeRoad "str.encode" (.str x t) x (PySem.Str.ofString "ascii") none)) := by
  first | rfl | kernel_rfl
theorem enc_road (id : String) (self : Value) (x : PySem.Str) : encodeRoad id self x (PySem.Str.ofString "ascii") none = (do mkBytes (← encodeNarrow id asciiCodec none self x)) := by
  first | rfl | (unfold encodeRoad; rfl) | kernel_rfl
theorem forIn_two {β : Type} {l : List Nat} (hl : l ≠ []) {f : Nat → β → Sem (ForInStep β)} {b : β} (r : β) (h1 : ∀ a, f a b = pure (.yield r)) (h2 : ∀ a, f a r = pure (.done r)) : forIn l b f = pure r := by
  cases l with
  | nil => exact absurd rfl hl
  | cons a l =>
    rw [List.forIn_cons, h1, pure_bind]
    cases l with
    | nil => rfl
    | cons a l => show forIn (a :: l) r f = pure r; rw [List.forIn_cons, h2, pure_bind]
theorem foldl_push8 (l : List Nat) (acc : Array UInt8) : l.foldl (fun acc y => acc ++ ([y.toUInt8] : List UInt8).toArray) acc = acc ++ (l.map (·.toUInt8)).toArray := by
  induction l generalizing acc with
  | nil => simp
  | cons a l ih => rw [List.foldl_cons, ih]; simp
theorem enc_narrow (id : String) (self : Value) (x : PySem.Str) (h0 : 1 ≤ x.length) (h9 : x.length ≤ 100) (hx : ∀ c ∈ x.cps.toList, c < 128) : encodeNarrow id asciiCodec none self x = pure (x.cps.map (·.toUInt8)) := by
  have hbad : ∀ c ∈ x.cps.toList, asciiCodec.bad c = false := fun c hc => by
    show decide (c ≥ 128) = false
    have := hx c hc
    exact decide_eq_false (by omega)
  have hnone : x.cps.findIdx? asciiCodec.bad = none := by
    rw [Array.findIdx?_eq_none_iff]
    intro c hc
    exact hbad c (by simpa using hc)
  have hsz : x.cps.size = x.length := rfl
  unfold encodeNarrow
  dsimp only
  simp only [KPc.range_list]
  have hl : List.range' 0 x.length ≠ [] := by
    intro e
    have := congrArg List.length e
    rw [List.length_range'] at this
    simp at this
    omega
  rw [forIn_two hl (x.cps.size, x.cps.map (·.toUInt8), {}) ?h1 ?h2]
  case h1 =>
    intro a
    have hlt : 0 < x.cps.size := by rw [hsz]; omega
    have hc : x.cps[0]? = some x.cps[0] := Array.getElem?_eq_getElem hlt
    have hb : asciiCodec.bad x.cps[0] = false := hbad _ (by rw [Array.mem_toList_iff]; exact Array.getElem_mem hlt)
    dsimp only
    rw [if_neg (by simp), hc]
    dsimp only
    rw [hb]
    simp only [Bool.not_false, if_true]
    have e1 : x.cps.extract 0 = x.cps := by simp
    rw [e1, hnone]
    simp only [Option.getD_none, Nat.zero_add]
    have e2 : x.cps.extract 0 x.cps.size = x.cps := by simp
    rw [e2]
    have e3 : Array.foldl (fun acc y => acc ++ (asciiCodec.bytesOf y).toArray) #[] x.cps = x.cps.map (·.toUInt8) := by
      rw [← Array.foldl_toList]
      refine (foldl_push8 x.cps.toList #[]).trans ?_
      apply Array.ext'
      simp
    rw [e3]
  case h2 =>
    intro a
    have hc : x.cps[x.cps.size]? = none := by simp
    dsimp only
    rw [if_neg (by rw [Array.size_map, sizeLine_eq]; omega), hc]
  rfl
theorem gives_encode (x : PySem.Str) (t u : Tok) (h0 : 1 ≤ x.length) (h9 : x.length ≤ 100) (hx : ∀ c ∈ x.cps.toList, c < 128) :
    Gives (Builtin.«str.encode» ⟨[.str x t, .str (PySem.Str.ofString "ascii") u], []⟩) (.bytes (x.cps.map (·.toUInt8))) := by
  rw [enc_tree, enc_road, enc_narrow _ _ _ h0 h9 hx]
  refine .of_wp fun M A E s Q hq => ?_
  rw [pure_bind]
  exact wpAny_bind (wpAny_mkBytes (wpAny_pure ⟨_, rfl, hq.2⟩) hq.1)
def U8 (x : PySem.Str) : List UInt8 := x.cps.toList.map (·.toUInt8)
theorem U8_len (x : PySem.Str) : (U8 x).length = x.length := by rw [U8, List.length_map, Array.length_toList]; rfl
section
variable {prog : Program} {w : World} {A : Around} {E : Value → Shared → Prop} {s : Shared} {x : PySem.Str} {t u : Tok} {Q : Value → Shared → Prop}
theorem encode_str (h0 : 1 ≤ x.length) (h9 : x.length ≤ 100) (hx : ∀ c ∈ x.cps.toList, c < 128) (h : ∀ t' k, Q (.bytes (x.cps.map (·.toUInt8)) t') { s with toks := k }) :
    wpAny (model prog w) A (call (.builtin "str.encode") [.str x t, .str (PySem.Str.ofString "ascii") u]) Q E s :=
  call_gives F.slot_str_encode (typeIs_str _ _ _) F.entry_str_encode (F.args_str_encode_2 _ _) (gives_encode x t u h0 h9 hx) ⟨by rw [Array.size_map, sizeLine_eq]; show x.length ≤ _; omega, h _ _⟩
theorem encode_U8 (h0 : 1 ≤ x.length) (h9 : x.length ≤ 100) (hx : ∀ c ∈ x.cps.toList, c < 128) (h : ∀ t' k, Q (.bytes (U8 x).toArray t') { s with toks := k }) :
    wpAny (model prog w) A (call (.builtin "str.encode") [.str x t, .str (PySem.Str.ofString "ascii") u]) Q E s :=
  encode_str h0 h9 hx fun t' k => by
    have e : x.cps.map (·.toUInt8) = (U8 x).toArray := by apply Array.ext'; simp [U8]
    rw [e]; exact h t' k
end
end Mine

-- part S12
namespace Mine
theorem repB_lawI {w : World} {h₀ : Heap} {L a : Addr} {cd : Value} {loose : List Str} {mean : ExcName → Option Value} {mg mb : Str → Option Value} {Q : Value → Shared → Prop} {E : Value → Shared → Prop} {m : Str → Option Value} {s : Shared} {news : List (Addr × Obj)} {x : PySem.Str} {tx tn : Tok} {n : Int} {n' : Nat}
   (hz : n = (n' : Int)) (B : Below callerA h₀ [] h₀) (F : Fr h₀ L s.heap m) (X : (Mine.hd.heap_39 w.params).In h₀) (N : News h₀ L s.heap news) (T : Top Mine.hd.view_39 loose mean mg mb h₀)
   (hx : 1 ≤ x.length) (hx2 : x.length ≤ 16) (hn2 : n' ≤ 1000)
   (k : ∀ h' tk t, Fr h₀ L h' m → News h₀ L h' news → Q (.bytes (rowB (U8 x) n').toArray t) { s with heap := h', toks := tk }) :
   wpAny (model Challenge.rw_at5022_01.row.prog w) (callerA.deeper (LE L a cd)) (call (.ref 21) [.bytes (U8 x).toArray tx, .int n tn]) Q E s := by
  subst hz
  exact rep_bytes B F X N T rfl rfl rfl (by k_room) (by rw [U8_len]; exact hx) (by rw [U8_len]; exact hx2) (by omega) (by omega) k
local macro_rules | `(tactic| walk_at "call ref") => `(tactic| (k_here; first
  | (refine rep_lawI (by with_reducible rfl) (by assumption) (by k_asm) (by assumption) (by k_asm) (by assumption) (by omega) (by omega) (by omega) ?_; intro h' tk' t' F' N')
  | (refine rep_lawI (by assumption) (by assumption) (by k_asm) (by assumption) (by k_asm) (by assumption) (by omega) (by omega) (by omega) ?_; intro h' tk' t' F' N')
  | (refine repB_lawI (by with_reducible rfl) (by assumption) (by k_asm) (by assumption) (by k_asm) (by assumption) (by omega) (by omega) (by omega) ?_; intro h' tk' t' F' N')
  | (refine repB_lawI (by assumption) (by assumption) (by k_asm) (by assumption) (by k_asm) (by assumption) (by omega) (by omega) (by omega) ?_; intro h' tk' t' F' N')))
theorem gm_encode {M : Model} {A : Around} {E : Value → Shared → Prop} {s : Shared} {x : PySem.Str} {t : Tok} {pl : Sem Bool} {Q : Value × List Value → Shared → Prop} (h : Q (.builtin "str.encode", [.str x t]) s) : wpAny M A (getMethod (.str x t) (Str.ofString "encode") pl) Q E s := by
  exact GM.of (.str x t) (typeIs_str _ _ _) F.slot_str_encode F.type_str_encode GM.noRef h
local macro_rules | `(tactic| walk_at "getMethod str") => `(tactic| with_reducible refine gm_encode ?_)
local macro_rules | `(tactic| walk_at "call builtin:str.encode") => `(tactic| (refine encode_U8 (by omega) (by omega) (by assumption) ?_; intro t' k'))
theorem law_s12 {w : World} {h₀ : Heap} {L a : Addr} {cd : Value} {loose : List Str} {mean : ExcName → Option Value} {mg mb : Str → Option Value} {Q : Flow → Shared → Prop} {m : Str → Option Value} {s : Shared}
   {c1 c2 c3 c4 : Obj} {D : Addr} {d0 d1 d2 : Int} {v0 v1 v2 : Tok} {p q c b ag : Nat} {t0 t1 u2 u3 u4 u5 u6 : Tok} {x y : PySem.Str}
   (B : Below callerA h₀ [] h₀) (F : Fr h₀ L s.heap m) (X : (Mine.hd.heap_39 w.params).In h₀) (T : Top Mine.hd.view_39 loose mean mg mb h₀)
   (N : News h₀ L s.heap [(D, LCg.lst [.int d0 v0, .int d1 v1, .int d2 v2]), (L + 1 + 1 + 1 + 1, c4), (L + 1 + 1 + 1, c3), (L + 1 + 1, c2), (L + 1, c1)])
   (h4 : c4.data = .cell (some (.str x t0))) (h3 : c3.data = .cell (some (.int p t1)))
   (ho : m (Str.ofString "other") = some (.int q u2)) (hc : m (Str.ofString "common") = some (.int c u3)) (hs : m (Str.ofString "second") = some (.str y u4)) (hbo : m (Str.ofString "bound") = some (.int b u5)) (hag : m (Str.ofString "agreed") = some (.int ag u6))
   (hx : LetS x) (hy : LetS y) (hxl : x.length = p) (hyl : y.length = q) (hp1 : 1 ≤ p) (hp2 : p ≤ 12) (hq1 : 1 ≤ q) (hq2 : q ≤ 12) (hc1 : 1 ≤ c) (hcp : c ≤ p) (hb : b ≤ 24) (hab : ag ≤ b)
   (hA : ag < b → row x.cps.toList (ag + 1) ≠ row y.cps.toList (ag + 1) ∧ rowB (U8 x) ag = rowB (U8 y) ag ∧ rowB (U8 x) (ag + 1) ≠ rowB (U8 y) (ag + 1))
   (hB : ¬ ag < b → S (row (x.cps.toList.take c) p) = x ∧ S (row (x.cps.toList.take c) q) = y ∧ row x.cps.toList (2 * p * q + 1) = row y.cps.toList (2 * p * q + 1))
   (k : ∀ h' tk m' u2 u5, Fr h₀ L h' m' → News h₀ L h' [(D, LCg.lst [.int d0 v0, .int d1 v1, .int d2 v2]), (L + 1 + 1 + 1 + 1, c4), (L + 1 + 1 + 1, c3), (L + 1 + 1, c2), (L + 1, c1)] →
      m' (Str.ofString "other") = some (.int q u2) → m' (Str.ofString "bound") = some (.int b u5) → Q .next { s with heap := h', toks := tk }) :
   wpAny (model Challenge.rw_at5022_01.row.prog w) (callerA.deeper (LE L a cd)) (exec (st 11) (LE L a cd)) Q (fun _ _ => False) s := by
  revert X; k_fill; intro X
  conv in (st 11) => whnf
  replace F := spell5 F ho hc hs hbo hag
  have e1 : (ag : Int) + 1 = ((ag + 1 : Nat) : Int) := by omega
  have hx7 : ∀ c ∈ x.cps.toList, c < 128 := fun c hc => by rcases hx c hc with h | h <;> omega
  have hy7 : ∀ c ∈ y.cps.toList, c < 128 := fun c hc => by rcases hy c hc with h | h <;> omega
  have e2 := slice_to x c (by omega)
  have hsl : (Txt.slice x none (some (c : Int))).length = c := by rw [e2, S_len, List.length_take, Array.length_toList]; show min c x.length = c; omega
  have e3 : (2 : Int) * p * q + 1 = ((2 * p * q + 1 : Nat) : Int) := by simp
  have hfar : 2 * p * q + 1 ≤ 289 := by
    have : 2 * p * q ≤ 24 * 12 := Nat.mul_le_mul (by omega) hq2
    omega
  k_steps
  · obtain ⟨ha1, _, _⟩ := hA (by omega)
    with_reducible rename (_ == _) = true => hq
    exact absurd (congrArg (fun z : PySem.Str => z.cps.toList) (eq_of_beq hq)) ha1
  · obtain ⟨_, ha2, _⟩ := hA (by omega)
    with_reducible rename (_ != _) = true => hq
    rw [ha2, bne_self_eq_false] at hq
    cases hq
  · obtain ⟨_, _, ha3⟩ := hA (by omega)
    with_reducible rename (_ == _) = true => hq
    exact absurd (eq_of_beq hq) ha3
  · with_reducible rename Fr _ _ _ _ => F9
    with_reducible rename News _ _ _ _ => N9
    exact k _ _ _ _ _ F9 (cb_drop N9 (fun p hp => .tail _ hp)) rfl rfl
  · obtain ⟨hb1, hb2, hb3⟩ := hB (by omega)
    with_reducible rename (_ != _) = true => hq
    rw [e2, S_cps, hb1, bne_self_eq_false] at hq
    cases hq
  · obtain ⟨hb1, hb2, hb3⟩ := hB (by omega)
    with_reducible rename (_ != _) = true => hq
    rw [e2, S_cps, hb2, bne_self_eq_false] at hq
    cases hq
  · obtain ⟨hb1, hb2, hb3⟩ := hB (by omega)
    with_reducible rename (_ != _) = true => hq
    rw [hb3, bne_self_eq_false] at hq
    cases hq
  · with_reducible rename Fr _ _ _ _ => F9
    with_reducible rename News _ _ _ _ => N9
    exact k _ _ _ _ _ F9 (cb_drop N9 (fun p hp => .tail _ hp)) rfl rfl
end Mine

-- part Law
namespace Mine
theorem per_mod {p n : Nat} {w : Nat → Nat} (h1 : ∀ i, i + p < n → w (i + p) = w i) : ∀ i, i < n → w i = w (i % p) := by
  intro i
  induction i using Nat.strongRecOn with
  | ind i ih =>
    intro hi
    by_cases hlt : i < p
    · rw [Nat.mod_eq_of_lt hlt]
    · by_cases hp : p = 0
      · subst hp; rw [Nat.mod_zero]
      · have e : i - p + p = i := by omega
        have a := h1 (i - p) (by omega)
        rw [e] at a
        rw [a, ih (i - p) (by omega) (by omega), Nat.mod_eq_sub_mod (by omega : i ≥ p)]
theorem fine_wilf : ∀ (t p q n : Nat) (w : Nat → Nat), p + q ≤ t → 0 < p → 0 < q → p + q ≤ n + Nat.gcd p q → (∀ i, i + p < n → w (i + p) = w i) → (∀ i, i + q < n → w (i + q) = w i) → ∀ i, i < n → w i = w (i % Nat.gcd p q) := by
  intro t
  induction t with
  | zero => intro p q n w h; omega
  | succ t ih =>
    intro p q n w ht hp hq hn h1 h2
    rcases Nat.lt_trichotomy p q with hlt | heq | hgt
    · have hg : Nat.gcd p (q - p) = Nat.gcd p q := by
        rw [Nat.gcd_comm p (q - p), Nat.gcd_comm p q]
        exact Nat.gcd_sub_self_left (Nat.le_of_lt hlt)
      have hgd : Nat.gcd p q ∣ p := Nat.gcd_dvd_left p q
      have hgs : Nat.gcd p q ≤ q - p := by
        rw [← hg]; exact Nat.le_of_dvd (by omega) (Nat.gcd_dvd_right p (q - p))
      have key := ih p (q - p) (n - p) w (by omega) hp (by omega) (by rw [hg]; omega) (fun i hi => h1 i (by omega)) (fun i hi => by
        have a := h2 i (by omega)
        have b := h1 (i + (q - p)) (by omega)
        rw [show i + (q - p) + p = i + q by omega] at b
        rw [← b, a])
      intro i hi
      rw [per_mod h1 i hi]
      have hm : i % p < p := Nat.mod_lt _ hp
      rw [key (i % p) (by omega), hg, Nat.mod_mod_of_dvd _ hgd]
    · subst heq
      rw [Nat.gcd_self]
      exact per_mod h1
    · have hg : Nat.gcd (p - q) q = Nat.gcd p q := Nat.gcd_sub_self_left (Nat.le_of_lt hgt)
      have hgd : Nat.gcd p q ∣ q := Nat.gcd_dvd_right p q
      have hgs : Nat.gcd p q ≤ p - q := by
        rw [← hg]; exact Nat.le_of_dvd (by omega) (Nat.gcd_dvd_left (p - q) q)
      have key := ih (p - q) q (n - q) w (by omega) (by omega) hq (by rw [hg]; omega) (fun i hi => by
        have a := h1 i (by omega)
        have b := h2 (i + (p - q)) (by omega)
        rw [show i + (p - q) + q = i + p by omega] at b
        rw [← b, a]) (fun i hi => h2 i (by omega))
      intro i hi
      rw [per_mod h2 i hi]
      have hm : i % q < q := Nat.mod_lt _ hq
      rw [key (i % q) (by omega), hg, Nat.mod_mod_of_dvd _ hgd]
def rw_ (l : List Nat) (i : Nat) : Nat := l.getD (i % l.length) 0
theorem fw_rows {l r : List Nat} (hl : 0 < l.length) (hr : 0 < r.length) (h : ∀ i, i + Nat.gcd l.length r.length < l.length + r.length → rw_ l i = rw_ r i) :
    ∀ i, rw_ l i = rw_ l (i % Nat.gcd l.length r.length) ∧ rw_ r i = rw_ l (i % Nat.gcd l.length r.length) := by
  have hgl : Nat.gcd l.length r.length ∣ l.length := Nat.gcd_dvd_left _ _
  have hgr : Nat.gcd l.length r.length ∣ r.length := Nat.gcd_dvd_right _ _
  have hle1 := Nat.le_of_dvd hl hgl
  have hle2 := Nat.le_of_dvd hr hgr
  have pl : ∀ i, rw_ l (i + l.length) = rw_ l i := fun i => by rw [rw_, rw_, Nat.add_mod_right]
  have pr : ∀ i, rw_ r (i + r.length) = rw_ r i := fun i => by rw [rw_, rw_, Nat.add_mod_right]
  have ml : ∀ i, rw_ l (i % l.length) = rw_ l i := fun i => by rw [rw_, rw_, Nat.mod_mod]
  have mr : ∀ i, rw_ r (i % r.length) = rw_ r i := fun i => by rw [rw_, rw_, Nat.mod_mod]
  have key := fine_wilf _ l.length r.length (l.length + r.length - Nat.gcd l.length r.length) (rw_ l) (Nat.le_refl _) hl hr (by omega) (fun i _ => pl i) (fun i hi => by
    rw [h (i + r.length) (by omega), pr, h i (by omega)])
  intro i
  constructor
  · have hm : i % l.length < l.length := Nat.mod_lt _ hl
    rw [← ml i, key (i % l.length) (by omega), Nat.mod_mod_of_dvd _ hgl]
  · have hm : i % r.length < r.length := Nat.mod_lt _ hr
    rw [← mr i, ← h (i % r.length) (by omega), key (i % r.length) (by omega), Nat.mod_mod_of_dvd _ hgr]
theorem row_eq (l : List Nat) (n : Nat) : row l n = (List.range n).map (rw_ l) := rfl
theorem row_eq_iff {l r : List Nat} {n : Nat} : row l n = row r n ↔ ∀ i, i < n → rw_ l i = rw_ r i := by
  rw [row_eq, row_eq]
  constructor
  · intro h i hi
    have := congrArg (fun z : List Nat => z[i]?) h
    simpa [hi] using this
  · intro h
    exact List.map_congr_left fun i hi => h i (List.mem_range.mp hi)
theorem comm_row {l r : List Nat} (hl : 0 < l.length) (hc : l ++ r = r ++ l) : ∀ i, i < l.length + r.length → (l ++ r).getD i 0 = rw_ l i := by
  intro i
  induction i using Nat.strongRecOn with
  | ind i ih =>
    intro hi
    by_cases hlt : i < l.length
    · rw [rw_, Nat.mod_eq_of_lt hlt, List.getD_eq_getElem?_getD, List.getElem?_append_left hlt, ← List.getD_eq_getElem?_getD]
    · have e : (l ++ r).getD i 0 = (l ++ r).getD (i - l.length) 0 := by
        conv => rhs; rw [hc]
        rw [List.getD_eq_getElem?_getD, List.getD_eq_getElem?_getD, List.getElem?_append_right (by omega), List.getElem?_append_left (by omega)]
      rw [e, ih (i - l.length) (by omega) (by omega), rw_, rw_, Nat.mod_eq_sub_mod (by omega : i ≥ l.length)]
theorem app_row {l r : List Nat} (hl : 0 < l.length) (h : ∀ i, i < l.length + r.length → rw_ l i = rw_ r i) : l ++ r = (List.range (l.length + r.length)).map (rw_ l) := by
  apply List.ext_getElem?
  intro i
  rw [List.getElem?_map]
  by_cases hi : i < l.length + r.length
  · rw [List.getElem?_range hi, Option.map_some]
    by_cases hlt : i < l.length
    · rw [List.getElem?_append_left hlt, rw_, Nat.mod_eq_of_lt hlt]; simp [hlt]
    · rw [List.getElem?_append_right (by omega)]
      have hr : i - l.length < r.length := by omega
      have a := h (i - l.length) (by omega)
      have b : rw_ r (i - l.length) = r.getD (i - l.length) 0 := by rw [rw_, Nat.mod_eq_of_lt hr]
      have c : rw_ l i = rw_ l (i - l.length) := by rw [rw_, rw_, Nat.mod_eq_sub_mod (by omega : i ≥ l.length)]
      rw [c, a, b]; simp [hr]
  · rw [List.getElem?_eq_none (by rw [List.length_append]; omega), List.getElem?_eq_none (by rw [List.length_range]; omega)]; rfl
theorem comm_iff {l r : List Nat} (hl : 0 < l.length) (hr : 0 < r.length) : l ++ r = r ++ l ↔ ∀ i, i < l.length + r.length → rw_ l i = rw_ r i := by
  constructor
  · intro hc i hi
    rw [← comm_row hl hc i hi, hc, comm_row hr hc.symm i (by omega)]
  · intro h
    rw [app_row hl h, app_row hr (fun i hi => (h i (by omega)).symm), Nat.add_comm r.length]
    exact List.map_congr_left fun i hi => h i (List.mem_range.mp hi)
theorem rows_all {l r : List Nat} {b : Nat} (hl : 0 < l.length) (hr : 0 < r.length) (hb : b + Nat.gcd l.length r.length = l.length + r.length) (h : row l b = row r b) :
    ∀ i, rw_ l i = rw_ l (i % Nat.gcd l.length r.length) ∧ rw_ r i = rw_ l (i % Nat.gcd l.length r.length) :=
  fw_rows hl hr fun i hi => row_eq_iff.mp h i (by omega)
theorem law_comm {l r : List Nat} {b : Nat} (hl : 0 < l.length) (hr : 0 < r.length) (hb : b + Nat.gcd l.length r.length = l.length + r.length) : row l b = row r b ↔ l ++ r = r ++ l := by
  rw [comm_iff hl hr]
  constructor
  · intro h i _
    obtain ⟨e1, e2⟩ := rows_all hl hr hb h i
    rw [e1, e2]
  · intro h
    exact row_eq_iff.mpr fun i hi => h i (by omega)
theorem rw_root {l : List Nat} {g : Nat} (hg : 0 < g) (hgl : g ≤ l.length) (i : Nat) : rw_ (l.take g) i = rw_ l (i % g) := by
  have e : (l.take g).length = g := by rw [List.length_take]; omega
  have hm : i % g < g := Nat.mod_lt _ hg
  rw [rw_, rw_, e, Nat.mod_eq_of_lt (show i % g < l.length by omega), List.getD_eq_getElem?_getD, List.getElem?_take, if_pos hm, ← List.getD_eq_getElem?_getD]
theorem self_row (l : List Nat) : row l l.length = l := by
  apply List.ext_getElem?
  intro i
  rw [row, List.getElem?_map]
  by_cases hi : i < l.length
  · rw [List.getElem?_range hi, Option.map_some, Nat.mod_eq_of_lt hi]; simp [hi]
  · rw [List.getElem?_eq_none (by rw [List.length_range]; omega), List.getElem?_eq_none (by omega)]; rfl
theorem law_root {l r : List Nat} {b : Nat} (hl : 0 < l.length) (hr : 0 < r.length) (hb : b + Nat.gcd l.length r.length = l.length + r.length) (h : row l b = row r b) (n : Nat) :
    row (l.take (Nat.gcd l.length r.length)) l.length = l ∧ row (l.take (Nat.gcd l.length r.length)) r.length = r ∧ row l n = row r n := by
  have hg : 0 < Nat.gcd l.length r.length := Nat.gcd_pos_of_pos_left _ hl
  have hgl : Nat.gcd l.length r.length ≤ l.length := Nat.le_of_dvd hl (Nat.gcd_dvd_left _ _)
  have key := rows_all hl hr hb h
  refine ⟨?_, ?_, row_eq_iff.mpr fun i _ => by rw [(key i).1, (key i).2]⟩
  · conv => rhs; rw [← self_row l]
    exact row_eq_iff.mpr fun i _ => by rw [rw_root hg hgl, ← (key i).1]
  · conv => rhs; rw [← self_row r]
    exact row_eq_iff.mpr fun i _ => by rw [rw_root hg hgl, ← (key i).2]
end Mine

-- part Law2
namespace Mine
theorem rangeKs_succ (n : Nat) : rangeKs 0 (n + 1) = rangeKs 0 n ++ [(n : Int)] := by
  rw [rangeKs, rangeKs, List.range_succ, List.map_append]; simp
theorem ag_spec (x y : PySem.Str) (n : Nat) : ∃ a : Nat, (rangeKs 0 n).foldl (agS x y x.length y.length) 0 = (a : Int) ∧ a ≤ n ∧ (∀ j, j < a → rw_ x.cps.toList j = rw_ y.cps.toList j) ∧ (a < n → rw_ x.cps.toList a ≠ rw_ y.cps.toList a) := by
  have hx : x.length = x.cps.toList.length := by simp [PySem.Str.length]
  have hy : y.length = y.cps.toList.length := by simp [PySem.Str.length]
  induction n with
  | zero => exact ⟨0, rfl, Nat.le_refl _, fun j hj => by omega, fun h => by omega⟩
  | succ n ih =>
    obtain ⟨a, e, hle, hlt, hne⟩ := ih
    rw [rangeKs_succ, List.foldl_append, e]
    show ∃ a' : Nat, agS x y x.length y.length a n = a' ∧ _
    by_cases h : (a : Int) = n ∧ x.cps.toList.getD ((n : Int).toNat % x.length) 0 = y.cps.toList.getD ((n : Int).toNat % y.length) 0
    · have e2 : agS x y x.length y.length a n = ((n + 1 : Nat) : Int) := by rw [agS, if_pos h]; rfl
      refine ⟨n + 1, e2, Nat.le_refl _, fun j hj => ?_, fun h => by omega⟩
      have ha : a = n := by omega
      by_cases hj2 : j < n
      · exact hlt j (by omega)
      · have : j = n := by omega
        subst this
        have q := h.2
        rw [Int.toNat_natCast, hx, hy] at q
        exact q
    · have e2 : agS x y x.length y.length a n = (a : Int) := by rw [agS, if_neg h]
      refine ⟨a, e2, by omega, hlt, fun _ => ?_⟩
      by_cases ha : a < n
      · exact hne ha
      · have : a = n := by omega
        subst this
        intro q
        apply h
        refine ⟨rfl, ?_⟩
        rw [Int.toNat_natCast, hx, hy]
        exact q
theorem rowB_eq (x : PySem.Str) (n : Nat) (h : 0 < x.length) : rowB (U8 x) n = (row x.cps.toList n).map (·.toUInt8) := by
  rw [rowB, row, List.map_map]
  apply List.map_congr_left
  intro i hi
  have hl : (U8 x).length = x.cps.toList.length := by rw [U8, List.length_map]
  have hm : i % x.cps.toList.length < x.cps.toList.length := Nat.mod_lt _ (by rw [Array.length_toList]; exact h)
  simp only [U8, List.length_map, List.getD_eq_getElem?_getD, List.getElem?_map, List.getElem?_eq_getElem hm, Option.map_some, Option.getD_some, Function.comp]
theorem rw_let {x : PySem.Str} (hx : LetS x) (h : 0 < x.length) (i : Nat) : rw_ x.cps.toList i = 97 ∨ rw_ x.cps.toList i = 98 := by
  have hm : i % x.cps.toList.length < x.cps.toList.length := Nat.mod_lt _ (by rw [Array.length_toList]; exact h)
  apply hx
  rw [rw_, List.getD_eq_getElem?_getD, List.getElem?_eq_getElem hm, Option.getD_some]
  exact List.getElem_mem hm
theorem rowB_ne {x y : PySem.Str} (hx : LetS x) (hy : LetS y) (h1 : 0 < x.length) (h2 : 0 < y.length) {a : Nat} (h : rw_ x.cps.toList a ≠ rw_ y.cps.toList a) : rowB (U8 x) (a + 1) ≠ rowB (U8 y) (a + 1) := by
  intro e
  rw [rowB_eq x _ h1, rowB_eq y _ h2, row_eq, row_eq] at e
  have q := congrArg (fun z : List UInt8 => z[a]?) e
  simp at q
  rcases rw_let hx h1 a with hh | hh <;> rcases rw_let hy h2 a with h' | h' <;> rw [hh, h'] at q h <;> first | exact h rfl | exact absurd q (by decide)
theorem eu_gcd : ∀ p : Nat, p < 13 → ∀ q : Nat, q < 13 → 1 ≤ p → 1 ≤ q → (eu (eu (eu (eu (eu (eu ((p : Int), (q : Int)))))))).1 = ((Nat.gcd p q : Nat) : Int) := by decide +kernel
def madeOk (p q : Nat) : Bool :=
  let b := p + q - Nat.gcd p q - 1
  let M := madeL p q b
  row (M.take p) b == row (M.drop p) b && !(row (M.take p) (b + 1) == row (M.drop p) (b + 1))
theorem made_ok_1 : ∀ q : Nat, q < 13 → 1 ≤ q → madeOk 1 q = true := by decide +kernel
theorem made_ok_2 : ∀ q : Nat, q < 13 → 1 ≤ q → madeOk 2 q = true := by decide +kernel
theorem made_ok_3 : ∀ q : Nat, q < 13 → 1 ≤ q → madeOk 3 q = true := by decide +kernel
theorem made_ok_4 : ∀ q : Nat, q < 13 → 1 ≤ q → madeOk 4 q = true := by decide +kernel
theorem made_ok_5 : ∀ q : Nat, q < 13 → 1 ≤ q → madeOk 5 q = true := by decide +kernel
theorem made_ok_6 : ∀ q : Nat, q < 13 → 1 ≤ q → madeOk 6 q = true := by decide +kernel
theorem made_ok_7 : ∀ q : Nat, q < 13 → 1 ≤ q → madeOk 7 q = true := by decide +kernel
theorem made_ok_8 : ∀ q : Nat, q < 13 → 1 ≤ q → madeOk 8 q = true := by decide +kernel
theorem made_ok_9 : ∀ q : Nat, q < 13 → 1 ≤ q → madeOk 9 q = true := by decide +kernel
theorem made_ok_10 : ∀ q : Nat, q < 13 → 1 ≤ q → madeOk 10 q = true := by decide +kernel
theorem made_ok_11 : ∀ q : Nat, q < 13 → 1 ≤ q → madeOk 11 q = true := by decide +kernel
theorem made_ok_12 : ∀ q : Nat, q < 13 → 1 ≤ q → madeOk 12 q = true := by decide +kernel
theorem made_ok {p q : Nat} (hp1 : 1 ≤ p) (hp2 : p ≤ 12) (hq1 : 1 ≤ q) (hq2 : q ≤ 12) : madeOk p q = true := by
  have hq : q < 13 := by omega
  rcases (by omega : p = 1 ∨ p = 2 ∨ p = 3 ∨ p = 4 ∨ p = 5 ∨ p = 6 ∨ p = 7 ∨ p = 8 ∨ p = 9 ∨ p = 10 ∨ p = 11 ∨ p = 12) with rfl | rfl | rfl | rfl | rfl | rfl | rfl | rfl | rfl | rfl | rfl | rfl
  · exact made_ok_1 q hq hq1
  · exact made_ok_2 q hq hq1
  · exact made_ok_3 q hq hq1
  · exact made_ok_4 q hq hq1
  · exact made_ok_5 q hq hq1
  · exact made_ok_6 q hq hq1
  · exact made_ok_7 q hq hq1
  · exact made_ok_8 q hq hq1
  · exact made_ok_9 q hq hq1
  · exact made_ok_10 q hq hq1
  · exact made_ok_11 q hq hq1
  · exact made_ok_12 q hq hq1
theorem made_rows {p q b' : Nat} (hp1 : 1 ≤ p) (hp2 : p ≤ 12) (hq1 : 1 ≤ q) (hq2 : q ≤ 12) (hb : b' + 1 + Nat.gcd p q = p + q) :
    row ((madeL p q b').take p) b' = row ((madeL p q b').drop p) b' ∧ row ((madeL p q b').take p) (b' + 1) ≠ row ((madeL p q b').drop p) (b' + 1) := by
  have h := made_ok hp1 hp2 hq1 hq2
  unfold madeOk at h
  have e : p + q - Nat.gcd p q - 1 = b' := by omega
  rw [e] at h
  dsimp only at h
  rw [Bool.and_eq_true, Bool.not_eq_true'] at h
  exact ⟨eq_of_beq h.1, fun q => by rw [q, beq_self_eq_true] at h; exact absurd h.2 (by decide)⟩
end Mine

-- part Main
namespace Mine
theorem draw_bound (z : Int) : ∃ n : Nat, 1 + z.fmod 12 = (n : Int) ∧ 1 ≤ n ∧ n ≤ 12 := by
  have m0 := Int.fmod_nonneg_of_pos z (show (0 : Int) < 12 by decide)
  have m1 := Int.fmod_lt_of_pos z (show (0 : Int) < 12 by decide)
  refine ⟨(1 + z.fmod 12).toNat, by omega, by omega, by omega⟩
theorem law_all {w : World} {h₀ : Heap} {L a : Addr} {cd : Value} {loose : List Str} {mean : ExcName → Option Value} {mg mb : Str → Option Value} {Q : Flow → Shared → Prop} {m : Str → Option Value} {s : Shared}
   {c1 c2 c3 c4 : Obj} {l : Addr} {vs : List Value} {ns : List Int} {v2 v3 v4 : Option Value}
   (B : Below callerA h₀ [] h₀) (F : Fr h₀ L s.heap m) (X : (Mine.hd.heap_39 w.params).In h₀) (T : Top Mine.hd.view_39 loose mean mg mb h₀)
   (N : News h₀ L s.heap [(L + 1 + 1 + 1 + 1, c4), (L + 1 + 1 + 1, c3), (L + 1 + 1, c2), (L + 1, c1)])
   (h1 : c1.data = .cell (some (.ref l))) (h2 : c2.data = .cell v2) (h3 : c3.data = .cell v3) (h4 : c4.data = .cell v4) (hl : h₀.IsList l vs.toArray) (hi : IntsAre vs ns) (hns : ns.length ≤ 63)
   (k : ∀ h' tk m' news, Fr h₀ L h' m' → News h₀ L h' news → Q (.ret (.bool true)) { s with heap := h', toks := tk }) :
   wpAny (model Challenge.rw_at5022_01.row.prog w) (callerA.deeper (LE L a cd)) (execs [st 0, st 1, st 2, st 3, st 4, st 5, st 6, st 7, st 8, st 9, st 10, st 11, st 12, st 13, st 14, st 15] (LE L a cd)) Q (fun _ _ => False) s := by
  refine wpAny_execs_cons (law_s1 B F X T N h1 h2 hl hi hns ?_)
  clear F N h2
  intro h' tk m c2 D d0 d1 d2 t0 t1 t2 F N h2
  try dsimp only
  refine wpAny_execs_cons (law_s2 B F X T N h2 h3 ?_)
  clear F N h3
  intro h' tk m c3 u1 u2 u3 F N h3 hk ho
  try dsimp only
  obtain ⟨p, hp, hp1, hp2⟩ := draw_bound (d0.fdiv 3)
  obtain ⟨q, hq, hq1, hq2⟩ := draw_bound (d0.fdiv 36)
  rw [hp] at h3
  rw [hq] at ho
  refine wpAny_execs_cons (law_s3 (c1 := c1) (c2 := c2) (c4 := c4) B F X T (cb_drop N (news := (L + 1 + 1 + 1, c3) :: [(D, LCg.lst [.int d0 t0, .int d1 t1, .int d2 t2]), (L + 1 + 1 + 1 + 1, c4), (L + 1 + 1 + 1, c3), (L + 1 + 1, c2), (L + 1, c1)]) (fun z hz => by
    rcases List.mem_cons.mp hz with rfl | hz
    · exact .tail _ (.tail _ (.head _))
    · exact hz)) h3 hk ho ?_)
  clear F N hk ho
  intro h' tk m a1 a2 a3 a4 F N hk ho hc hlf
  try dsimp only
  replace N := cb_drop N fun z hz => .tail _ hz
  refine wpAny_execs_cons (law_s4 B F X T N hk ho hc hlf ?_)
  clear F N hk ho hc hlf
  intro h' tk m a1 a2 a3 F N hk ho hc
  try dsimp only
  rw [eu_gcd p (by omega) q (by omega) hp1 hq1] at hc
  refine wpAny_execs_cons (law_s5 B F X T N h2 h3 h4 (by omega) (by omega) ?_)
  clear F N h4
  intro h' tk c4 x t4 F N h4 hx hxl
  try dsimp only
  refine wpAny_execs_cons (law_s6 (c4 := c4) B F X T N h2 hk ho hc (by omega) (by omega) ?_)
  clear F N hk ho hc
  intro h' tk m y t5 a1 a2 a3 F N hk ho hc hs hy hyl
  try dsimp only
  have hg1 : 1 ≤ Nat.gcd p q := Nat.gcd_pos_of_pos_left _ hp1
  have hgp : Nat.gcd p q ∣ p := Nat.gcd_dvd_left _ _
  have hgq : Nat.gcd p q ∣ q := Nat.gcd_dvd_right _ _
  refine wpAny_execs_cons (law_s7 (t2 := 0) B F X T N h4 h3 hk ho hc hs hx hxl hy hyl hp1 hp2 hq1 hq2 hg1 hgp hgq ?_)
  clear F N h4 hk ho hc hs hx hxl hy hyl
  clear x y
  intro h' tk m c4 x y t4 a1 a2 a3 F N h4 ho hc hs hx hxl hy hyl
  try dsimp only
  have hxl' : x.length = p := by omega
  have hyl' : y.length = q := by omega
  have hgle : Nat.gcd p q ≤ p := Nat.le_of_dvd hp1 hgp
  obtain ⟨b', hb'⟩ : ∃ b', b' + 1 + Nat.gcd p q = p + q := ⟨p + q - Nat.gcd p q - 1, by omega⟩
  refine wpAny_execs_cons (law_s8 (b := b' + 1) (t0 := 0) (t2 := 0) (u1 := 0) B F X T N h3 ho hc hs (by omega) ?_)
  clear F N ho hc hs
  intro h' tk m a1 a2 a3 a4 a5 F N ho hc hs hbo hag
  try dsimp only
  have hb24 : b' + 1 ≤ 24 := by omega
  refine wpAny_execs_cons (law_s9 (t2 := 0) (u1 := 0) B F X T N h4 h3 ho hc hs hbo hag hxl hyl hp1 hp2 hq1 hq2 hb24 ?_)
  clear F N ho hc hs hbo hag
  intro h' tk m a1 a2 a3 a4 a5 F N ho hc hs hbo hag
  try dsimp only
  obtain ⟨ag, hae, hab, heq, hne⟩ := ag_spec x y (b' + 1)
  rw [hxl', hyl'] at hae
  rw [hae] at hag
  have hll : 0 < x.cps.toList.length := by rw [Array.length_toList]; show 0 < x.length; omega
  have hrl : 0 < y.cps.toList.length := by rw [Array.length_toList]; show 0 < y.length; omega
  have el : x.cps.toList.length = p := by rw [Array.length_toList]; exact hxl'
  have er : y.cps.toList.length = q := by rw [Array.length_toList]; exact hyl'
  have hbg : b' + 1 + Nat.gcd x.cps.toList.length y.cps.toList.length = x.cps.toList.length + y.cps.toList.length := by rw [el, er]; exact hb'
  have hcomm : (S (row x.cps.toList (b' + 1)) == S (row y.cps.toList (b' + 1))) = (x ++ y == y ++ x) := by
    have key := law_comm hll hrl hbg
    rw [Bool.eq_iff_iff, beq_iff_eq, beq_iff_eq]
    have e1 : ∀ u v : List Nat, S u = S v ↔ u = v := fun u v => ⟨fun h => by have := congrArg (fun z : PySem.Str => z.cps.toList) h; simpa [S] using this, fun h => by rw [h]⟩
    rw [e1, key, ← e1, ← S_app, ← S_app, S_of, S_of]
  refine wpAny_execs_cons (law_s10 (t1 := 0) (t2 := 0) (u1 := 0) B F X T N h4 ho hc hs hbo hag hxl' hyl' hp1 hp2 hq1 hq2 hb24 hab hcomm ?_)
  clear F N ho hc hs hbo hag
  intro h' tk m a1 a2 a3 a4 a5 F N ho hc hs hbo hag
  try dsimp only
  have hra : row x.cps.toList ag = row y.cps.toList ag := row_eq_iff.mpr heq
  refine wpAny_execs_cons (law_s11 (t1 := 0) (t2 := 0) (u1 := 0) B F X T N h4 ho hc hs hbo hag hxl' hyl' hp1 hp2 hq1 hq2 hb24 hab hra ?_)
  clear F N ho hc hs hbo hag
  intro h' tk m a1 a2 a3 a4 a5 F N ho hc hs hbo hag
  try dsimp only
  have hA : ag < b' + 1 → row x.cps.toList (ag + 1) ≠ row y.cps.toList (ag + 1) ∧ rowB (U8 x) ag = rowB (U8 y) ag ∧ rowB (U8 x) (ag + 1) ≠ rowB (U8 y) (ag + 1) := fun h => by
    have hn := hne h
    refine ⟨fun e => hn (row_eq_iff.mp e ag (Nat.lt_succ_self _)), ?_, rowB_ne hx hy (by omega) (by omega) hn⟩
    rw [rowB_eq x _ (by omega), rowB_eq y _ (by omega), hra]
  have hB : ¬ ag < b' + 1 → S (row (x.cps.toList.take (Nat.gcd p q)) p) = x ∧ S (row (x.cps.toList.take (Nat.gcd p q)) q) = y ∧ row x.cps.toList (2 * p * q + 1) = row y.cps.toList (2 * p * q + 1) := fun h => by
    have : ag = b' + 1 := by omega
    rw [this] at hra
    have key := law_root hll hrl hbg hra (2 * p * q + 1)
    rw [el, er] at key
    exact ⟨by rw [key.1, S_of], by rw [key.2.1, S_of], key.2.2⟩
  refine wpAny_execs_cons (law_s12 B F X T N h4 h3 ho hc hs hbo hag hx hy hxl' hyl' hp1 hp2 hq1 hq2 hg1 hgle hb24 hab hA hB ?_)
  clear F N ho hc hs hbo hag
  intro h' tk m a1 a2 F N ho hbo
  try dsimp only
  refine wpAny_execs_cons (law_s13 B F X T N h3 ho hbo hp1 hp2 hq1 hq2 hb24 rfl ?_)
  clear F N ho hbo
  intro h' tk m a1 a2 a3 F N hbo ho ht
  try dsimp only
  obtain ⟨hm1, hm2⟩ := made_rows hp1 hp2 hq1 hq2 hb'
  have hml : (madeL p q b').length = p + q := by rw [madeL, List.length_map, bn_len]
  have hl1 : (S ((madeL p q b').take p)).length = p := by rw [S_len, List.length_take]; omega
  have hl2 : (S ((madeL p q b').drop p)).length = q := by rw [S_len, List.length_drop]; omega
  refine wpAny_execs_cons (law_s14 B F X T N hbo ho ht (by omega) (by omega) (by omega) (by omega) hb24 rfl (by rw [S_cps, S_cps, hm1]) (fun e => hm2 (by
    have := congrArg (fun z : PySem.Str => z.cps.toList) e
    exact this)) ?_)
  clear F N hbo ho ht
  intro h' tk m F N
  try dsimp only
  refine wpAny_execs_cons (law_s15 B F X T N h2 h3 hp2 ?_)
  clear F N
  intro h' tk m t9 f F N hf hf2
  try dsimp only
  refine wpAny_execs_cons (law_s16 B F X T N h4 h3 hp1 hp2 hxl' hf hf2 ?_)
  intro h' tk m news F N
  try dsimp only
  exact k _ _ _ _ F N
end Mine

-- part Fin
theorem PySem.Challenge.cw_at5022_01_holds : PySem.Challenge.rw_at5022_01.Holds := by
  refine Mine.hd ?_
  k_go0
  with_reducible rename Fr _ _ _ _ => F
  with_reducible rename News _ _ _ _ => N
  with_reducible rename CellsAre _ _ _ => Y
  with_reducible rename Below _ _ _ _ => B
  with_reducible rename Top _ _ _ _ _ _ => T
  with_reducible rename Frag.In _ _ => X
  with_reducible rename Heap.IsList _ _ _ => hl
  with_reducible rename IntsAre _ _ => hi
  with_reducible rename ¬ ((63 : Nat) : Int) < _ => hn
  cases Y with
  | cons d4 Y =>
  cases Y with
  | cons d3 Y =>
  cases Y with
  | cons d2 Y =>
  cases Y with
  | cons d1 Y =>
  refine wpAny_mono (Mine.law_all B F X T N d1 d2 d3 d4 hl hi (by omega) ?_) (fun _ _ h => h) (fun _ _ h => h.elim)
  intro h' tk m' news F9 N9
  dsimp only
  clear N F B Y d1 d2 d3 d4 N9
  wrow_close
