import PyProof.Rows.All
import Wide.All
import OpenK.AllK
import Wide.FinOn
import PySem.Challenge.RW_eg5004_01
set_option Elab.async false
set_option maxRecDepth 100000
set_option maxHeartbeats 0
set_option linter.unusedVariables false
set_option rowWalk.seconds 0
section
open PySem PySem.W PyProof.Rows
namespace Mine
open_top hd for PySem.Challenge.rw_eg5004_01
end Mine
end

section
open PySem PySem.W PySem.Calls PyProof.Rows
namespace Mine
abbrev LS : List PySem.Str := [Str.ofString "XRP_ALPHABET", Str.ofString "b58encode_int", Str.ofString "b58encode",
        Str.ofString "b58decode_int", Str.ofString "b58decode"]
abbrev PP : Program := PySem.Challenge.rw_eg5004_01.row.prog
abbrev Keep (h h' : Heap) : Prop := ∀ b o, h.get? b = some o → h'.get? b = some o

abbrev Ard (dp un : Nat) (gd : Option (List Code)) (env : Env) (outer : List Env) : Around := { handled := none, depth := dp, frames := some (env :: outer), guards := gd, units := un }

def Call (w : World) (mean : ExcName → Option Value) (mg mb : PySem.Str → Option Value) (f : Addr) (D U : Nat) (pos : List Value) (kw : List (PySem.Str × Value)) (pre : Heap → Prop) (post : Heap → Heap → Value → Prop) : Prop :=
  ∀ (dp un : Nat) (gd : Option (List Code)) (env : Env) (outer : List Env) (base : Heap) (s : Shared) (Q E : Value → Shared → Prop),
    dp + D < recursionLimit → un + U < cLine → Below (Ard dp un gd env outer) base (env :: outer) s.heap → (hd.heap_39 w.params).In s.heap → Top hd.view_39 (looseW hd.view_39 LS) mean mg mb s.heap → pre s.heap →
    (∀ v h' tk', Keep s.heap h' → post s.heap h' v → Q v { s with heap := h', toks := tk' }) →
    wpAny (model PP w) (Ard dp un gd env outer) (call (.ref f) pos kw) Q E s

def Back (g : Heap) (s : Shared) (post : Heap → Value → Prop) (fl : Flow) (s' : Shared) : Prop :=
  ∃ h' tk, s' = { s with heap := h', toks := tk } ∧ Keep g h' ∧ post h' (match fl with | .ret v => v | _ => .none)

theorem back_of {g : Heap} {s : Shared} {post : Heap → Value → Prop} {L : Addr} {m : PySem.Str → Option Value} {h' : Heap} {tk : Nat} {v : Value} (F : Fr g L h' m) (hp : post h' v) :
    Back g s post (.ret v) { s with heap := h', toks := tk } := ⟨h', tk, rfl, F.keep, hp⟩

theorem call_of {w : World} {mean : ExcName → Option Value} {mg mb : PySem.Str → Option Value}
    {name qual : PySem.Str} {params : Arguments} {body : List Stmt} {scope : Scope} {dV kV doc pm cdv ct oc : Value} {an od : Option Addr} {osl : Array (Option Value)} {f : Addr} {D U : Nat} {pos : List Value} {kw : List (PySem.Str × Value)} {binds : List (PySem.Str × Value)}
    {pre : Heap → Prop} {post : Heap → Heap → Value → Prop}
    (ho : (hd.heap_39 w.params).lookup f = some ⟨oc, od, .func (fnOf name qual params body scope dV kV doc pm an cdv ct), osl⟩) (hcd : codeIn (hd.heap_39 w.params) cdv qual = true)
    (hbind : ∀ s : Shared, (hd.heap_39 w.params).In s.heap → BindsTo s (fnOf name qual params body scope dV kV doc pm an cdv ct) ⟨pos, kw⟩ binds) (hloc : ∀ y ∈ binds, scope.names.lookup y.1 = some .local)
    (hco : scope.isCoroutine = false) (hgen : scope.isGenerator = false) (hk : scope.kind = .function) (hcell : ∀ x ∈ scope.names, x.2 ≠ .cell)
    (h : ∀ (dp un : Nat) (gd : Option (List Code)) (env : Env) (outer : List Env) (base : Heap) (s : Shared) (L : Addr) (h₁ : Heap) (tk : Nat),
      dp + D < recursionLimit → un + U < cLine → Below (Ard dp un gd env outer) base (env :: outer) s.heap → (hd.heap_39 w.params).In s.heap → Top hd.view_39 (looseW hd.view_39 LS) mean mg mb s.heap → pre s.heap →
      Fr s.heap L h₁ (fun y => binds.reverse.lookup y) → News s.heap L h₁ [] →
      wpAny (model PP w) ((Ard dp un gd env outer).deeper (envOf qual scope L f cdv)) (execs body (envOf qual scope L f cdv))
        (Back s.heap s (post s.heap)) (fun _ _ => False) { s with heap := h₁, toks := tk }) : Call w mean mg mb f D U pos kw pre post := by
  intro dp un gd env outer base s Q E hD hU B X T hpre hQ
  refine wpAny_call ?_
  refine codeAny_call_def (fd := fnOf name qual params body scope dV kV doc pm an cdv ct) (body := body) (binds := binds) (Nat.lt_of_le_of_lt (Nat.le_add_right _ _) hD) (X _ _ ho) rfl T.nolimit (codeRec_of X hcd) rfl (hbind s X) hcell hloc (fun h₁ hns hk₁ => ?_) hco hgen hk
  refine wpAny_mono (h dp un gd env outer base s _ h₁ _ hD hU B X T hpre ⟨hns, hk₁, Nat.le_refl _⟩ News.nil) (fun fl s' hl => ?_) fun _ _ y => y.elim
  obtain ⟨h', tk, rfl, hk', hp⟩ := hl
  exact hQ _ h' tk hk' hp

def draw (ns : List Int) (k : Int) : Int := if ns = [] then 5 * k + 2 else ns.getD (k % ns.length).toNat 0 + 37 * (k / ns.length)
end Mine
end

section
open PySem PySem.W PySem.Calls PyProof.Rows
namespace Mine
section
variable {prog : Program} {w : World} {A : Around} {E : Value → Shared → Prop} {s : Shared} {env : Env} {h₀ : Heap} {x : PySem.Str} {body : List Stmt} {Q : Flow → Shared → Prop}
theorem loop_b_out {b : Array UInt8} {ks : List Int} {tb : Tok} {lo : Addr} {m₀ : PySem.Str → Option Value} (stored : List PySem.Str) (P : List Int → List Int → Prop)
    (hb : KBw.bInts b = ks) (hh : A.handled = none) (F : Fr h₀ env.locals s.heap m₀) (N : News h₀ env.locals s.heap [(lo, PySem.W.listOf #[] 0)]) (hp : P [] [])
    (turn : ∀ (vs : List Value) (out : List Int) (c : Nat) (pre post : List Int) (n : Int) t (u : PySem.Str → Option Value) h tk own, ks = pre ++ n :: post → pre.length < ks.length → 0 ≤ n → n < 256 → OwnOff own [lo] → IntsAre vs out → P pre out →
      Fr h₀ env.locals h (fun y => if y = x then some (.int n t) else if stored.contains y then u y else m₀ y) → News h₀ env.locals h ((lo, PySem.W.listOf (List.toArray vs) c) :: own) →
      wpAny (model prog w) A (execs body env) (InvPostN h₀ env.locals (KstS (σ := List Value × List Int × Nat) (fun c => [(lo, PySem.W.listOf (List.toArray c.1) c.2.2)]) (fun _ => []) (fun c => IntsAre c.1 c.2.1) x stored m₀ (fun pre c => P pre c.2.1) (pre ++ [n])) own [lo] { s with heap := h, toks := tk } Q) E { s with heap := h, toks := tk })
    (done : ∀ (vs : List Value) (out : List Int) (c : Nat) (u : PySem.Str → Option Value) h tk, IntsAre vs out → P ks out → Fr h₀ env.locals h (fun y => if y = x then u y else if stored.contains y then u y else m₀ y) → News h₀ env.locals h [(lo, PySem.W.listOf (List.toArray vs) c)] → Q .next { s with heap := h, toks := tk }) :
    wpAny (model prog w) A (pyIter (.bytes b tb)) (fun it s₂ => LoopAtV prog w A h₀ env x body Q E it s₂) E s :=
  KStb.kst_bytes (σ := List Value × List Int × Nat) (fun c => [(lo, PySem.W.listOf (List.toArray c.1) c.2.2)]) (fun _ => []) (fun c => IntsAre c.1 c.2.1) stored (fun pre c => P pre c.2.1) ([], [], 0) hb rfl hh F N .nil (fun _ h => nomatch h) hp
    (fun c pre post n t u h tk own e1 e2 e3 e4 e5 e6 e7 F' N' => turn c.1 c.2.1 c.2.2 pre post n t u h tk own e1 e2 e3 e4 e5 e6 e7 F' N')
    (fun c u h tk _ e6 e7 F' N' => done c.1 c.2.1 c.2.2 u h tk e6 e7 F' N')
theorem loop_l_out {l : Addr} {vs₀ : List Value} {ks : List Int} {lo : Addr} {m₀ : PySem.Str → Option Value} (stored : List PySem.Str) (P : List Int → List Int → Prop)
    (hl : h₀.IsList l vs₀.toArray) (hi : IntsAre vs₀ ks) (hh : A.handled = none) (F : Fr h₀ env.locals s.heap m₀) (N : News h₀ env.locals s.heap [(lo, PySem.W.listOf #[] 0)]) (hp : P [] [])
    (turn : ∀ (vs : List Value) (out : List Int) (c : Nat) (pre post : List Int) (n : Int) t (u : PySem.Str → Option Value) h tk own, ks = pre ++ n :: post → n ∈ ks → OwnOff own [lo] → IntsAre vs out → P pre out →
      Fr h₀ env.locals h (fun y => if y = x then some (.int n t) else if stored.contains y then u y else m₀ y) → News h₀ env.locals h ((lo, PySem.W.listOf (List.toArray vs) c) :: own) →
      wpAny (model prog w) A (execs body env) (InvPostN h₀ env.locals (KstS (σ := List Value × List Int × Nat) (fun c => [(lo, PySem.W.listOf (List.toArray c.1) c.2.2)]) (fun _ => []) (fun c => IntsAre c.1 c.2.1) x stored m₀ (fun pre c => P pre c.2.1) (pre ++ [n])) own [lo] { s with heap := h, toks := tk } Q) E { s with heap := h, toks := tk })
    (done : ∀ (vs : List Value) (out : List Int) (c : Nat) (u : PySem.Str → Option Value) h tk, IntsAre vs out → P ks out → Fr h₀ env.locals h (fun y => if y = x then u y else if stored.contains y then u y else m₀ y) → News h₀ env.locals h [(lo, PySem.W.listOf (List.toArray vs) c)] → Q .next { s with heap := h, toks := tk }) :
    wpAny (model prog w) A (pyIter (.ref l)) (fun it s₂ => LoopAtV prog w A h₀ env x body Q E it s₂) E s :=
  kst_list (σ := List Value × List Int × Nat) (fun c => [(lo, PySem.W.listOf (List.toArray c.1) c.2.2)]) (fun _ => []) (fun c => IntsAre c.1 c.2.1) stored (fun pre c => P pre c.2.1) ([], [], 0) hh hl hi F N .nil (fun _ h => nomatch h) hp
    (fun c pre post n t u h tk own e1 e2 e5 e6 e7 F' N' => turn c.1 c.2.1 c.2.2 pre post n t u h tk own e1 e2 e5 e6 e7 F' N')
    (fun c u h tk e6 e7 F' N' => done c.1 c.2.1 c.2.2 u h tk e6 e7 F' N')
end
theorem end_list {g h : Heap} {L D : Addr} {ws : List Value} {n : Nat} {r : List Int} {rest : List (Addr × Obj)} {P : List Int → Prop} (N : News g L h ((D, PySem.W.listOf (List.toArray ws) n) :: rest)) (hI : IntsAre ws r) (hp : P r) :
    ∃ D' vs r n, Value.ref D = .ref D' ∧ g.get? D' = none ∧ h.get? D' = some (PySem.W.listOf (List.toArray vs) n) ∧ IntsAre vs r ∧ P r :=
  ⟨D, ws, r, n, rfl, (N _ (.head _)).2.2, (N _ (.head _)).1, hI, hp⟩
end Mine
end

section
namespace Mine
def le (b : Int) : List Int → Int
  | [] => 0
  | d :: r => d + b * le b r
def num (b : Int) (ks : List Int) : Int := ks.foldl (fun a k => a * b + k) 0
def noughts (ks : List Int) : Nat := (ks.takeWhile (fun k => decide (k = 0))).length
def DigsIn (b : Int) (l : List Int) : Prop := ∀ d ∈ l, 0 ≤ d ∧ d < b
def Canon (b : Int) (l : List Int) (v : Int) : Prop := DigsIn b l ∧ le b l = v ∧ l.getLast? ≠ some 0

theorem le_append (b : Int) : ∀ l r : List Int, le b (l ++ r) = le b l + b ^ l.length * le b r
  | [], r => by simp [le]
  | d :: l, r => by
    show d + b * le b (l ++ r) = d + b * le b l + b ^ (l.length + 1) * le b r
    rw [le_append b l r, Int.pow_succ]; grind
theorem le_snoc (b : Int) (l : List Int) (d : Int) : le b (l ++ [d]) = le b l + b ^ l.length * d := by
  rw [le_append]; simp [le]
theorem num_snoc (b : Int) (l : List Int) (d : Int) : num b (l ++ [d]) = num b l * b + d := by simp [num]
theorem num_nonneg {b : Int} (hb : 0 ≤ b) : ∀ {l : List Int}, (∀ d ∈ l, 0 ≤ d) → 0 ≤ num b l := by
  intro l
  suffices H : ∀ (l : List Int) (a : Int), 0 ≤ a → (∀ d ∈ l, 0 ≤ d) → 0 ≤ l.foldl (fun a k => a * b + k) a from H l 0 (Int.le_refl _)
  intro l
  induction l with
  | nil => intro a ha _; exact ha
  | cons d r ih =>
    intro a ha hd
    rw [List.foldl_cons]
    exact ih _ (by have := hd d (by simp); have := Int.mul_nonneg ha hb; omega) fun x hx => hd x (by simp [hx])
theorem pow_pos' {b : Int} (hb : 0 < b) : ∀ n : Nat, 0 < b ^ n
  | 0 => by simp
  | n + 1 => by rw [Int.pow_succ]; exact Int.mul_pos (pow_pos' hb n) hb
theorem DigsIn.nil {b : Int} : DigsIn b [] := fun _ h => nomatch h
theorem DigsIn.snoc {b : Int} {l : List Int} {d : Int} (h : DigsIn b l) (h0 : 0 ≤ d) (h1 : d < b) : DigsIn b (l ++ [d]) := fun x hx => by
  rcases List.mem_append.mp hx with hx | hx
  · exact h x hx
  · rw [List.mem_singleton.mp hx]; exact ⟨h0, h1⟩
theorem DigsIn.left {b : Int} {l r : List Int} (h : DigsIn b (l ++ r)) : DigsIn b l := fun x hx => h x (List.mem_append_left _ hx)
theorem DigsIn.set {b : Int} {l : List Int} {d : Int} (h : DigsIn b l) (k : Nat) (h0 : 0 ≤ d) (h1 : d < b) : DigsIn b (l.set k d) := fun x hx => by
  rcases List.mem_or_eq_of_mem_set hx with hx | hx
  · exact h x hx
  · subst hx; exact ⟨h0, h1⟩
theorem le_nonneg {b : Int} (hb : 0 < b) : ∀ {l : List Int}, DigsIn b l → 0 ≤ le b l
  | [], _ => by simp [le]
  | d :: r, h => by
    have h1 := le_nonneg hb (l := r) fun x hx => h x (by simp [hx])
    have h2 := (h d (by simp)).1
    have := Int.mul_nonneg (Int.le_of_lt hb) h1
    simp only [le]; omega
theorem le_lt {b : Int} (hb : 0 < b) : ∀ {l : List Int}, DigsIn b l → le b l < b ^ l.length
  | [], _ => by simp [le]
  | d :: r, h => by
    have h1 := le_lt hb (l := r) fun x hx => h x (by simp [hx])
    have h2 := h d (by simp)
    have h3 : b * le b r ≤ b * (b ^ r.length - 1) := Int.mul_le_mul_of_nonneg_left (by omega) (Int.le_of_lt hb)
    simp only [le, List.length_cons]
    rw [Int.pow_succ, Int.mul_comm (b ^ r.length) b]
    rw [Int.mul_sub, Int.mul_one] at h3
    omega
theorem le_zeros_top {b : Int} (hb : 0 < b) {l : List Int} (h : DigsIn b l) (hz : l.getLast? = some 0) : le b l < b ^ (l.length - 1) := by
  obtain ⟨r, rfl⟩ : ∃ r, l = r ++ [0] := by
    rcases List.eq_nil_or_concat l with e | ⟨r, x, e⟩
    · subst e; simp at hz
    · subst e; simp at hz; exact ⟨r, by simp [hz]⟩
  rw [le_snoc, Int.mul_zero, Int.add_zero]
  simpa using le_lt hb h.left
theorem le_top {b : Int} (hb : 0 < b) {l : List Int} (h : DigsIn b l) (hne : l ≠ []) (hz : l.getLast? ≠ some 0) : b ^ (l.length - 1) ≤ le b l := by
  obtain ⟨r, x, rfl⟩ : ∃ r x, l = r ++ [x] := by
    rcases List.eq_nil_or_concat l with e | ⟨r, x, e⟩
    · exact absurd e hne
    · exact ⟨r, x, by simpa using e⟩
  have hx : x ≠ 0 := by simpa using hz
  have hx1 : 1 ≤ x := by have := (h x (by simp)).1; omega
  have h1 := le_nonneg hb h.left
  have h2 : b ^ r.length * 1 ≤ b ^ r.length * x := Int.mul_le_mul_of_nonneg_left hx1 (Int.le_of_lt (pow_pos' hb _))
  rw [le_snoc]
  simp only [List.length_append, List.length_singleton, Nat.add_sub_cancel]
  omega
theorem Canon.nil (b : Int) : Canon b [] 0 := ⟨.nil, rfl, by simp⟩
theorem mul_div_parts {b d x : Int} {y : Int} (hd0 : 0 ≤ d) (hd1 : d < b) (h : d + b * x = y) : d = y % b ∧ x = y / b := by
  subst h
  have hb : 0 < b := by omega
  refine ⟨?_, ?_⟩
  · rw [Int.add_mul_emod_self_left]; exact (Int.emod_eq_of_lt hd0 hd1).symm
  · rw [Int.add_mul_ediv_left _ _ (by omega), Int.ediv_eq_zero_of_lt hd0 hd1]; omega
theorem Canon.one {b : Int} (hb : 2 ≤ b) : ∀ {l r : List Int} {v : Int}, Canon b l v → Canon b r v → l = r
  | [], [], _, _, _ => rfl
  | [], x :: r, v, ⟨_, e1, _⟩, ⟨d2, e2, t2⟩ => by
    exfalso
    have := le_top (by omega) d2 (by simp) t2
    have := pow_pos' (b := b) (by omega) ((x :: r).length - 1)
    simp only [le] at e1
    omega
  | x :: l, [], v, ⟨d1, e1, t1⟩, ⟨_, e2, _⟩ => by
    exfalso
    have := le_top (by omega) d1 (by simp) t1
    have := pow_pos' (b := b) (by omega) ((x :: l).length - 1)
    simp only [le] at e2
    omega
  | x :: l, y :: r, v, ⟨d1, e1, t1⟩, ⟨d2, e2, t2⟩ => by
    have a := mul_div_parts (d1 x (by simp)).1 (d1 x (by simp)).2 e1
    have c := mul_div_parts (d2 y (by simp)).1 (d2 y (by simp)).2 e2
    have hx : x = y := a.1.trans c.1.symm
    subst hx
    have top : ∀ {z : Int} {m : List Int}, (z :: m).getLast? ≠ some 0 → m.getLast? ≠ some 0 := by
      intro z m h
      cases m with
      | nil => simp
      | cons u m => simpa [List.getLast?_cons_cons] using h
    rw [Canon.one hb (l := l) (r := r) (v := v / b) ⟨fun z hz => d1 z (by simp [hz]), a.2, top t1⟩ ⟨fun z hz => d2 z (by simp [hz]), c.2, top t2⟩]

/-! the carrying loop -/
def ForInv (old new here : Int) (out0 : List Int) (k : Nat) (carry : Int) (out : List Int) : Prop :=
  DigsIn new out ∧ le new (out.take k) + carry * new ^ k = here + old * le new (out0.take k) ∧ out.drop k = out0.drop k
def WhInv (new T carry : Int) (out : List Int) : Prop := DigsIn new out ∧ le new out + carry * new ^ out.length = T ∧ (carry = 0 → out.getLast? ≠ some 0)
theorem getD_of_drop {l r : List Int} {k : Nat} (h : l.drop k = r.drop k) : l.getD k 0 = r.getD k 0 := by
  have := congrArg (fun l => l.getD 0 0) h
  simpa [List.getD_eq_getElem?_getD] using this
theorem take_set (l : List Int) {k : Nat} (x : Int) (hk : k < l.length) : (l.set k x).take (k + 1) = l.take k ++ [x] := by
  rw [List.take_add_one, List.take_set_of_le (Nat.le_refl k)]
  simp [hk]
theorem take_one (l : List Int) {k : Nat} (hk : k < l.length) : l.take (k + 1) = l.take k ++ [l.getD k 0] := by
  rw [List.take_add_one]
  simp [hk]
theorem for_start {old new here : Int} {out : List Int} {pre : List Int} {X : Prop} (h0 : 0 ≤ here) (h1 : here < old) (h : Canon new out (num old pre) ∧ X) : ForInv old new here out ([] : List Int).length here out ∧ out.length = out.length ∧ 0 ≤ here ∧ here < old :=
  ⟨⟨h.1.1, by simp [le], rfl⟩, rfl, h0, h1⟩
theorem for_turn {old new here : Int} {out0 out : List Int} {pre : List Int} {kN carry : Int} (h : ForInv old new here out0 pre.length carry out) (hn : 2 ≤ new) (ho : 2 ≤ old) (hk : kN = 0 + (pre.length : Int)) (hlt : pre.length < ((out0.length : Int) - 0).toNat)
    (hlen : out.length = out0.length) (h0 : 0 ≤ carry) (h1 : carry < old) :
    ForInv old new here out0 (pre ++ [kN]).length ((carry + out.getD kN.toNat 0 * old).fdiv new) (out.set kN.toNat ((carry + out.getD kN.toNat 0 * old).fmod new)) ∧
    (out.set kN.toNat ((carry + out.getD kN.toNat 0 * old).fmod new)).length = out0.length ∧ 0 ≤ (carry + out.getD kN.toNat 0 * old).fdiv new ∧ (carry + out.getD kN.toNat 0 * old).fdiv new < old := by
  have e : kN.toNat = pre.length := by omega
  rw [e]
  simp only [List.length_append, List.length_singleton]
  generalize pre.length = k at *
  have hk2 : k < out.length := by omega
  have hk0 : k < out0.length := by omega
  obtain ⟨hd, hv, hdr⟩ := h
  have hx := getD_of_drop hdr
  have hx1 : 0 ≤ out.getD k 0 ∧ out.getD k 0 < new := by
    rw [List.getD_eq_getElem?_getD, List.getElem?_eq_getElem hk2]; exact hd _ (List.getElem_mem hk2)
  generalize hX : out.getD k 0 = x at *
  have hb : 0 ≤ x * old := Int.mul_nonneg hx1.1 (by omega)
  have hb2 : x * old ≤ (new - 1) * old := Int.mul_le_mul_of_nonneg_right (by omega) (by omega)
  rw [Int.sub_mul, Int.one_mul] at hb2
  rw [Int.fdiv_eq_ediv_of_nonneg _ (by omega), Int.fmod_eq_emod_of_nonneg _ (by omega)]
  have hm0 := Int.emod_nonneg (carry + x * old) (b := new) (by omega)
  have hm1 := Int.emod_lt_of_pos (carry + x * old) (b := new) (by omega)
  have hdm := Int.mul_ediv_add_emod (carry + x * old) new
  refine ⟨⟨hd.set _ hm0 hm1, ?_, ?_⟩, by simpa using hlen, Int.ediv_nonneg (by omega) (by omega), Int.ediv_lt_of_lt_mul (by omega) (by rw [Int.mul_comm old new]; omega)⟩
  · rw [take_set _ _ hk2, take_one _ hk0, le_snoc, le_snoc, ← hx]
    simp only [List.length_take, Nat.min_eq_left (Nat.le_of_lt hk2), Nat.min_eq_left (Nat.le_of_lt hk0)]
    rw [Int.pow_succ]
    generalize (carry + x * old) / new = q at *
    generalize (carry + x * old) % new = m at *
    generalize new ^ k = P at *
    have : P * (new * q + m) = P * (carry + x * old) := by rw [hdm]
    grind
  · rw [List.drop_set_of_lt (by omega), ← List.drop_drop, hdr, List.drop_drop]
theorem wh_start {old new here carry : Int} {out0 out pre : List Int} {n : Nat} {X : Prop} (h2 : ForInv old new here out0 n carry out) (h1 : Canon new out0 (num old pre) ∧ X) (hk : n = out0.length) (hn : 2 ≤ new) (ho : 2 ≤ old) (hh : 0 ≤ here) (ho2 : old ≤ 256) (hc : 0 ≤ carry) (hc1 : carry < old) (hlen : out.length = out0.length) :
    WhInv new (le new out + carry * new ^ out.length) carry out ∧ (out.length : Int) + carry ≤ out.length + 256 ∧ 0 ≤ carry := by
  refine ⟨⟨h2.1, rfl, fun e hz => ?_⟩, by omega, hc⟩
  subst e
  obtain ⟨hd, hv, _⟩ := h2
  obtain ⟨⟨hd0, hv0, ht0⟩, _⟩ := h1
  have hne : out0 ≠ [] := by
    intro e
    subst e
    have : out = [] := List.eq_nil_of_length_eq_zero hlen
    subst this
    simp at hz
  rw [hk, List.take_of_length_le (by omega), List.take_of_length_le (Nat.le_refl _)] at hv
  have a := le_zeros_top (by omega) hd hz
  have b := le_top (by omega) hd0 hne ht0
  have c := le_nonneg (by omega) hd0
  rw [hlen] at a
  have : 1 * le new out0 ≤ old * le new out0 := Int.mul_le_mul_of_nonneg_right (by omega) c
  omega
theorem wh_turn {new T carry : Int} {out : List Int} {b : Int} (h : WhInv new T carry out) (hn : 2 ≤ new) (hc : 0 < carry) (hl : (out.length : Int) + carry ≤ b) :
    WhInv new T (carry.fdiv new) (out ++ [carry.fmod new]) ∧ ((out ++ [carry.fmod new]).length : Int) + carry.fdiv new ≤ b ∧ 0 ≤ carry.fdiv new := by
  rw [Int.fdiv_eq_ediv_of_nonneg _ (by omega), Int.fmod_eq_emod_of_nonneg _ (by omega)]
  have hm0 := Int.emod_nonneg carry (b := new) (by omega)
  have hm1 := Int.emod_lt_of_pos carry (b := new) (by omega)
  have hdm := Int.mul_ediv_add_emod carry new
  have hq : 0 ≤ carry / new := Int.ediv_nonneg (by omega) (by omega)
  have hq2 : carry / new ≤ carry - 1 := by
    have : 2 * (carry / new) ≤ new * (carry / new) := Int.mul_le_mul_of_nonneg_right hn hq
    omega
  obtain ⟨hd, hv, _⟩ := h
  refine ⟨⟨hd.snoc hm0 hm1, ?_, fun e => ?_⟩, by simp only [List.length_append, List.length_singleton]; omega, hq⟩
  · rw [le_snoc, ← hv]
    simp only [List.length_append, List.length_singleton]
    rw [Int.pow_succ]
    generalize carry / new = q at *
    generalize carry % new = m at *
    generalize new ^ out.length = P at *
    have : P * (new * q + m) = P * carry := by rw [hdm]
    grind
  · have : carry % new ≠ 0 := by
      intro z
      rw [e, z] at hdm
      simp at hdm
      omega
    simpa using this
theorem out_turn {old new here carry carry2 : Int} {out0 out1 out pre : List Int} {n : Nat} (h3 : WhInv new (le new out1 + carry * new ^ out1.length) carry2 out) (h2 : ForInv old new here out0 n carry out1)
    (h1 : Canon new out0 (num old pre) ∧ out0.length ≤ 256 * pre.length) (hn : 2 ≤ new) (hlen : out1.length = out0.length) (h4 : (out.length : Int) + carry2 ≤ out1.length + 256) (h5 : 0 ≤ carry2) (h6 : ¬ 0 < carry2) (hk : n = out0.length) :
    Canon new out (num old (pre ++ [here])) ∧ out.length ≤ 256 * (pre ++ [here]).length := by
  obtain rfl : carry2 = 0 := by omega
  obtain ⟨hd, hv, ht⟩ := h3
  obtain ⟨_, hf, _⟩ := h2
  rw [hk, List.take_of_length_le (by omega), List.take_of_length_le (Nat.le_refl _)] at hf
  refine ⟨⟨hd, ?_, ht rfl⟩, by simp only [List.length_append, List.length_singleton]; omega⟩
  rw [num_snoc, ← h1.1.2.1]
  rw [hlen] at hv
  grind
theorem num_zeros (b : Int) : ∀ ks : List Int, num b (ks.dropWhile (fun x => decide (x = 0))) = num b ks
  | [] => rfl
  | k :: r => by
    rw [List.dropWhile_cons]
    split
    · rename_i h
      have : k = 0 := by simpa using h
      subst this
      rw [num_zeros b r]
      unfold num
      rw [List.foldl_cons]
      simp
    · rfl
theorem noughts_len : ∀ ks : List Int, ((ks.length : Int) - ((ks.dropWhile (fun x => decide (x = 0))).length : Int)).toNat = noughts ks
  | [] => rfl
  | k :: r => by
    have ih := noughts_len r
    unfold noughts at ih ⊢
    rw [List.dropWhile_cons, List.takeWhile_cons]
    split
    · rw [List.length_cons, List.length_cons, ← ih]
      have : (r.dropWhile (fun x => decide (x = 0))).length ≤ r.length := by
        have := congrArg List.length (List.takeWhile_append_dropWhile (p := fun x => decide (x = 0)) (l := r))
        rw [List.length_append] at this
        omega
      omega
    · simp
end Mine
end

section
open PySem PySem.W PySem.Calls PyProof.Rows
namespace Mine
def Id8 (b : Array UInt8) : List Int := KBw.bInts b
def EncInv (al : List Int) (i0 i : Int) (s : List Int) : Prop :=
  ∃ r : List Int, DigsIn 58 r ∧ le 58 r + i * 58 ^ r.length = i0 ∧ (i = 0 → r.getLast? ≠ some 0) ∧ s = r.reverse.map (fun j => al.getD j.toNat 0) ∧ i * 2 ^ r.length ≤ i0
theorem enc_start {al : List Int} {i0 : Int} (h0 : 0 ≤ i0) : KBw.bInts #[] = Id8 #[] ∧ EncInv al i0 i0 (Id8 #[]) ∧ 0 ≤ i0 ∧ i0 ≤ i0 ∧ (Id8 #[]).length ≤ 100 :=
  ⟨rfl, ⟨[], .nil, by simp [le], by simp, rfl, by simp⟩, h0, Int.le_refl _, Nat.zero_le _⟩
theorem cut_one {al : List Int} {j : Nat} (hj : j < al.length) : List.take (clipAt al.length ((j : Int) + 1) - clipAt al.length (j : Int)) (List.drop (clipAt al.length (j : Int)) al) = [al.getD j 0] := by
  have e : ((j : Int) + 1) = ((j + 1 : Nat) : Int) := by omega
  rw [e, clipAt_nat, clipAt_nat, Nat.min_eq_left (by omega), Nat.min_eq_left (by omega), Nat.add_sub_cancel_left, List.drop_eq_getElem_cons hj, List.take_succ_cons, List.take_zero, List.getD_eq_getElem?_getD, List.getElem?_eq_getElem hj]
  rfl
theorem enc_turn {al : List Int} {i0 i : Int} {f p : Array UInt8} (h : EncInv al i0 i (Id8 f)) (hal : al.length = 58)
    (hc : KBw.bInts (p ++ f) = List.take (clipAt al.length (i.fmod ↑al.length + 1) - clipAt al.length (i.fmod ↑al.length)) (List.drop (clipAt al.length (i.fmod ↑al.length)) al) ++ Id8 f)
    (h0 : 0 ≤ i) (hne : i ≠ 0) (hi : i ≤ i0) (hb : i0 < 2 ^ 100) :
    KBw.bInts (p ++ f) = Id8 (p ++ f) ∧ EncInv al i0 (i.fdiv ↑al.length) (Id8 (p ++ f)) ∧ 0 ≤ i.fdiv ↑al.length ∧ i.fdiv ↑al.length ≤ i0 ∧ (Id8 (p ++ f)).length ≤ 100 := by
  rw [hal] at hc ⊢
  rw [Int.fdiv_eq_ediv_of_nonneg _ (by omega)]
  rw [Int.fmod_eq_emod_of_nonneg _ (by omega)] at hc
  have hm0 := Int.emod_nonneg i (b := ((58 : Nat) : Int)) (by omega)
  have hm1 := Int.emod_lt_of_pos i (b := ((58 : Nat) : Int)) (by omega)
  have hdm := Int.mul_ediv_add_emod i ((58 : Nat) : Int)
  obtain ⟨r, hd, hv, ht, hs, hl⟩ := h
  generalize hq : i / ((58 : Nat) : Int) = q at *
  generalize hmm : i % ((58 : Nat) : Int) = m at *
  obtain ⟨j, rfl⟩ : ∃ j : Nat, m = (j : Int) := ⟨m.toNat, by omega⟩
  have hcut := cut_one (al := al) (j := j) (by omega)
  rw [hal] at hcut
  rw [hcut, hs] at hc
  have hlen : r.length < 100 := by
    have h1 : (1 : Int) * 2 ^ r.length ≤ i * 2 ^ r.length := Int.mul_le_mul_of_nonneg_right (by omega) (Int.le_of_lt (pow_pos' (by decide) _))
    have h2 : (2 : Int) ^ r.length < 2 ^ 100 := by omega
    have h3 : (2 : Nat) ^ r.length < 2 ^ 100 := by exact_mod_cast h2
    exact (Nat.pow_lt_pow_iff_right (by decide)).mp h3
  refine ⟨rfl, ⟨r ++ [(j : Int)], hd.snoc hm0 (by omega), ?_, fun e => ?_, ?_, ?_⟩, by omega, by omega, ?_⟩
  · rw [le_snoc, List.length_append, List.length_singleton, ← hv, Int.pow_succ]
    generalize (58 : Int) ^ r.length = P
    grind
  · have : (j : Int) ≠ 0 := by omega
    simpa using this
  · show KBw.bInts (p ++ f) = _
    rw [hc]; simp
  · rw [List.length_append, List.length_singleton, Int.pow_succ]
    have h1 : (q * 2) * 2 ^ r.length ≤ i * 2 ^ r.length := Int.mul_le_mul_of_nonneg_right (by omega) (Int.le_of_lt (pow_pos' (by decide) _))
    have : q * (2 ^ r.length * 2) = (q * 2) * 2 ^ r.length := by grind
    omega
  · show (KBw.bInts (p ++ f)).length ≤ 100
    rw [hc]; simp; omega
theorem enc_less {i : Int} {al : List Int} (hal : al.length = 58) (h0 : 0 ≤ i) (hne : i ≠ 0) : (i.fdiv ↑al.length).toNat < i.toNat := by
  rw [hal, Int.fdiv_eq_ediv_of_nonneg _ (by omega)]; omega
abbrev EncOut (al : List Int) (d : Bool) (i0 : Int) (out : List Int) : Prop := ∃ r : List Int, Canon 58 r.reverse i0 ∧ out = if i0 = 0 ∧ d = true then al.take 1 else r.map (fun j => al.getD j.toNat 0)
theorem enc_end {al : List Int} {d : Bool} {i0 i : Int} {f : Array UInt8} {t : Tok} (h : EncInv al i0 i (Id8 f)) (hi : i = 0) (hlen : (Id8 f).length ≤ 100) (hno : ¬ (i0 = 0 ∧ d = true)) :
    ∃ (b' : Array UInt8) (t' : Tok) (out : List Int), Value.bytes f t = .bytes b' t' ∧ KBw.bInts b' = out ∧ out.length ≤ 100 ∧ EncOut al d i0 out := by
  obtain ⟨r, hd, hv, ht, hs, hl⟩ := h
  subst hi
  refine ⟨f, t, _, rfl, rfl, hlen, r.reverse, ⟨by rw [List.reverse_reverse]; exact hd, by rw [List.reverse_reverse]; omega, by rw [List.reverse_reverse]; exact ht rfl⟩, ?_⟩
  rw [if_neg hno]; exact hs
theorem enc_end0 {al : List Int} {d : Bool} {i0 : Int} {p : Array UInt8} {t : Tok} (hal : al.length = 58) (hc : KBw.bInts p = List.take (clipAt al.length 1 - clipAt al.length 0) (List.drop (clipAt al.length 0) al)) (h0 : i0 = 0) (hd : d = true) :
    ∃ (b' : Array UInt8) (t' : Tok) (out : List Int), Value.bytes p t = .bytes b' t' ∧ KBw.bInts b' = out ∧ out.length ≤ 100 ∧ EncOut al d i0 out := by
  subst h0 hd
  refine ⟨p, t, _, rfl, rfl, ?_, [], Canon.nil _, ?_⟩
  · rw [hc, List.length_take, hal]; exact Nat.le_trans (Nat.min_le_left _ _) (by decide)
  · rw [if_pos ⟨rfl, rfl⟩, hc]
    rw [hal]
    rfl
def EncodeIs (al ks out : List Int) : Prop := ∃ r : List Int, Canon 58 r.reverse (num 256 ks) ∧ out = List.replicate (noughts ks) (al.getD 0 0) ++ r.map (fun j => al.getD j.toNat 0)
theorem encode_end {al ks out : List Int} {p : Array UInt8} {t : Tok} (h : EncOut al false (KFB.value (ks.dropWhile (fun x => decide (x = 0)))) out) (hl : out.length ≤ 100) (hk : ks.length ≤ 100)
    (hp : KBw.bInts p = List.replicate ((ks.length : Int) - ((ks.dropWhile (fun x => decide (x = 0))).length : Int)).toNat (al.getD 0 0) ++ out) :
    ∃ (b' : Array UInt8) (t' : Tok) (o : List Int), Value.bytes p t = .bytes b' t' ∧ KBw.bInts b' = o ∧ o.length ≤ 200 ∧ EncodeIs al ks o := by
  obtain ⟨r, hc, e⟩ := h
  have hv : KFB.value (ks.dropWhile (fun x => decide (x = 0))) = num 256 ks := num_zeros 256 ks
  rw [if_neg (by simp)] at e
  rw [hv] at hc
  refine ⟨p, t, _, rfl, rfl, ?_, r, hc, ?_⟩
  · rw [hp, List.length_append, List.length_replicate]; omega
  · rw [hp, noughts_len, e]
end Mine
end

section
open PySem PySem.W PySem.Calls PyProof.Rows
namespace Mine
open Builtin
theorem slot_lstrip : Slot "bytes" "lstrip" "bytes.lstrip" :=
  .of (owner := "bytes") (n := "lstrip") (by rw [typeLookup_type, builtinLookup_eq_fast]; kernel_rfl) (by decide +kernel) (by decide +kernel) (by decide +kernel)
    (by first | exact .inl (by decide +kernel) | exact .inr (by decide +kernel)) (by rw [isSubtype_type]; kernel_rfl)
theorem type_lstrip : typeOf (.builtin "bytes.lstrip") = pure (.type "method_descriptor") := by show builtinType _ = _; rw [builtinType_eq_fast]; kernel_rfl
theorem entry_lstrip : entryFor table "bytes.lstrip" = some Builtin.«bytes.lstrip» := entryFor_of_tree (by kernel_rfl)
theorem args_lstrip (a b : Value) : argsOk "bytes.lstrip" ⟨[a, b], []⟩ := by unfold argsOk; kernel_rfl
theorem slot_rstrip : Slot "bytes" "rstrip" "bytes.rstrip" :=
  .of (owner := "bytes") (n := "rstrip") (by rw [typeLookup_type, builtinLookup_eq_fast]; kernel_rfl) (by decide +kernel) (by decide +kernel) (by decide +kernel)
    (by first | exact .inl (by decide +kernel) | exact .inr (by decide +kernel)) (by rw [isSubtype_type]; kernel_rfl)
theorem type_rstrip : typeOf (.builtin "bytes.rstrip") = pure (.type "method_descriptor") := by show builtinType _ = _; rw [builtinType_eq_fast]; kernel_rfl
theorem entry_rstrip : entryFor table "bytes.rstrip" = some Builtin.«bytes.rstrip» := entryFor_of_tree (by kernel_rfl)
theorem args_rstrip (a : Value) : argsOk "bytes.rstrip" ⟨[a], []⟩ := by unfold argsOk; kernel_rfl
section
variable {prog : Program} {w : World} {A : Around} {E : Value → Shared → Prop} {s : Shared} {b c : Array UInt8} {t u : Tok}
theorem same_bytes : Bytes.Kind.same .bytes (.bytes b t) = pure (.bytes b t) := rfl
theorem kept_back {M : Model} {l : List UInt8} {tag : String} {Q : Fin → Shared → Prop} (hl : l.length ≤ b.size) (hsz : b.size ≤ 16777216) (hs : l.length = b.size → l = b.toList) (h : ∀ (b' : Array UInt8) t' k, b'.toList = l → Q (.done (.ret (.bytes b' t'))) { s with toks := k }) :
    wpAny M A (if l.length == b.size then (rule tag >>= fun _ => Bytes.Kind.same .bytes (.bytes b t) >>= fun v => ret v) else (Bytes.Kind.new .bytes l.toArray >>= fun v => ret v)) Q E s := by
  by_cases e : l.length = b.size
  · rw [if_pos (by simpa using e), same_bytes]
    exact wpAny_bind (wpAny_rule (wpAny_bind (wpAny_pure (wpAny_pure (h b t s.toks (hs e).symm)))))
  · rw [if_neg (by simpa using e)]
    exact wpAny_bind (wpAny_mkBytes (wpAny_pure (h _ _ _ rfl)) (by rw [sizeLine_eq, List.size_toArray]; omega))
theorem dropWhile_len {α : Type} (p : α → Bool) : ∀ l : List α, (l.dropWhile p).length ≤ l.length
  | [] => Nat.le_refl _
  | x :: r => by
    rw [List.dropWhile_cons]
    split
    · exact Nat.le_succ_of_le (dropWhile_len p r)
    · exact Nat.le_refl _
theorem dropWhile_all {α : Type} (p : α → Bool) : ∀ l : List α, (l.dropWhile p).length = l.length → l.dropWhile p = l
  | [], _ => rfl
  | x :: r, h => by
    rw [List.dropWhile_cons] at h ⊢
    split
    · rename_i hx
      rw [if_pos hx] at h
      have := dropWhile_len p r
      simp only [List.length_cons] at h
      omega
    · rfl
theorem lstrip_call {Q : Value → Shared → Prop} (hsz : b.size ≤ 16777216) (h : ∀ (b' : Array UInt8) t' k, b'.toList = b.toList.dropWhile c.contains → Q (.bytes b' t') { s with toks := k }) :
    wpAny (model prog w) A (call (.builtin "bytes.lstrip") [.bytes b t, .bytes c u]) Q E s := by
  refine wpAny_call_entry slot_lstrip (typeIs_bytes s b t) entry_lstrip ?_ (args_lstrip _ _)
  unfold Builtin.«bytes.lstrip» Bytes.stripM
  refine wpAny_bind (wpAny_of_eq (a := (Value.bytes b t, [Value.bytes c u])) rfl ?_)
  refine wpAny_bind (wpAny_of_eq KBd.like_eq ?_)
  show wpAny _ _ (if (b.toList.dropWhile c.contains).length == b.size then (rule _ >>= fun _ => Bytes.Kind.same .bytes (.bytes b t) >>= fun v => ret v) else (Bytes.Kind.new .bytes (b.toList.dropWhile c.contains).toArray >>= fun v => ret v)) _ _ s
  refine kept_back (by rw [← Array.length_toList]; exact dropWhile_len _ _) hsz (fun e => dropWhile_all _ _ (by rw [Array.length_toList]; exact e)) fun b' t' k e => ⟨_, rfl, h b' t' k e⟩
theorem rstrip_call {Q : Value → Shared → Prop} (hsz : b.size ≤ 16777216) (h : ∀ (b' : Array UInt8) t' k, b'.toList = (b.toList.reverse.dropWhile Bytes.isSpace).reverse → Q (.bytes b' t') { s with toks := k }) :
    wpAny (model prog w) A (call (.builtin "bytes.rstrip") [.bytes b t]) Q E s := by
  refine wpAny_call_entry slot_rstrip (typeIs_bytes s b t) entry_rstrip ?_ (args_rstrip _)
  show wpAny _ _ (if (b.toList.reverse.dropWhile Bytes.isSpace).reverse.length == b.size then (rule _ >>= fun _ => Bytes.Kind.same .bytes (.bytes b t) >>= fun v => ret v) else (Bytes.Kind.new .bytes (b.toList.reverse.dropWhile Bytes.isSpace).reverse.toArray >>= fun v => ret v)) _ _ s
  have h1 := dropWhile_len Bytes.isSpace b.toList.reverse
  simp only [List.length_reverse, Array.length_toList] at h1
  refine kept_back (by rw [List.length_reverse]; exact h1) hsz (fun e => by rw [dropWhile_all _ _ (by rw [List.length_reverse] at e; rw [e, List.length_reverse, Array.length_toList]), List.reverse_reverse]) fun b' t' k e => ⟨_, rfl, h b' t' k e⟩
theorem method_lstrip {M : Model} {pl : Sem Bool} {Q : Value × List Value → Shared → Prop} (h : Q (.builtin "bytes.lstrip", [.bytes b t]) s) : wpAny M A (getMethod (.bytes b t) "lstrip" pl) Q E s := by
  with_reducible exact KBd.method_of (.bytes b t) (typeIs_bytes _ _ _) slot_lstrip type_lstrip KBd.noRef h
theorem method_rstrip {M : Model} {pl : Sem Bool} {Q : Value × List Value → Shared → Prop} (h : Q (.builtin "bytes.rstrip", [.bytes b t]) s) : wpAny M A (getMethod (.bytes b t) "rstrip" pl) Q E s := by
  with_reducible exact KBd.method_of (.bytes b t) (typeIs_bytes _ _ _) slot_rstrip type_rstrip KBd.noRef h
theorem isSp_of (x : UInt8) (h : 33 ≤ (x.toNat : Int)) : Bytes.isSpace x = false := by
  unfold Bytes.isSpace
  have h1 : (x == 32) = false := by
    rw [beq_eq_false_iff_ne]; intro e; subst e; simp at h
  have h2 : decide (x ≤ 13) = false := by
    rw [decide_eq_false_iff_not, UInt8.le_iff_toNat_le]; intro e
    have : (13 : UInt8).toNat = 13 := rfl
    omega
  simp [h1, h2]
theorem rstrip_K {ks : List Int} {Q : Value → Shared → Prop} (hb : KBw.bInts b = ks) (hk : ∀ x ∈ ks, 33 ≤ x) (hsz : ks.length ≤ 16777216) (h : ∀ (b' : Array UInt8) t' k, KBw.bInts b' = ks → Q (.bytes b' t') { s with toks := k }) :
    wpAny (model prog w) A (call (.builtin "bytes.rstrip") [.bytes b t]) Q E s := by
  subst hb
  refine rstrip_call (by rw [← KBw.ints_length]; exact hsz) fun b' t' k e => h b' t' k ?_
  have hd : b.toList.reverse.dropWhile Bytes.isSpace = b.toList.reverse := by
    cases hr : b.toList.reverse with
    | nil => rfl
    | cons x r =>
      have hx : x ∈ b.toList := by rw [← List.mem_reverse, hr]; simp
      rw [List.dropWhile_cons, isSp_of x (hk _ (List.mem_map.mpr ⟨x, hx, rfl⟩))]
      rfl
  rw [hd, List.reverse_reverse] at e
  unfold KBw.bInts
  rw [e]
theorem dropWhile_map {α β : Type} (f : α → β) (p : α → Bool) (q : β → Bool) (h : ∀ x, q (f x) = p x) : ∀ l : List α, (l.dropWhile p).map f = (l.map f).dropWhile q
  | [] => rfl
  | x :: r => by
    rw [List.dropWhile_cons, List.map_cons, List.dropWhile_cons, h]
    split
    · exact dropWhile_map f p q h r
    · rfl
theorem lstrip_K {ks : List Int} {z : Int} {Q : Value → Shared → Prop} (hb : KBw.bInts b = ks) (hc : KBw.bInts c = [z]) (hsz : ks.length ≤ 16777216) (h : ∀ (b' : Array UInt8) t' k, KBw.bInts b' = ks.dropWhile (fun x => decide (x = z)) → Q (.bytes b' t') { s with toks := k }) :
    wpAny (model prog w) A (call (.builtin "bytes.lstrip") [.bytes b t, .bytes c u]) Q E s := by
  subst hb
  refine lstrip_call (by rw [← KBw.ints_length]; exact hsz) fun b' t' k e => h b' t' k ?_
  unfold KBw.bInts at hc ⊢
  rw [e]
  obtain ⟨y, hy⟩ : ∃ y, c.toList = [y] := by
    cases hl : c.toList with
    | nil => rw [hl] at hc; simp at hc
    | cons y r =>
      rw [hl] at hc
      cases r with
      | nil => exact ⟨y, rfl⟩
      | cons _ _ => simp at hc
  refine dropWhile_map _ _ _ (fun x => ?_) _
  rw [hy] at hc
  have hz : (y.toNat : Int) = z := by simpa using hc
  rw [← hz]
  have e1 : c.contains x = (c.toList.contains x) := by simp
  rw [e1, hy]
  simp only [List.contains_cons, List.contains_nil, Bool.or_false]
  by_cases hxy : x = y
  · subst hxy; simp
  · have : x.toNat ≠ y.toNat := fun e => hxy (UInt8.toNat_inj.mp e)
    have h2 : (x == y) = false := by simpa using hxy
    rw [h2]
    simp only [decide_eq_false_iff_not]
    omega
theorem mul_K {z n : Int} {Q : Value → Shared → Prop} (hc : KBw.bInts c = [z]) (h0 : 0 ≤ n) (hn : n ≤ 1048576) (h : ∀ (b' : Array UInt8) t' k, KBw.bInts b' = List.replicate n.toNat z → (List.replicate n.toNat z).length ≤ 1048576 → Q (.bytes b' t') { s with toks := k }) :
    wpAny (model prog w) A (binaryOp .Mult (.bytes c t) (.int n u)) Q E s := by
  have hlen : c.toList.length = 1 := by
    have := congrArg List.length hc
    simpa [KBw.bInts] using this
  have e : c = c.toList.toArray := by simp
  rw [e]
  refine bytes_mul_any (b := c.toList) (fun q => by rw [q] at hlen; simp at hlen) (by omega) hn (by omega) fun t' k => h _ t' k ?_ (by rw [List.length_replicate]; omega)
  unfold KBw.bInts at hc ⊢
  simp only [List.map_flatten, List.map_replicate, hc]
  induction n.toNat with
  | zero => rfl
  | succ k ih => simp [List.replicate_succ]
theorem lstrip_len {b : Array UInt8} {ks : List Int} {p : Int → Bool} (_ : KBw.bInts b = ks.dropWhile p) : (ks.dropWhile p).length ≤ ks.length := dropWhile_len _ _
end
end Mine
end

section
open PySem PySem.W PySem.Calls PyProof.Rows
namespace Mine
open Builtin
theorem first_cut {p : Array UInt8} {al : List Int} (h : KBw.bInts p = List.take (clipAt al.length 1 - clipAt al.length 0) (List.drop (clipAt al.length 0) al)) (hal : al.length = 58) : KBw.bInts p = [al.getD 0 0] := by
  rw [h]
  have := cut_one (al := al) (j := 0) (by omega)
  simpa using this
section
variable {prog : Program} {w : World} {M : Model} {A : Around} {E : Value → Shared → Prop} {s : Shared} {h₀ : Heap} {L : Addr} {m : PySem.Str → Option Value} {news : List (Addr × Obj)}
abbrev kwBig (u : Tok) : List (PySem.Str × Value) := [(PySem.Str.ofString "byteorder", .str (PySem.Str.ofString "big") u)]
theorem grown' {n : Nat} {Q : Value → Shared → Prop} (hn : n < 2 ^ 128) (h : Q (.int (n : Int) s.toks) { s with toks := s.toks + 1 }) : wpAny M A (mkIntGrown (n : Int)) Q E s := by
  unfold mkIntGrown
  have hl : ¬ ((n : Int).natAbs.log2 ≥ bitsLine) := by
    rw [Int.natAbs_natCast]
    have hb : bitsLine = 134217728 := by first | rfl | decide
    by_cases hz : n = 0
    · subst hz
      rw [hb]
      decide
    · have h1 := (Nat.log2_lt hz).mpr hn
      omega
  rw [if_neg hl]
  exact wpAny_mkInt h
theorem fb_tree {b : Array UInt8} {t u : Tok} {P : Fin → Shared → Prop} (hl : b.size ≤ 16) (h : P (.done (.ret (.int (KFB.value (KBw.bInts b)) s.toks))) { s with toks := s.toks + 1 }) :
    wpAny M A (Builtin.«int.from_bytes» ⟨[.type "int", .bytes b t], kwBig u⟩) P E s := by
  have hv : ((b.toList.foldl (fun (acc : Nat) (b : UInt8) => acc * 256 + b.toNat) 0 : Nat) : Int) = KFB.value (KBw.bInts b) := KFB.fold_cast b.toList 0
  have hn : b.toList.foldl (fun (acc : Nat) (b : UInt8) => acc * 256 + b.toNat) 0 < 2 ^ 128 := by
    have h1 := KFB.fold_lt b.toList 0
    rw [Nat.zero_add, Nat.one_mul, Array.length_toList] at h1
    have h2 : 256 ^ b.size ≤ 256 ^ 16 := Nat.pow_le_pow_right (by decide) hl
    omega
  unfold Builtin.«int.from_bytes»
  refine wpAny_bind (wpAny_of_eq (a := true) KFB.type_int ?_)
  refine KFB.if_not rfl ?_
  refine wpAny_bind (wpAny_of_eq (a := true) F.conv_sub_int ?_)
  refine KFB.if_not rfl ?_
  refine wpAny_bind (wpAny_of_eq (a := [some (.bytes b t), some (.str (PySem.Str.ofString "big") u), none]) (by kernel_rfl) ?_)
  refine wpAny_bind (wpAny_of_eq (a := PySem.Str.ofString "big") (by kernel_rfl) ?_)
  refine wpAny_bind (wpAny_of_eq (a := false) rfl ?_)
  refine wpAny_bind (wpAny_of_eq (a := false) (by kernel_rfl) ?_)
  refine wpAny_bind (wpAny_of_eq (a := b) rfl ?_)
  show wpAny _ _ (mkIntGrown (b.toList.foldl (fun (acc : Int) (b : UInt8) => acc * 256 + (b.toNat : Int)) ((0 : Nat) : Int)) >>= fun v => _) _ _ _
  rw [KFB.foldI_eq]
  refine wpAny_bind (grown' hn ?_)
  rw [hv]
  refine KFB.if_so (by decide +kernel) ?_
  exact wpAny_bind (wpAny_pure (wpAny_pure h))
theorem value_in {b : Array UInt8} (hl : b.size ≤ 12) : 0 ≤ KFB.value (KBw.bInts b) ∧ KFB.value (KBw.bInts b) < 2 ^ 100 := by
  have hv : ((b.toList.foldl (fun (acc : Nat) (b : UInt8) => acc * 256 + b.toNat) 0 : Nat) : Int) = KFB.value (KBw.bInts b) := KFB.fold_cast b.toList 0
  have h1 := KFB.fold_lt b.toList 0
  rw [Nat.zero_add, Nat.one_mul, Array.length_toList] at h1
  have h2 : 256 ^ b.size ≤ 256 ^ 12 := Nat.pow_le_pow_right (by decide) hl
  rw [← hv]
  generalize b.toList.foldl (fun (acc : Nat) (b : UInt8) => acc * 256 + b.toNat) 0 = n at *
  have h3 : n < 2 ^ 100 := by omega
  refine ⟨by omega, ?_⟩
  exact_mod_cast h3
theorem fb_check {b : Array UInt8} {t u : Tok} : checkBoundCall "int.from_bytes" ⟨[.type "int", .bytes b t], kwBig u⟩ = pure () := by first | kernel_rfl | rfl
theorem fb_call {x : Addr} {b : Array UInt8} {t u : Tok} {ks : List Int} {Q : Value → Shared → Prop} (N : News h₀ L s.heap news) (hm : (x, KFB.bound) ∈ news) (hb : KBw.bInts b = ks) (hl : ks.length ≤ 12)
    (h : ∀ t' k, 0 ≤ KFB.value ks → KFB.value ks < 2 ^ 100 → Q (.int (KFB.value ks) t') { s with toks := k }) : wpAny (model prog w) A (call (.ref x) [.bytes b t] (kwBig u)) Q E s := by
  subst hb
  have hb2 := value_in (b := b) (by rw [← KBw.ints_length]; exact hl)
  refine wpAny_call (codeAny_of_tree ?_)
  show wpAny _ A.in1 (callAny (.ref x) ⟨[.bytes b t], kwBig u⟩) _ _ s
  simp only [callAny]
  refine wpAny_bind (wpAny_load (N.get hm) ?_)
  simp only [KFB.bound, show (Value.type "builtin_function_or_method" == Value.type "method" || Value.type "builtin_function_or_method" == Value.type "builtin_function_or_method" || Value.type "builtin_function_or_method" == Value.type "method-wrapper") = true by decide, if_true]
  refine KFB.if_so (by decide) ?_
  refine wpAny_bind (wpAny_of_eq (a := ()) fb_check ?_)
  refine wpAny_bind (wpAny_pure (wpAny_pure ?_))
  exact ⟨KFB.quiet_fb, codeAny_builtin KFB.entry_fb (fb_tree (by rw [← KBw.ints_length]; omega) (h _ _ hb2.1 hb2.2))⟩
theorem bound_looks {u : Addr} {h : Heap} (ho : KFB.StandsAt u h) : ∃ k, (k = Keeper.frame ∨ k = Keeper.machine ∨ k = Keeper.boundFrame) ∧ Looks M h (keeperOf (.ref u)) k :=
  ⟨.machine, .inr (.inl rfl), (Looks.ld (part := none) ho).andThen .now⟩
theorem callWith_boundKW {env : Env} {pos : Pos} {u : Addr} {first : List Value} {Q : Value → Shared → Prop} {e : Expr} {rest : List Expr} {kws : List Keyword} (_N : News h₀ L s.heap news) (_hm : (u, KFB.bound) ∈ news) (hall : (backToKw pos (keywordEach kws env)).all (·.1.isSome) = true)
    (h : wpAny M A (spliced (backTo pos (starEach (e :: rest) env))) (fun vs s₁ => wpAny M A (evalAll ((backToKw pos (keywordEach kws env)).map (·.2)))
      (fun ks s₂ => KFB.StandsAt u s₂.heap ∧ wpAny M A (call (.ref u) (first ++ vs) (((backToKw pos (keywordEach kws env)).filterMap (·.1)).zip ks)) Q E s₂) E s₁) E s)
    (hplain : ((backTo pos (starEach (e :: rest) env)).any (·.1) || (backToKw pos (keywordEach kws env)).any (·.1.isNone)) = false := by rfl) (he : starEach (e :: rest) env = (false, eval e env) :: starEach rest env := by rfl) :
    wpAny M A (callWith pos (.ref u) first (backTo pos (starEach (e :: rest) env)) (backToKw pos (keywordEach kws env))) Q E s :=
  callWith_of hplain (fun _ => bound_looks) (evalArgs_kw2 hall h he)
end
end Mine
end

section
open PySem PySem.W PySem.Calls PyProof.Rows
namespace Mine
theorem ints_zero : KBw.bInts #[0] = [(0 : Int)] := rfl
section
variable {w : World} {mean : ExcName → Option Value} {mg mb : PySem.Str → Option Value}
theorem use_call {f : Addr} {D U : Nat} {pos : List Value} {kw : List (PySem.Str × Value)} {pre : Heap → Prop} {post : Heap → Heap → Value → Prop} (C : Call w mean mg mb f D U pos kw pre post)
    {dp un : Nat} {gd : Option (List Code)} {env env' : Env} {outer : List Env} {base h₀ : Heap} {L : Addr} {m : PySem.Str → Option Value} {news : List (Addr × Obj)} {s : Shared} {Q E : Value → Shared → Prop}
    (B : Below (Ard dp un gd env outer) base (env :: outer) h₀) (F : Fr h₀ L s.heap m) (X : (hd.heap_39 w.params).In h₀) (N : News h₀ L s.heap news) (T : Top hd.view_39 (looseW hd.view_39 LS) mean mg mb h₀)
    (hf : env'.frame = some L) (hke : env'.scope.kind = .function) (hD : dp + (D + 1) < recursionLimit) (hU : un + (U + 3) < cLine) (hp : pre s.heap)
    (h : ∀ v h' tk', Fr h₀ L h' m → News h₀ L h' news → Keep s.heap h' → post s.heap h' v → Q v { s with heap := h', toks := tk' }) :
    wpAny (model PP w) ((Ard dp un gd env outer).deeper env') (call (.ref f) pos kw) Q E s :=
  C (dp + 1) (un + 3) gd env' (env :: outer) base s Q E (by omega) (by omega) (pushX B F hf hke) (X.keeps F.keep) (T.keeps F.keep) hp fun v h' tk' k p => h v h' tk' (F.keeps k) (N.grown k) k p
theorem use_callD {f : Addr} {D U : Nat} {pos : List Value} {kw : List (PySem.Str × Value)} {pre : Heap → Prop} {R : Addr → Obj → Prop} (C : Call w mean mg mb f D U pos kw pre (fun g h v => ∃ D o, v = .ref D ∧ g.get? D = none ∧ h.get? D = some o ∧ R D o))
    {dp un : Nat} {gd : Option (List Code)} {env env' : Env} {outer : List Env} {base h₀ : Heap} {L : Addr} {m : PySem.Str → Option Value} {news : List (Addr × Obj)} {s : Shared} {Q E : Value → Shared → Prop}
    (B : Below (Ard dp un gd env outer) base (env :: outer) h₀) (F : Fr h₀ L s.heap m) (X : (hd.heap_39 w.params).In h₀) (N : News h₀ L s.heap news) (T : Top hd.view_39 (looseW hd.view_39 LS) mean mg mb h₀)
    (hf : env'.frame = some L) (hke : env'.scope.kind = .function) (hD : dp + (D + 1) < recursionLimit) (hU : un + (U + 3) < cLine) (hp : pre s.heap)
    (h : ∀ D o h' tk', Fr h₀ L h' m → News h₀ L h' ((D, o) :: news) → (∀ p ∈ news, @Ne Nat p.1 D) → R D o → Q (.ref D) { s with heap := h', toks := tk' }) :
    wpAny (model PP w) ((Ard dp un gd env outer).deeper env') (call (.ref f) pos kw) Q E s :=
  use_call C B F X N T hf hke hD hU hp fun v h' tk' F' N' k p => by
    obtain ⟨D, o, rfl, hD, ho, hR⟩ := p
    have hne : ∀ p ∈ news, @Ne Nat p.1 D := fun p hp q => by
      have := (N p hp).1
      rw [show p.1 = D from q, hD] at this; cases this
    refine h D o h' tk' F' (fun q hq => ?_) hne hR
    rcases List.mem_cons.mp hq with rfl | hq
    · refine ⟨ho, fun q => ?_, ?_⟩
      · obtain ⟨ob, _, _, e, _⟩ := F.ns
        rw [← show D = L from q, hD] at e; cases e
      · cases e : h₀.get? D with
        | none => rfl
        | some o' => rw [F.keep _ _ e] at hD; cases hD
    · exact N' q hq
end
end Mine
end

section
open PySem PySem.W PySem.Calls PyProof.Rows
namespace Mine
local macro_rules | `(tactic| walk_at "pad C_draw 0") => `(tactic| skip)
theorem filled_C_draw (w : World) : Challenge.rw_eg5004_01.row.prog = Challenge.rw_eg5004_01.row.prog ∧ hd.heap_39 w.params = hd.heap_39 w.params := by
  k_fill
  exact ⟨rfl, rfl⟩
theorem c_draw (w : World) (mean : ExcName → Option Value) (mg mb : PySem.Str → Option Value) (l : Addr) (vs : List Value) (ns : List Int) (k : Int) (tk : Tok) (hI : IntsAre vs ns) (hlen : ns.length ≤ 63) (hk0 : 0 ≤ k) (hk1 : k < 1000) :
    Call w mean mg mb 68 1 8 [.ref l, .int k tk] [] (fun h => h.IsList l vs.toArray) (fun _ _ v => ∃ t, v = .int (draw ns k) t) := by
  refine' call_of (binds := [(Str.ofString "script", .ref l), (Str.ofString "k", .int k tk)]) ?k1 ?k2 ?k3 ?k4 ?k5 ?k6 ?k7 ?k8 ?_
  case k1 => k_is
  case k2 => k_is
  case k3 => exact fun _ _ => BindsTo.of_eq rfl
  case k4 => exact locs rfl
  case k5 => exact rfl
  case k6 => exact rfl
  case k7 => exact rfl
  case k8 => decide
  intro dp un gd env outer base s L h₁ tk0 hD hU B X T hl F N
  w_top off
  k_steps
  all_goals (refine back_of (by assumption) ⟨_, congrArg (fun x => Value.int x _) ?_⟩)
  all_goals unfold draw
  · rw [if_neg (by intro e; subst e; simp at *), Int.fmod_eq_emod_of_nonneg _ (by omega), Int.fdiv_eq_ediv_of_nonneg _ (by omega)]
  · rw [if_pos (by cases ns; rfl; simp at *)]
end Mine
end

section
open PySem PySem.W PySem.Calls PyProof.Rows
namespace Mine
local macro_rules | `(tactic| walk_at "pad C_noughts 0") => `(tactic| skip)
theorem filled_noughts (w : World) : Challenge.rw_eg5004_01.row.prog = Challenge.rw_eg5004_01.row.prog ∧ hd.heap_39 w.params = hd.heap_39 w.params := by
  k_fill
  exact ⟨rfl, rfl⟩
variable (w : World) (mean : ExcName → Option Value) (mg mb : PySem.Str → Option Value)
local macro_rules | `(tactic| walk_at "my_open") => `(tactic| (
  (case k1 => k_is)
  (case k2 => k_is)
  (case k3 => exact fun _ _ => BindsTo.of_eq rfl)
  (case k4 => exact locs rfl)
  (case k5 => exact rfl)
  (case k6 => exact rfl)
  (case k7 => exact rfl)
  (case k8 => decide)))
theorem noughts_step {ks : List Int} {c : Int} (h0 : 0 ≤ c) (h1 : c < ks.length) (h2 : ∀ i, i < c.toNat → ks.getD i 0 = 0) (h3 : ks.getD c.toNat 0 = 0) : 0 ≤ c + 1 ∧ c + 1 ≤ ks.length ∧ ∀ i, i < (c + 1).toNat → ks.getD i 0 = 0 := by
  refine ⟨by omega, by omega, fun i hi => ?_⟩
  by_cases h : i < c.toNat
  · exact h2 i h
  · have : i = c.toNat := by omega
    rw [this]; exact h3
theorem noughts_start (ks : List Int) : (0 : Int) ≤ 0 ∧ (0 : Int) ≤ ks.length ∧ ∀ i, i < Int.toNat 0 → ks.getD i 0 = 0 := ⟨Int.le_refl _, by omega, fun i hi => absurd hi (by simp)⟩
theorem noughts_of {ks : List Int} {c : Nat} (h1 : c ≤ ks.length) (h2 : ∀ i, i < c → ks.getD i 0 = 0) (h3 : c < ks.length → ks.getD c 0 ≠ 0) : noughts ks = c := by
  unfold noughts
  induction ks generalizing c with
  | nil => simp at h1; simp [h1]
  | cons k r ih =>
    cases c with
    | zero =>
      have : k ≠ 0 := by simpa using h3 (by simp)
      simp [this]
    | succ c =>
      have hk : k = 0 := by simpa using h2 0 (by omega)
      have hr := ih (c := c) (by simpa using h1) (fun i hi => by simpa using h2 (i + 1) (by omega)) (fun hlt => by simpa using h3 (by simpa using hlt))
      simp [hk, hr]
theorem noughts_is1 {ks : List Int} {c : Int} (h0 : 0 ≤ c) (h1 : c ≤ ks.length) (h2 : ∀ i, i < c.toNat → ks.getD i 0 = 0) (h3 : ks.getD c.toNat 0 ≠ 0) : c = (noughts ks : Nat) := by
  rw [noughts_of (c := c.toNat) (by omega) h2 (fun _ => h3)]; omega
theorem noughts_is2 {ks : List Int} {c : Int} (h0 : 0 ≤ c) (h1 : c ≤ ks.length) (h2 : ∀ i, i < c.toNat → ks.getD i 0 = 0) (h3 : ¬ c < ks.length) : c = (noughts ks : Nat) := by
  rw [noughts_of (c := c.toNat) (by omega) h2 (by omega)]; omega
theorem c_noughts_b (l : Array UInt8) (ks : List Int) (hk : KBw.bInts l = ks) (t : Tok) (hlen : ks.length ≤ 1000) :
    Call w mean mg mb 82 1 8 [.bytes l t] [] (fun h => True) (fun _ _ v => ∃ t, v = .int (noughts ks : Nat) t) := by
  refine' call_of (binds := [(Str.ofString "row", .bytes l t)]) ?k1 ?k2 ?k3 ?k4 ?k5 ?k6 ?k7 ?k8 ?_
  walk_at "my_open"
  intro dp un gd env outer base s L h₁ tk0 hD hU B X T hl F N
  (k_with "state" => first | exact noughts_start _ | (refine noughts_step ?_ ?_ ?_ ?_ <;> assumption))
  (k_with "exec While BoolOp cons nil" => k_while (fun _ count => 0 ≤ count ∧ count ≤ (ks.length : Int) ∧ ∀ i, i < count.toNat → ks.getD i 0 = 0) (fun _ count => ks.length - count.toNat) "count")
  w_top off
  k_steps
  all_goals (try dsimp only)
  all_goals (refine back_of (by assumption) ⟨_, congrArg (fun x => Value.int x _) ?_⟩)
  all_goals first | (refine noughts_is1 ?_ ?_ ?_ ?_ <;> assumption) | (refine noughts_is2 ?_ ?_ ?_ ?_ <;> assumption)
theorem k_clear : True := by
  k_with_none
  trivial
theorem c_noughts_l (l : Addr) (vs : List Value) (ks : List Int) (hk : IntsAre vs ks) (hlen : ks.length ≤ 1000) :
    Call w mean mg mb 82 1 8 [.ref l] [] (fun h => h.IsList l vs.toArray) (fun _ _ v => ∃ t, v = .int (noughts ks : Nat) t) := by
  refine' call_of (binds := [(Str.ofString "row", .ref l)]) ?k1 ?k2 ?k3 ?k4 ?k5 ?k6 ?k7 ?k8 ?_
  walk_at "my_open"
  intro dp un gd env outer base s L h₁ tk0 hD hU B X T hl F N
  (k_with "state" => first | exact noughts_start _ | (refine noughts_step ?_ ?_ ?_ ?_ <;> assumption))
  (k_with "exec While BoolOp cons nil" => k_while (fun _ count => 0 ≤ count ∧ count ≤ (ks.length : Int) ∧ ∀ i, i < count.toNat → ks.getD i 0 = 0) (fun _ count => ks.length - count.toNat) "count")
  w_top off
  k_steps
  all_goals (try dsimp only)
  all_goals (refine back_of (by assumption) ⟨_, congrArg (fun x => Value.int x _) ?_⟩)
  all_goals first | (refine noughts_is1 ?_ ?_ ?_ ?_ <;> assumption) | (refine noughts_is2 ?_ ?_ ?_ ?_ <;> assumption)
end Mine
end

section
open PySem PySem.W PySem.Calls PyProof.Rows
namespace Mine
theorem filled_C_carried (w : World) : Challenge.rw_eg5004_01.row.prog = Challenge.rw_eg5004_01.row.prog ∧ hd.heap_39 w.params = hd.heap_39 w.params := by
  k_fill
  exact ⟨rfl, rfl⟩
variable (w : World) (mean : ExcName → Option Value) (mg mb : PySem.Str → Option Value)
local macro_rules | `(tactic| walk_at "my_open") => `(tactic| (
  (case k1 => k_is)
  (case k2 => k_is)
  (case k3 => exact fun _ _ => BindsTo.of_eq rfl)
  (case k4 => exact locs rfl)
  (case k5 => exact rfl)
  (case k6 => exact rfl)
  (case k7 => exact rfl)
  (case k8 => decide)))

local macro_rules | `(tactic| walk_at "KswEnd") => `(tactic| ((rename News _ _ _ _ => nE'); (try simp only [List.push_toArray] at nE'); (refine ksw_end ⟨_, _, _, _, _⟩ (by assumption) nE' (by kst_inAny) (by kst_facts) (by kst_all) (by ksw_same) (by kst_p) (by ksw_less))))
theorem div_less {c n : Int} (hn : 2 ≤ n) (hc : 0 < c) : (c.fdiv n).toNat < c.toNat := by
  rw [Int.fdiv_eq_ediv_of_nonneg _ (by omega)]
  have hq : 0 ≤ c / n := Int.ediv_nonneg (by omega) (by omega)
  have hm0 := Int.emod_nonneg c (b := n) (by omega)
  have hdm := Int.mul_ediv_add_emod c n
  have : 2 * (c / n) ≤ n * (c / n) := Int.mul_le_mul_of_nonneg_right hn hq
  omega
local macro_rules | `(tactic| walk_at "my_len") => `(tactic| first | assumption | (simp only [rangeKs_length]; omega))
local macro_rules | `(tactic| walk_at "my_state") => `(tactic| first
  | exact for_start (by assumption) (by assumption) (by assumption)
  | exact for_turn (by assumption) (by assumption) (by assumption) (by assumption) (by assumption) (by assumption) (by assumption) (by assumption)
  | exact wh_start (by assumption) (by assumption) (by walk_at "my_len") (by assumption) (by assumption) (by assumption) (by assumption) (by assumption) (by assumption) (by assumption)
  | exact wh_turn (by assumption) (by assumption) (by assumption) (by assumption)
  | exact out_turn (by assumption) (by assumption) (by assumption) (by assumption) (by assumption) (by assumption) (by assumption) (by assumption) (by walk_at "my_len"))

theorem c_carried_b (l : Array UInt8) (ks : List Int) (hk : KBw.bInts l = ks) (t t1 t2 : Tok) (hlen : ks.length ≤ 100) (old new : Int) (ho0 : 2 ≤ old) (ho1 : old ≤ 256) (hn0 : 2 ≤ new) (hn1 : new ≤ 256) (hr : ∀ k ∈ ks, 0 ≤ k ∧ k < old):
    Call w mean mg mb 75 1 8 [.bytes l t, .int old t1, .int new t2] [] (fun h => True) (fun g h v => ∃ D vs r n, v = .ref D ∧ g.get? D = none ∧ h.get? D = some (PySem.W.listOf (List.toArray vs) n) ∧ IntsAre vs r ∧ Canon new r.reverse (num old ks)) := by
  refine' call_of (binds := [(Str.ofString "row", .bytes l t), (Str.ofString "old", .int old t1), (Str.ofString "new", .int new t2)]) ?k1 ?k2 ?k3 ?k4 ?k5 ?k6 ?k7 ?k8 ?_
  walk_at "my_open"
  intro dp un gd env outer base s L h₁ tk0 hD hU B X T hl F N
  k_with_none
  (k_with "pyIter bytes" => (refine' loop_b_out [Str.ofString "carry", Str.ofString "k"] (fun pre out => Canon new out (num old pre) ∧ out.length ≤ 256 * pre.length) ?qa1 ?qa2 ?qa3 ?qa4 ?qa5 ?_ ?_; (case qa1 => assumption); (case qa2 => rfl); (case qa3 => assumption); (case qa4 => assumption); (case qa5 => exact ⟨Canon.nil _, Nat.zero_le _⟩); intro vs' out' c' pre' post' here' t' u' h' tk' own' e1 e2 e3 e4 e5 e6 e7 F' N'; (have e9 := (hr here' (by rw [e1]; simp)).2); rotate_left; intro vs' out' c' u' h' tk' e6 e7 F' N'; rotate_left))
  (k_with "pyIter ref" => k_state_given ["out!", "here"] (fun out0 here pre carry out => ForInv old new here out0 pre.length carry out ∧ out.length = out0.length ∧ 0 ≤ carry ∧ carry < old) "carry" "out")
  (k_with "exec While Compare cons nil" => k_while_given ["out!", "carry!"] (fun out0 carry0 _ carry out => WhInv new (le new out0 + carry0 * new ^ out0.length) carry out ∧ out.length + carry ≤ out0.length + 256 ∧ 0 ≤ carry) (fun out0 carry0 _ carry out => carry.toNat) "carry" "out")
  (k_with "state" => walk_at "my_state")
  (k_with "measure" => exact div_less (by assumption) (by assumption))
  w_top off
  k_steps
  all_goals (try dsimp only)
  all_goals refine back_of (by assumption) ?_
  all_goals refine end_list (P := fun r => Canon new r.reverse (num old ks)) (by assumption) (by assumption) ?_
  all_goals (rw [List.reverse_reverse]; exact And.left (by assumption))
theorem c_carried_l (l : Addr) (us : List Value) (ks : List Int) (hk : IntsAre us ks) (t1 t2 : Tok) (hlen : ks.length ≤ 100) (old new : Int) (ho0 : 2 ≤ old) (ho1 : old ≤ 256) (hn0 : 2 ≤ new) (hn1 : new ≤ 256) (hr : ∀ k ∈ ks, 0 ≤ k ∧ k < old):
    Call w mean mg mb 75 1 8 [.ref l, .int old t1, .int new t2] [] (fun h => h.IsList l us.toArray) (fun g h v => ∃ D vs r n, v = .ref D ∧ g.get? D = none ∧ h.get? D = some (PySem.W.listOf (List.toArray vs) n) ∧ IntsAre vs r ∧ Canon new r.reverse (num old ks)) := by
  refine' call_of (binds := [(Str.ofString "row", .ref l), (Str.ofString "old", .int old t1), (Str.ofString "new", .int new t2)]) ?k1 ?k2 ?k3 ?k4 ?k5 ?k6 ?k7 ?k8 ?_
  walk_at "my_open"
  intro dp un gd env outer base s L h₁ tk0 hD hU B X T hl F N
  k_with_none
  (k_with "pyIter ref" => k_of "here" => (refine' loop_l_out [Str.ofString "carry", Str.ofString "k"] (fun pre out => Canon new out (num old pre) ∧ out.length ≤ 256 * pre.length) ?qa1 ?qa6 ?qa2 ?qa3 ?qa4 ?qa5 ?_ ?_; (case qa1 => assumption); (case qa6 => assumption); (case qa2 => rfl); (case qa3 => assumption); (case qa4 => assumption); (case qa5 => exact ⟨Canon.nil _, Nat.zero_le _⟩); intro vs' out' c' pre' post' here' t' u' h' tk' own' e1 e2 e5 e6 e7 F' N'; (have e9 := (hr here' e2).2); (have e8 := (hr here' e2).1); (have e10 : pre'.length < ks.length := by rw [e1]; simp only [List.length_append, List.length_cons]; omega); rotate_left; intro vs' out' c' u' h' tk' e6 e7 F' N'; rotate_left))
  (k_with "pyIter ref" => k_of "k" => k_state_given ["out!", "here"] (fun out0 here pre carry out => ForInv old new here out0 pre.length carry out ∧ out.length = out0.length ∧ 0 ≤ carry ∧ carry < old) "carry" "out")
  (k_with "exec While Compare cons nil" => k_while_given ["out!", "carry!"] (fun out0 carry0 _ carry out => WhInv new (le new out0 + carry0 * new ^ out0.length) carry out ∧ out.length + carry ≤ out0.length + 256 ∧ 0 ≤ carry) (fun out0 carry0 _ carry out => carry.toNat) "carry" "out")
  (k_with "state" => walk_at "my_state")
  (k_with "measure" => exact div_less (by assumption) (by assumption))
  w_top off
  k_steps
  all_goals (try dsimp only)
  all_goals refine back_of (by assumption) ?_
  all_goals refine end_list (P := fun r => Canon new r.reverse (num old ks)) (by assumption) (by assumption) ?_
  all_goals (rw [List.reverse_reverse]; exact And.left (by assumption))
end Mine
end

section
open PySem PySem.W PySem.Calls PyProof.Rows
namespace Mine
theorem filled_scrub (w : World) : Challenge.rw_eg5004_01.row.prog = Challenge.rw_eg5004_01.row.prog ∧ hd.heap_39 w.params = hd.heap_39 w.params := by
  k_fill
  exact ⟨rfl, rfl⟩
variable (w : World) (mean : ExcName → Option Value) (mg mb : PySem.Str → Option Value)
local macro_rules | `(tactic| walk_at "my_open") => `(tactic| (
  (case k1 => k_is)
  (case k2 => k_is)
  (case k3 => (intro sX XX; first | exact BindsTo.of_eq rfl | exact binds_K XX rfl (by k_is) rfl rfl rfl))
  (case k4 => exact locs rfl)
  (case k5 => exact rfl)
  (case k6 => exact rfl)
  (case k7 => exact rfl)
  (case k8 => decide)))
local macro_rules | `(tactic| walk_at "my_one") => `(tactic| first | rfl | exact first_cut (by assumption) (by assumption))
local macro_rules | `(tactic| walk_at "getMethod bytes") => `(tactic| (k_here; first | (with_reducible refine method_lstrip ?_) | (with_reducible refine method_rstrip ?_)))
local macro_rules | `(tactic| walk_at "call builtin:bytes.lstrip") => `(tactic| (k_here; k_dflt (refine' lstrip_K ?sa1 ?sa2 ?sa3 ?_; (case sa1 => kba_ints2); (case sa2 => walk_at "my_one"); (case sa3 => kba_size)); intro _ _ _ myLs))
local macro_rules | `(tactic| walk_at "call builtin:bytes.rstrip") => `(tactic| (k_here; k_dflt (refine' rstrip_K ?sa1 ?sa2 ?sa3 ?_; (case sa1 => kba_ints2); (case sa2 => assumption); (case sa3 => kba_size)); intro _ _ _ myRs))
local macro_rules | `(tactic| walk_at "binaryOp Mult bytes int") => `(tactic| (k_here; k_dflt (refine' mul_K ?sa1 ?sa2 ?sa3 ?_; (case sa1 => walk_at "my_one"); (case sa2 => kba_size); (case sa3 => kba_size)); intro _ _ _ myMu myMl))
local macro_rules | `(tactic| walk_at "callWith ref") => `(tactic| (k_here; kfb_any; k_dflt (refine' callWith_boundKW ?sa1 ?sa2 ?sa3 ?_; (case sa1 => k_asm); (case sa2 => k_mem); (case sa3 => exact rfl); k_whole)))
local macro_rules | `(tactic| walk_at "call ref") => `(tactic| (k_here; (with_reducible show wpAny _ _ (call (Value.ref _) [Value.bytes _ _] _) _ _ _); kfb_any; k_dflt (refine fb_call (by k_asm) (by k_mem) (by kba_ints2) (by kba_size) ?_); intro _ _))

theorem b_scrub (v : Array UInt8) (t1 : Tok) : Call w mean mg mb 21 1 8 [.bytes v t1] [] (fun h => True) (fun g h r => r = .bytes v t1) := by
  refine' call_of (binds := [(Str.ofString "v", .bytes v t1)]) ?k1 ?k2 ?k3 ?k4 ?k5 ?k6 ?k7 ?k8 ?_
  walk_at "my_open"
  intro dp un gd env outer base s L h₁ tk0 hD hU B X T hl F N
  k_with_none
  w_top off
  k_steps
  all_goals (try dsimp only)
  all_goals exact back_of (by assumption) rfl
end Mine
end

section
open PySem PySem.W PySem.Calls PyProof.Rows
namespace Mine
local macro_rules | `(tactic| walk_at "pad C_enc 0") => `(tactic| skip)
theorem filled_enc (w : World) : Challenge.rw_eg5004_01.row.prog = Challenge.rw_eg5004_01.row.prog ∧ hd.heap_39 w.params = hd.heap_39 w.params := by
  k_fill
  exact ⟨rfl, rfl⟩
variable (w : World) (mean : ExcName → Option Value) (mg mb : PySem.Str → Option Value)
local macro_rules | `(tactic| walk_at "my_open") => `(tactic| (
  (case k1 => k_is)
  (case k2 => k_is)
  (case k3 => (intro sX XX; first | exact BindsTo.of_eq rfl | exact binds_K XX rfl (by k_is) rfl rfl rfl))
  (case k4 => exact locs rfl)
  (case k5 => exact rfl)
  (case k6 => exact rfl)
  (case k7 => exact rfl)
  (case k8 => decide)))
local macro_rules | `(tactic| walk_at "my_one") => `(tactic| first | rfl | exact first_cut (by assumption) (by assumption))
local macro_rules | `(tactic| walk_at "getMethod bytes") => `(tactic| (k_here; first | (with_reducible refine method_lstrip ?_) | (with_reducible refine method_rstrip ?_)))
local macro_rules | `(tactic| walk_at "call builtin:bytes.lstrip") => `(tactic| (k_here; k_dflt (refine' lstrip_K ?sa1 ?sa2 ?sa3 ?_; (case sa1 => kba_ints2); (case sa2 => walk_at "my_one"); (case sa3 => kba_size)); intro _ _ _ myLs))
local macro_rules | `(tactic| walk_at "call builtin:bytes.rstrip") => `(tactic| (k_here; k_dflt (refine' rstrip_K ?sa1 ?sa2 ?sa3 ?_; (case sa1 => kba_ints2); (case sa2 => assumption); (case sa3 => kba_size)); intro _ _ _ myRs))
local macro_rules | `(tactic| walk_at "binaryOp Mult bytes int") => `(tactic| (k_here; k_dflt (refine' mul_K ?sa1 ?sa2 ?sa3 ?_; (case sa1 => walk_at "my_one"); (case sa2 => kba_size); (case sa3 => kba_size)); intro _ _ _ myMu myMl))
local macro_rules | `(tactic| walk_at "callWith ref") => `(tactic| (k_here; kfb_any; k_dflt (refine' callWith_boundKW ?sa1 ?sa2 ?sa3 ?_; (case sa1 => k_asm); (case sa2 => k_mem); (case sa3 => exact rfl); k_whole)))
local macro_rules | `(tactic| walk_at "call ref") => `(tactic| (k_here; (with_reducible show wpAny _ _ (call (Value.ref _) [Value.bytes _ _] _) _ _ _); kfb_any; k_dflt (refine fb_call (by k_asm) (by k_mem) (by kba_ints2) (by kba_size) ?_); intro _ _))
theorem b_encode_int (b : Array UInt8) (al : List Int) (hk : KBw.bInts b = al) (hal : al.length = 58) (t t1 : Tok) (d : Bool) (i0 : Int) (h0 : 0 ≤ i0) (h1 : i0 < 2 ^ 100) :
    Call w mean mg mb 29 1 8 [.int i0 t1, .bool d, .bytes b t] [] (fun h => True) (fun g h v => ∃ (b' : Array UInt8) (t' : Tok) (out : List Int), v = .bytes b' t' ∧ KBw.bInts b' = out ∧ out.length ≤ 100 ∧ EncOut al d i0 out) := by
  refine' call_of (binds := [(Str.ofString "i", .int i0 t1), (Str.ofString "default_one", .bool d), (Str.ofString "alphabet", .bytes b t)]) ?k1 ?k2 ?k3 ?k4 ?k5 ?k6 ?k7 ?k8 ?_
  walk_at "my_open"
  intro dp un gd env outer base s L h₁ tk0 hD hU B X T hl F N
  k_with_none
  (k_with "exec While Name cons nil" => k_while (fun _ i string => KBw.bInts string = Id8 string ∧ EncInv al i0 i (Id8 string) ∧ 0 ≤ i ∧ i ≤ i0 ∧ (Id8 string).length ≤ 100) (fun _ i _ => i.toNat) "i" "string")
  (k_with "state" => first | exact enc_start (by assumption) | exact enc_turn (by assumption) (by assumption) (by assumption) (by assumption) (by assumption) (by assumption) (by assumption))
  (k_with "measure" => exact enc_less (by assumption) (by assumption) (by assumption))
  w_top off
  k_steps
  all_goals (try dsimp only)
  all_goals refine back_of (by assumption) ?_
  · exact enc_end (by assumption) (by assumption) (by assumption) (fun e => absurd e.1 (by assumption))
  · exact enc_end0 (by assumption) (by assumption) (by assumption) (by assumption)
  · exact enc_end (by assumption) (by assumption) (by assumption) (fun e => by simp_all)
theorem b_encode_int_kw (b : Array UInt8) (al : List Int) (hk : KBw.bInts b = al) (hal : al.length = 58) (t t1 : Tok) (d : Bool) (i0 : Int) (h0 : 0 ≤ i0) (h1 : i0 < 2 ^ 100) :
    Call w mean mg mb 29 1 8 [.int i0 t1] [(Str.ofString "default_one", .bool d), (Str.ofString "alphabet", .bytes b t)] (fun h => True) (fun g h v => ∃ (b' : Array UInt8) (t' : Tok) (out : List Int), v = .bytes b' t' ∧ KBw.bInts b' = out ∧ out.length ≤ 100 ∧ EncOut al d i0 out) := by
  refine' call_of (binds := [(Str.ofString "i", .int i0 t1), (Str.ofString "default_one", .bool d), (Str.ofString "alphabet", .bytes b t)]) ?k1 ?k2 ?k3 ?k4 ?k5 ?k6 ?k7 ?k8 ?_
  walk_at "my_open"
  intro dp un gd env outer base s L h₁ tk0 hD hU B X T hl F N
  k_with_none
  (k_with "exec While Name cons nil" => k_while (fun _ i string => KBw.bInts string = Id8 string ∧ EncInv al i0 i (Id8 string) ∧ 0 ≤ i ∧ i ≤ i0 ∧ (Id8 string).length ≤ 100) (fun _ i _ => i.toNat) "i" "string")
  (k_with "state" => first | exact enc_start (by assumption) | exact enc_turn (by assumption) (by assumption) (by assumption) (by assumption) (by assumption) (by assumption) (by assumption))
  (k_with "measure" => exact enc_less (by assumption) (by assumption) (by assumption))
  w_top off
  k_steps
  all_goals (try dsimp only)
  all_goals refine back_of (by assumption) ?_
  · exact enc_end (by assumption) (by assumption) (by assumption) (fun e => absurd e.1 (by assumption))
  · exact enc_end0 (by assumption) (by assumption) (by assumption) (by assumption)
  · exact enc_end (by assumption) (by assumption) (by assumption) (fun e => by simp_all)
end Mine
end

section
open PySem PySem.W PySem.Calls PyProof.Rows
namespace Mine
theorem filled_encode (w : World) : Challenge.rw_eg5004_01.row.prog = Challenge.rw_eg5004_01.row.prog ∧ hd.heap_39 w.params = hd.heap_39 w.params := by
  k_fill
  exact ⟨rfl, rfl⟩
variable (w : World) (mean : ExcName → Option Value) (mg mb : PySem.Str → Option Value)
local macro_rules | `(tactic| walk_at "my_open") => `(tactic| (
  (case k1 => k_is)
  (case k2 => k_is)
  (case k3 => (intro sX XX; first | exact BindsTo.of_eq rfl | exact binds_K XX rfl (by k_is) rfl rfl rfl))
  (case k4 => exact locs rfl)
  (case k5 => exact rfl)
  (case k6 => exact rfl)
  (case k7 => exact rfl)
  (case k8 => decide)))
local macro_rules | `(tactic| walk_at "my_one") => `(tactic| first | exact ints_zero | exact first_cut (by assumption) (by assumption) | rfl)
local macro_rules | `(tactic| walk_at "getMethod bytes") => `(tactic| (k_here; first | (with_reducible refine method_lstrip ?_) | (with_reducible refine method_rstrip ?_)))
local macro_rules | `(tactic| walk_at "call builtin:bytes.lstrip") => `(tactic| (k_here; k_dflt (refine' lstrip_K ?sa1 ?sa2 ?sa3 ?_; (case sa1 => kba_ints2); (case sa2 => walk_at "my_one"); (case sa3 => kba_size)); intro _ _ _ myLs; have myLl := lstrip_len myLs))
local macro_rules | `(tactic| walk_at "call builtin:bytes.rstrip") => `(tactic| (k_here; k_dflt (refine' rstrip_K ?sa1 ?sa2 ?sa3 ?_; (case sa1 => kba_ints2); (case sa2 => assumption); (case sa3 => kba_size)); intro _ _ _ myRs))
local macro_rules | `(tactic| walk_at "binaryOp Mult bytes int") => `(tactic| (k_here; k_dflt (refine' mul_K ?sa1 ?sa2 ?sa3 ?_; (case sa1 => walk_at "my_one"); (case sa2 => kba_size); (case sa3 => kba_size)); intro _ _ _ myMu myMl))
local macro_rules | `(tactic| walk_at "callWith ref") => `(tactic| (k_here; kfb_any; k_dflt (refine' callWith_boundKW ?sa1 ?sa2 ?sa3 ?_; (case sa1 => k_asm); (case sa2 => k_mem); (case sa3 => exact rfl); k_whole)))
local macro_rules | `(tactic| walk_at "call ref") => `(tactic| (k_here; (with_reducible show wpAny _ _ (call (Value.ref _) [Value.bytes _ _] _) _ _ _); kfb_any; k_dflt (refine fb_call (by k_asm) (by k_mem) (by kba_ints2) (by kba_size) ?_); intro _ _ myV0 myV1))

local macro_rules | `(tactic| walk_at "my_use") => `(tactic| (
  (case ua1 => k_asm); (case ua2 => k_asm); (case ua3 => k_asm); (case ua4 => k_asm); (case ua5 => k_asm); (case ua6 => exact rfl); (case ua7 => exact rfl); (case ua8 => omega); (case ua9 => omega)))
local macro_rules | `(tactic| walk_at "my_after") => `(tactic| ((try dsimp only); (try k_fold); (try k_sweep)))
local macro_rules | `(tactic| walk_at "call ref") => `(tactic| (k_here; (with_reducible show wpAny _ _ (call (Value.ref 21) _ _) _ _ _); k_dflt (refine' use_call (b_scrub _ _ _ _ _ _) ?ua1 ?ua2 ?ua3 ?ua4 ?ua5 ?ua6 ?ua7 ?ua8 ?ua9 ?uap ?_; walk_at "my_use"; (case uap => trivial)); intro _ _ _ F' N' kK' hP'; subst hP'; walk_at "my_after"))
local macro_rules | `(tactic| walk_at "call ref") => `(tactic| (k_here; (with_reducible show wpAny _ _ (call (Value.ref 29) [_] _) _ _ _); k_dflt (refine' use_call (b_encode_int_kw _ _ _ _ _ _ ?uh1 ?uh2 _ _ _ _ ?uh3 ?uh4) ?ua1 ?ua2 ?ua3 ?ua4 ?ua5 ?ua6 ?ua7 ?ua8 ?ua9 ?uap ?_; walk_at "my_use"; (case uap => trivial); (case uh1 => assumption); (case uh2 => assumption); (case uh3 => assumption); (case uh4 => assumption)); intro _ _ _ F' N' kK' hP'; obtain ⟨b', t', out', eP', hO', hL', hP'⟩ := hP'; subst eP'; walk_at "my_after"))

theorem b_encode (v b : Array UInt8) (ks al : List Int) (hv : KBw.bInts v = ks) (hk : KBw.bInts b = al) (hal : al.length = 58) (t t1 : Tok) (hlen : ks.length ≤ 11) :
    Call w mean mg mb 37 2 16 [.bytes v t1, .bytes b t] [] (fun h => True) (fun g h v => ∃ (b' : Array UInt8) (t' : Tok) (o : List Int), v = .bytes b' t' ∧ KBw.bInts b' = o ∧ o.length ≤ 200 ∧ EncodeIs al ks o) := by
  refine' call_of (binds := [(Str.ofString "v", .bytes v t1), (Str.ofString "alphabet", .bytes b t)]) ?k1 ?k2 ?k3 ?k4 ?k5 ?k6 ?k7 ?k8 ?_
  walk_at "my_open"
  intro dp un gd env outer base s L h₁ tk0 hD hU B X T hl F N
  k_with_none
  w_top off
  k_steps
  all_goals (try dsimp only)
  all_goals refine back_of (by assumption) ?_
  exact encode_end (by assumption) (by assumption) (by omega) (by assumption)
end Mine
end

section
open PySem PySem.W PySem.Calls PyProof.Rows
namespace Mine
theorem call_ofC {w : World} {mean : ExcName → Option Value} {mg mb : PySem.Str → Option Value}
    {name qual : PySem.Str} {params : Arguments} {body : List Stmt} {scope : Scope} {dV kV doc pm cdv ct oc : Value} {an od : Option Addr} {osl : Array (Option Value)} {f : Addr} {D U : Nat} {pos : List Value} {kw : List (PySem.Str × Value)} {binds : List (PySem.Str × Value)}
    {pre : Heap → Prop} {post : Heap → Heap → Value → Prop}
    (ho : (hd.heap_39 w.params).lookup f = some ⟨oc, od, .func (fnOf name qual params body scope dV kV doc pm an cdv ct), osl⟩) (hcd : codeIn (hd.heap_39 w.params) cdv qual = true)
    (hbind : ∀ s : Shared, (hd.heap_39 w.params).In s.heap → BindsTo s (fnOf name qual params body scope dV kV doc pm an cdv ct) ⟨pos, kw⟩ binds)
    (hkind : ∀ n, ∀ x ∈ binds, scope.names.lookup x.1 = some .local ∨ (scope.names.lookup x.1 = some .cell ∧ ((cellsFrom n scope.names []).lookup x.1).isSome = true))
    (hnd : ((cellsFrom 0 scope.names []).map (·.1)).Nodup)
    (hco : scope.isCoroutine = false) (hgen : scope.isGenerator = false) (hk : scope.kind = .function)
    (h : ∀ (dp un : Nat) (gd : Option (List Code)) (env : Env) (outer : List Env) (base : Heap) (s : Shared) (L : Addr) (h₁ : Heap) (tk : Nat) (cells : List (Addr × Obj)),
      dp + D < recursionLimit → un + U < cLine → Below (Ard dp un gd env outer) base (env :: outer) s.heap → (hd.heap_39 w.params).In s.heap → Top hd.view_39 (looseW hd.view_39 LS) mean mg mb s.heap → pre s.heap →
      Fr s.heap L h₁ (bindL (envOfC qual scope L f cdv).kindOf binds fun _ => none) → News s.heap L h₁ cells →
      CellsAre (bindC (envOfC qual scope L f cdv).kindOf binds fun _ => none) (cellsFrom (L + 1) scope.names []) cells →
      wpAny (model PP w) ((Ard dp un gd env outer).deeper (envOfC qual scope L f cdv)) (execs body (envOfC qual scope L f cdv))
        (Back s.heap s (post s.heap)) (fun _ _ => False) { s with heap := h₁, toks := tk }) : Call w mean mg mb f D U pos kw pre post := by
  intro dp un gd env outer base s Q E hD hU B X T hpre hQ
  refine wpAny_call ?_
  refine codeAny_call_function (fd := fnOf name qual params body scope dV kV doc pm an cdv ct) (Nat.lt_of_le_of_lt (Nat.le_add_right _ _) hD) (X _ _ ho) rfl hco hgen rfl (codeRec_of X hcd) (hbind s X _ _ _ _ ?_)
  refine wpAny_newFunctionEnv_cells hk (hkind _) fun env' he s' x => ?_
  subst he
  refine ⟨T.nolimit.keeps x.toInCall.keep, codeAny_func ?_⟩
  obtain ⟨h₁, tk, rfl, _⟩ := x.done
  have hk₁ := x.toInCall.keep
  obtain ⟨cells, NC, Y⟩ := Cl.news (h₀ := s.heap) (Nat.le_refl _) fun n c hm => ⟨x.cell n c (lookup_of_mem_nodup (cellsFrom_names scope.names 0 (s.heap.objs.size + 1) [] [] rfl ▸ hnd) hm), x.above n c hm⟩
  refine wpAny_mono (h dp un gd env outer base s _ h₁ tk cells hD hU B X T hpre ⟨x.toInCall.ns, hk₁, Nat.le_refl _⟩ NC Y) (fun fl s' hl => ?_) fun _ _ y => y.elim
  obtain ⟨h', tk', rfl, hk', hp⟩ := hl
  exact hQ _ h' tk' hk' hp
theorem kinds_of' {scope : Scope} {binds : List (PySem.Str × Value)} (hkind : (binds.all fun y => scope.names.lookup y.1 == some .local || scope.names.lookup y.1 == some .cell) = true) :
    ∀ n, ∀ x ∈ binds, scope.names.lookup x.1 = some .local ∨ (scope.names.lookup x.1 = some .cell ∧ ((cellsFrom n scope.names []).lookup x.1).isSome = true) := kindsX hkind
end Mine
end

section
open PySem PySem.W PySem.Calls PyProof.Rows PyProof.V PySem.Spec
namespace Mine
section
open Builtin
variable {prog : Program} {w : World} {A : Around} {E : Value → Shared → Prop} {s : Shared} {b : Array UInt8} {t : Tok}

theorem nextOf_bytes_item {it : Addr} {i : Nat} {c : UInt8} {Q : Value → Shared → Prop} (hit : KBw.IsBytesIter s.heap it b t i) (hx : b[i]? = some c)
    (hQ : ∀ h', KBw.IsBytesIter h' it b t (i + 1) → Heap.SameBut it s.heap h' → Q (.int (c.toNat : Int) s.toks) { s with heap := h', toks := s.toks + 1 }) : wpAny (model prog w) A (Builtin.SmallTypes.nextOf (.ref it)) Q E s := by
  obtain ⟨o, ho, hc, hd⟩ := id hit
  unfold Builtin.SmallTypes.nextOf
  refine wpAny_bind (wpAny_callSpecial?_slot (name := PySem.Str.ofString "__next__") (KBw.iter_typeIs hit) KBw.slot_next
    (wpAny_call_entry KBw.slot_next (KBw.iter_typeIs hit) KBw.entry_next ?_ (KBw.args_next _)))
  show wpAny _ _ (field (.ref it) 0 >>= _) _ _ s
  refine wpAny_bind (wpAny_field ho hd (x := .bytes b t) rfl ?_)
  show wpAny _ _ (if (Value.bytes b t == Value.none) = true then _ else _) _ _ s
  rw [if_neg (show ¬ ((Value.bytes b t == Value.none) = true) from Bool.false_ne_true)]
  show wpAny _ _ (field (.ref it) 1 >>= _) _ _ s
  refine wpAny_bind (wpAny_field ho hd (x := .int i 0) rfl ?_)
  refine wpAny_bind (wpAny_of_eq (a := b) rfl ?_)
  simp only [Int.toNat_natCast, hx]
  refine wpAny_bind (wpAny_setField ho hd (by simp) (wpAny_bind (wpAny_mkInt (wpAny_pure ⟨_, rfl, wpAny_pure (hQ _ ?_ (Heap.SameBut.update ..))⟩))))
  exact ⟨_, Heap.get?_update_self _ ho (Obj.isFreed_of_fields (Obj.data_mapFields hd _)), (Obj.cls_mapFields ..).trans hc, by
    rw [Obj.data_mapFields hd]; simp [rawInt]⟩

theorem nextOf_bytes_end {it : Addr} {i : Nat} {Q : Value → Shared → Prop} (hh : A.handled = none) (hit : KBw.IsBytesIter s.heap it b t i) (hx : b[i]? = none)
    (hE : ∀ h' e, Heap.ExtBut it s.heap h' → (∃ o, h'.get? e = some o ∧ o.cls = .type "StopIteration") → E (.ref e) { s with heap := h' }) : wpAny (model prog w) A (Builtin.SmallTypes.nextOf (.ref it)) Q E s := by
  obtain ⟨o, ho, hc, hd⟩ := id hit
  unfold Builtin.SmallTypes.nextOf
  refine wpAny_bind (wpAny_callSpecial?_slot (name := PySem.Str.ofString "__next__") (KBw.iter_typeIs hit) KBw.slot_next
    (wpAny_call_entry KBw.slot_next (KBw.iter_typeIs hit) KBw.entry_next ?_ (KBw.args_next _)))
  show wpAny _ _ (field (.ref it) 0 >>= _) _ _ s
  refine wpAny_bind (wpAny_field ho hd (x := .bytes b t) rfl ?_)
  show wpAny _ _ (if (Value.bytes b t == Value.none) = true then _ else _) _ _ s
  rw [if_neg (show ¬ ((Value.bytes b t == Value.none) = true) from Bool.false_ne_true)]
  show wpAny _ _ (field (.ref it) 1 >>= _) _ _ s
  refine wpAny_bind (wpAny_field ho hd (x := .int i 0) rfl ?_)
  refine wpAny_bind (wpAny_of_eq (a := b) rfl ?_)
  simp only [Int.toNat_natCast, hx]
  refine wpAny_bind (wpAny_rule (wpAny_bind (wpAny_setField ho hd (by simp) ?_)))
  show wpAny _ _ (newExc (.type "StopIteration") [] >>= _) _ _ _
  refine wpAny_bind ?_
  simp only [newExc, newTuple]
  refine wpAny_bind (wpAny_newObj_type ?_ (by size_fits))
  refine wpAny_bind (m := firstArgMember _ _) (wpAny_of_eq (a := Value.none) (by first | rfl | (simp only [firstArgMember]; rfl)) ?_)
  refine wpAny_newObj_type ?_ (by size_fits)
  simp only [raiseNew]
  refine wpAny_bind (wpAny_handled ?_)
  first | rw [show A.in1.handled = none from hh] | rw [hh]
  refine wpAny_bind (wpAny_pure (wpAny_throw ?_))
  exact hE _ _ (((Heap.SameBut.update ..).extBut.push _).push _) ⟨_, Heap.get?_push_size _ rfl, rfl⟩

theorem bytesIter_extBut {h h' : Heap} {it e : Addr} {i : Nat} (x : KBw.IsBytesIter h it b t i) (hx : Heap.ExtBut e h h') (hne : it ≠ e) : KBw.IsBytesIter h' it b t i := by
  obtain ⟨o, ho, r⟩ := x
  exact ⟨o, hx it o hne ho, r⟩

theorem enumB_next_item {e it : Addr} {i : Nat} {c : UInt8} {old : Value} {Q : Value → Shared → Prop}
    (he : IsEnum s.heap e it i old) (hit : KBw.IsBytesIter s.heap it b t i) (hx : b[i]? = some c) (hne : e ≠ it)
    (hQ : ∀ h' u v tk, IsEnumOut h' e it ((i : Int) + 1) (.int (c.toNat : Int) v) s.heap.objs.size → KBw.IsBytesIter h' it b t (i + 1) →
      h'.get? s.heap.objs.size = some { cls := .type "tuple", data := .seq #[.int i u, .int (c.toNat : Int) v] } → h'.objs.size = s.heap.objs.size + 1 →
      (∀ b o, b ≠ e → b ≠ it → s.heap.get? b = some o → h'.get? b = some o) → Q (.ref s.heap.objs.size) { s with heap := h', toks := tk }) :
    wpAny (model prog w) A (Builtin.«enumerate.__next__» ⟨[.ref e], []⟩) (fun fin s' => ∃ v, fin = .done (.ret v) ∧ Q v s') E s := by
  obtain ⟨hp, g, d, tk, os⟩ := s
  show wpAny _ _ (field (.ref e) 2 >>= _) _ _ _
  refine wpAny_bind (wpAny_field he rfl (x := .ref it) rfl ?_)
  refine wpAny_bind (nextOf_bytes_item hit hx fun h₁ hit₁ hs₁ => ?_)
  replace hs₁ : Heap.SameBut it hp h₁ := hs₁
  have he₁ : IsEnum h₁ e it i old := (hs₁.2 e hne).trans he
  show wpAny _ _ (field (.ref e) 3 >>= _) _ _ ⟨h₁, g, d, tk + 1, os⟩
  refine wpAny_bind (wpAny_field he₁ rfl (x := rawInt i) rfl ?_)
  show wpAny _ _ (field (.ref e) 4 >>= _) _ _ ⟨h₁, g, d, tk + 1, os⟩
  refine wpAny_bind (wpAny_field he₁ rfl (x := .none) rfl ?_)
  show wpAny _ _ (mkInt i >>= _) _ _ ⟨h₁, g, d, tk + 1, os⟩
  refine wpAny_bind (wpAny_mkInt ?_)
  show wpAny _ _ (setField (.ref e) 3 (rawInt ((i : Int) + 1)) >>= _) _ _ ⟨h₁, g, d, tk + 1 + 1, os⟩
  refine wpAny_bind (wpAny_setField_rec he₁ (by simp) fun h₂ he₂ hs₂ => ?_)
  replace hs₂ : Heap.SameBut e h₁ h₂ := hs₂
  replace he₂ : IsEnum h₂ e it ((i : Int) + 1) old := he₂
  show wpAny _ _ (setField (.ref e) 4 .none >>= _) _ _ ⟨h₂, g, d, tk + 1 + 1, os⟩
  refine wpAny_bind (wpAny_setField_rec he₂ (by simp) fun h₃ he₃ hs₃ => ?_)
  replace hs₃ : Heap.SameBut e h₂ h₃ := hs₃
  replace he₃ : IsEnum h₃ e it ((i : Int) + 1) old := he₃
  show wpAny _ _ (newTuple [.int i (tk + 1), .int (c.toNat : Int) tk] >>= _) _ _ ⟨h₃, g, d, tk + 1 + 1, os⟩
  refine wpAny_bind (wpAny_newTuple ?_)
  have he₄ : IsEnum (h₃.push { cls := .type "tuple", data := .seq #[.int i (tk + 1), .int (c.toNat : Int) tk] }) e it ((i : Int) + 1) old := Heap.get?_push_of_some _ he₃
  generalize hh₄ : h₃.push { cls := .type "tuple", data := .seq #[.int i (tk + 1), .int (c.toNat : Int) tk] } = h₄ at he₄
  have hsz : h₃.objs.size = hp.objs.size := by rw [hs₃.1, hs₂.1, hs₁.1]
  have hel : e < hp.objs.size := Heap.lt_size he
  have ht₄ : h₄.get? hp.objs.size = some { cls := .type "tuple", data := .seq #[.int i (tk + 1), .int (c.toNat : Int) tk] } := by rw [← hh₄, ← hsz]; exact Heap.get?_push_size _ rfl
  have hz₄ : h₄.objs.size = hp.objs.size + 1 := by rw [← hh₄, Heap.size_push, hsz]
  have hk₄ : ∀ b o, b ≠ e → b ≠ it → hp.get? b = some o → h₄.get? b = some o := fun b o hbe hbi hb => by
    rw [← hh₄]; exact Heap.get?_push_of_some _ (hs₃.extBut b o hbe (hs₂.extBut b o hbe (hs₁.extBut b o hbi hb)))
  have hit₄ : KBw.IsBytesIter h₄ it b t (i + 1) := by
    rw [← hh₄]; obtain ⟨o, ho, r⟩ := bytesIter_extBut (bytesIter_extBut hit₁ hs₂.extBut (Ne.symm hne)) hs₃.extBut (Ne.symm hne); exact ⟨o, Heap.get?_push_of_some _ ho, r⟩
  show wpAny _ _ (Builtin.SmallTypes.ownedTupleIsFree (.ref e) >>= _) _ _ ⟨h₄, g, d, tk + 1 + 1, os⟩
  rw [hsz]
  clear hh₄ he₃ hs₃ he₂ hs₂ he₁ hs₁ hit₁ hsz h₃ h₂ h₁
  refine wpAny_bind ?_
  · unfold Builtin.SmallTypes.ownedTupleIsFree
    refine wpAny_bind (wpAny_field he₄ rfl (x := .none) rfl (wpAny_pure ?_))
    simp only [if_true]
    refine wpAny_bind (wpAny_rule ?_)
    refine wpAny_bind (wpAny_field he₄ rfl (x := old) rfl ?_)
    refine wpAny_bind (wpAny_setField_rec he₄ (by simp) fun h₅ he₅ hs₅ => ?_)
    replace hs₅ : Heap.SameBut e h₄ h₅ := hs₅
    replace he₅ : IsEnum h₅ e it ((i : Int) + 1) (.int (c.toNat : Int) tk) := he₅
    show wpAny _ _ (Builtin.SmallTypes.ownedTupleHandOut (.ref e) (.ref hp.objs.size) >>= _) _ _ ⟨h₅, g, d, tk + 1 + 1, os⟩
    refine wpAny_bind ?_
    · unfold Builtin.SmallTypes.ownedTupleHandOut
      refine wpAny_bind (wpAny_setField_rec he₅ (by simp) fun h₆ he₆ hs₆ => ?_)
      replace hs₆ : Heap.SameBut e h₅ h₆ := hs₆
      replace he₆ : IsEnumOut h₆ e it ((i : Int) + 1) (.int (c.toNat : Int) tk) hp.objs.size := he₆
      refine wpAny_setField_rec he₆ (by simp) fun h₇ he₇ hs₇ => ?_
      replace hs₇ : Heap.SameBut e h₆ h₇ := hs₇
      replace he₇ : IsEnumOut h₇ e it ((i : Int) + 1) (.int (c.toNat : Int) tk) hp.objs.size := he₇
      refine wpAny_bind (wpAny_letGo (wpAny_pure ⟨_, rfl, hQ h₇ (tk + 1) tk (tk + 1 + 1) he₇ ?_ ?_ ?_ ?_⟩))
      · exact bytesIter_extBut (bytesIter_extBut (bytesIter_extBut hit₄ hs₅.extBut (Ne.symm hne)) hs₆.extBut (Ne.symm hne)) hs₇.extBut (Ne.symm hne)
      · exact hs₇.extBut _ _ (Nat.ne_of_gt hel) (hs₆.extBut _ _ (Nat.ne_of_gt hel) (hs₅.extBut _ _ (Nat.ne_of_gt hel) ht₄))
      · rw [hs₇.1, hs₆.1, hs₅.1, hz₄]
      · exact fun b o hbe hbi hb => hs₇.extBut b o hbe (hs₆.extBut b o hbe (hs₅.extBut b o hbe (hk₄ b o hbe hbi hb)))

theorem pyNext_enumB_item {e it : Addr} {i : Nat} {c : UInt8} {old : Value} {Q : Option Value → Shared → Prop}
    (he : IsEnum s.heap e it i old) (hit : KBw.IsBytesIter s.heap it b t i) (hx : b[i]? = some c) (hne : e ≠ it)
    (hQ : ∀ h' u v tk, IsEnumOut h' e it ((i : Int) + 1) (.int (c.toNat : Int) v) s.heap.objs.size → KBw.IsBytesIter h' it b t (i + 1) →
      h'.get? s.heap.objs.size = some { cls := .type "tuple", data := .seq #[.int i u, .int (c.toNat : Int) v] } → h'.objs.size = s.heap.objs.size + 1 →
      (∀ b o, b ≠ e → b ≠ it → s.heap.get? b = some o → h'.get? b = some o) → Q (some (.ref s.heap.objs.size)) { s with heap := h', toks := tk }) :
    wpAny (model prog w) A (pyNext (.ref e)) Q E s := by
  have hT : s.TypeIs (.ref e) "enumerate" := ⟨_, he, rfl⟩
  unfold pyNext
  exact wpAny_bind (wpAny_attempt (wpAny_callSpecial?_slot (name := Str.ofString "__next__") hT F.slot_enumerate_next
    (wpAny_call_entry F.slot_enumerate_next hT F.entry_enumerate_next
      (enumB_next_item he hit hx hne fun h' u v tk a b c d k => wpAny_pure (hQ h' u v tk a b c d k)) (F.args_enumerate_next_1 _))))

theorem pyNext_enumB_end {e it : Addr} {i : Nat} {old : Value} {Q : Option Value → Shared → Prop} (hh : A.handled = none)
    (he : IsEnum s.heap e it i old) (hit : KBw.IsBytesIter s.heap it b t i) (hx : b[i]? = none)
    (hQ : ∀ h', Heap.ExtBut it s.heap h' → Q none { s with heap := h' }) : wpAny (model prog w) A (pyNext (.ref e)) Q E s := by
  have hT : s.TypeIs (.ref e) "enumerate" := ⟨_, he, rfl⟩
  unfold pyNext
  refine wpAny_bind (wpAny_attempt (wpAny_callSpecial?_slot (name := Str.ofString "__next__") hT F.slot_enumerate_next
    (wpAny_call_entry F.slot_enumerate_next hT F.entry_enumerate_next ?_ (F.args_enumerate_next_1 _))))
  show wpAny _ _ (field (.ref e) 2 >>= _) _ _ _
  refine wpAny_bind (wpAny_field he rfl (x := .ref it) rfl ?_)
  refine wpAny_bind (nextOf_bytes_end hh hit hx fun h' x he' hx' => ?_)
  obtain ⟨o, ho, hc⟩ := hx'
  refine wpAny_bind (wpAny_isInstance (T := "StopIteration") (b := true) ⟨o, ho, hc⟩ isSubtype_stop ?_)
  exact wpAny_pure (hQ _ he')

theorem meets_enumB_new (b : Array UInt8) (t : Tok) :
    Meets (Builtin.«enumerate.__new__» ⟨[.type "enumerate", .bytes b t], []⟩) (fun _ R s =>
      R (.ok (.ret (.ref (s.heap.push { cls := .type "bytes_iterator", data := .fields #[.bytes b t, .int 0 0] }).objs.size)))
        { s with heap := (s.heap.push { cls := .type "bytes_iterator", data := .fields #[.bytes b t, .int 0 0] }).push { cls := .type "enumerate", data := .fields #[.none, .bool false, .ref s.heap.objs.size, rawInt 0, .none, .none] } }) :=
  .of_wp fun prog w A R s h => by
    obtain ⟨hp, g, d, tk, os⟩ := s
    have hsub := sub_enumerate
    wp_walk using KBw.pyIter_bytes
    refine wpAny_stack_any fun st => wpAny_pure ?_
    split
    · rename_i c _ _ _ _ _
      cases (c == Value.type "enumerate")
      · wp_walk using KBw.pyIter_bytes
        exact ⟨_, rfl, h⟩
      · wp_walk using KBw.pyIter_bytes
        exact ⟨_, rfl, h⟩
    · wp_walk using KBw.pyIter_bytes
      exact ⟨_, rfl, h⟩
end
end Mine
end

section
open PySem PySem.W PySem.Calls PyProof.Rows PyProof.V PySem.Spec
namespace Mine
section
variable {prog : Program} {w : World} {A : Around} {E : Value → Shared → Prop} {R : Result → Shared → Prop} {s : Shared} {b : Array UInt8} {t : Tok}

def upd (f : Int → Option Int) (c v : Int) : Int → Option Int := fun x => if x = c then some v else f x
def idxFrom (f : Int → Option Int) (k : Int) : List Int → Int → Option Int
  | [] => f
  | c :: r => idxFrom (upd f c k) (k + 1) r
def idx (al : List Int) : Int → Option Int := idxFrom (fun _ => none) 0 al
theorem idxFrom_snoc (l : List Int) (c : Int) : ∀ (f : Int → Option Int) (k : Int), idxFrom f k (l ++ [c]) = upd (idxFrom f k l) c (k + l.length) := by
  induction l with
  | nil => intro f k; simp [idxFrom]
  | cons a l ih => intro f k; simp only [List.cons_append, idxFrom, ih, List.length_cons]; congr 1; omega
theorem idx_snoc (l : List Int) (c : Int) : idx (l ++ [c]) = upd (idx l) c l.length := by rw [idx, idxFrom_snoc]; simp [idx]

def Maps (T : List (PyData × PyData)) (f : Int → Option Int) : Prop := ∀ c : Int, lookup (.int c) T = (f c).map PyData.int
theorem Maps.put {T : List (PyData × PyData)} {f : Int → Option Int} (M : Maps T f) (c v : Int) : Maps (putD (.int c) (.int v) T) (upd f c v) := by
  intro x
  rw [lookup_putD_int, M x, upd]
  split <;> rfl
theorem Maps.nil : Maps [] (fun _ => none) := fun _ => rfl

def DictI (prog : Program) (w : World) (n : Nat) (f : Int → Option Int) (o : Obj) : Prop := ∃ kvs T, o.IsDictOf (intKind prog w) kvs ∧ FlatPairs PyData.int kvs T ∧ Maps T f ∧ T.length ≤ n

theorem call_enumB {Q : Value → Shared → Prop}
    (h : ∀ h', IsEnum h' (s.heap.objs.size + 1) s.heap.objs.size 0 .none → KBw.IsBytesIter h' s.heap.objs.size b t 0 → h'.objs.size = s.heap.objs.size + 2 →
      (∀ b o, s.heap.get? b = some o → h'.get? b = some o) → Q (.ref (s.heap.objs.size + 1)) { s with heap := h' }) :
    wpAny (model prog w) A (call (.type "enumerate") [.bytes b t]) Q E s := by
  refine callType_new F.called_enumerate (by decide) (F.typeCall_enumerate_1 _) (F.newCall_enumerate_1 _) (fun obj => F.args_object_init_2 obj _) F.entry_enumerate_new
    (meets_enumB_new b t) ?_
  have hz : (s.heap.push { cls := .type "bytes_iterator", data := .fields #[.bytes b t, .int 0 0] }).objs.size = s.heap.objs.size + 1 := Heap.size_push ..
  show _ ∧ _
  rw [hz]
  have he : IsEnum ((s.heap.push { cls := .type "bytes_iterator", data := .fields #[.bytes b t, .int 0 0] }).push
      { cls := .type "enumerate", data := .fields #[.none, .bool false, .ref s.heap.objs.size, rawInt 0, .none, .none] }) (s.heap.objs.size + 1) s.heap.objs.size 0 .none := by
    have := Heap.get?_push_size (s.heap.push { cls := .type "bytes_iterator", data := .fields #[.bytes b t, .int 0 0] })
      (o := { cls := .type "enumerate", data := .fields #[.none, .bool false, .ref s.heap.objs.size, rawInt 0, .none, .none] }) rfl
    rw [hz] at this; exact this
  refine ⟨⟨_, he, rfl⟩, h _ he ⟨_, Heap.get?_push_of_some _ (Heap.get?_push_size _ rfl), rfl, rfl⟩ (by rw [Heap.size_push, hz]) fun b o x => Heap.get?_push_of_some _ (Heap.get?_push_of_some _ x)⟩

theorem compLoopD {kx vx target iter : Expr} {scope : Scope} {pos : Pos} {it : Value} {D : Addr} {env : Env} (I : Nat → Shared → Prop)
    (turn : ∀ n s, I n s → wpAny (model prog w) A (pyNext it) (fun r s₁ => match r with
      | none => R (.ok .next) s₁
      | some v => wpAny (model prog w) A (letOwnedTupleGo target it v) (fun _ s₀ => wpAny (model prog w) A (assign target env v) (fun _ s₂ =>
            wpAny (model prog w) A (eval kx env) (fun kv s₄ => wpAny (model prog w) A (eval vx env) (fun vv s₅ =>
              wpAny (model prog w) A (dictSet D kv vv) (fun _ s₆ => ∃ m, m < n ∧ I m s₆) (notedBy (model prog w) A env fun e s' => R (.error e) s') s₅) (notedBy (model prog w) A env fun e s' => R (.error e) s') s₄) (notedBy (model prog w) A env fun e s' => R (.error e) s') s₂)
            (notedBy (model prog w) A env fun e s' => R (.error e) s') s₀) (notedBy (model prog w) A env fun e s' => R (.error e) s') s₁) (notedBy (model prog w) A env fun e s' => R (.error e) s') s)
    (n : Nat) (h : I n s) :
    codeAny (model prog w) A (.compLoop (.DictComp kx vx [⟨target, iter, [], 0⟩] scope pos) 0 it (.ref D) env) R s := by
  refine codeAny_loop rfl I (fun n s hI => ?_) n h
  show wpAny _ A ((compTurn (.DictComp kx vx [⟨target, iter, [], 0⟩] scope pos) 0 it (.ref D) env).onRaise (fun x => do noteFrame x env; theTreesLotGoes x)) _ _ s
  refine wpAny_noted ?_
  rw [compTurn_dict]
  refine wpAny_bind (wpAny_standAt (wpAny_bind (wpAny_mono (turn n s hI) (fun r s₁ h₁ => ?_) fun _ _ h' => h')))
  cases r with
  | none => exact wpAny_pure h₁
  | some v =>
    refine wpAny_bind (wpAny_mono h₁ (fun _ s₀ h₀' => ?_) fun _ _ h' => h')
    refine wpAny_bind (wpAny_mono h₀' (fun _ s₂ h₂ => ?_) fun _ _ h' => h')
    refine wpAny_bind (wpAny_tests_nil ?_)
    exact wpAny_bind (wpAny_bind (wpAny_mono h₂ (fun kv s₄ h₄ => wpAny_bind (wpAny_holding (wpAny_mono h₄ (fun vv s₅ h₅ => wpAny_bind (wpAny_standAt (wpAny_holding (wpAny_mono h₅ (fun _ s₆ h₆ => wpAny_pure ⟨rfl, h₆⟩) fun _ _ h' => h')))) fun _ _ h' => h'))) fun _ _ h' => h'))

theorem dictI_set {n : Nat} {f : Int → Option Int} {o : Obj} {D : Addr} {c v : Int} {tc tv : Tok} {Q : Unit → Shared → Prop} (ho : s.heap.get? D = some o) (hd : DictI prog w n f o) (hn : n ≤ 1000)
    (h : ∀ h' o', h'.get? D = some o' → DictI prog w (n + 1) (upd f c v) o' → Heap.SameBut D s.heap h' → ∀ tk, Q () { s with heap := h', toks := tk }) :
    wpAny (model prog w) A (dictSet D (.int c tc) (.int v tv)) Q E s := by
  obtain ⟨kvs, T, hk, hf, M, hl⟩ := hd
  refine wpAny_dictSet_pairs (knd := intKind prog w) (k := c) (hsz := by rw [← hf.length]; exact Nat.le_trans (Nat.le_trans hl hn) (by rw [sizeLine_eq]; decide)) (intKind_is prog w c tc) (Heap.dictOf_iff.mpr ⟨o, ho, hk⟩) fun h₆ hl₆ hs₆ => ?_
  · obtain ⟨o', ho', hk'⟩ := Heap.dictOf_iff.mp hl₆
    refine h h₆ o' ho' ⟨_, _, hk', hf.stored same_int c (Flat.int v tv), M.put c v, Nat.le_trans (putD_length_le _ _ _) (Nat.succ_le_succ hl)⟩ hs₆ _

end

section
variable {prog : Program} {w : World} {A : Around} {E : Value → Shared → Prop} {s : Shared} {env : Env} {b : Array UInt8} {t : Tok} {h₀ : Heap} {L : Addr} {m : Str → Option Value} {news : List (Addr × Obj)}

theorem enum_dict {xi xc : Str} {p1 p2 p3 p4 p5 pos : Pos} {kk : Nat} {iter : Expr} {scope : Scope} {cl : List (Str × Addr)} {Q : Value → Shared → Prop} {al : List Int} (hal : KBw.bInts b = al) (hsz : al.length ≤ 100)
    (hh : A.handled = none) (F : Fr h₀ L s.heap m) (N : News h₀ L s.heap news) (hlim : h₀.NoLimit)
    (hclos : closureFor scope env = pure cl) (hcell : ∀ y ∈ scope.names, y.2 ≠ .cell) (hkind : scope.kind = .function)
    (hnames : ∀ y ∈ scope.names, y.2 = .local → scope.names.lookup y.1 = some .local) (hxa : scope.names.lookup xi = some .local) (hxb : scope.names.lookup xc = some .local) (hab : ¬ xi = xc)
    (hd1 : (xi == ("__debug__" : Str)) = false) (hd2 : (xc == ("__debug__" : Str)) = false)
    (hit : ∀ Q' : Value → Shared → Prop, wpAny (model prog w) A (call (.type "enumerate") [.bytes b t]) Q' E s → wpAny (model prog w) A (eval iter env) Q' E s)
    (h : ∀ D h' o tk, Fr h₀ L h' m → News h₀ L h' ((D, o) :: news) → (∀ p ∈ news, p.1 < D) → (D == sysModules) = false → DictI prog w al.length (idx al) o → Q (.ref D) { s with heap := h', toks := tk })
    (hs : ∀ x, foldedSetIterable iter env x = pure x := by intro _; rfl) :
    wpAny (model prog w) A (eval (.DictComp (.Name xc p1) (.Name xi p2) [⟨.Tuple [.Name xi p3, .Name xc p4] kk p5, iter, [], 0⟩] scope pos) env) Q E s := by
  rw [arm_eval_DictComp]
  refine wpAny_comprehension_free (use := none) rfl hs hclos hkind hnames (hit _ (call_enumB fun h₁ he₁ hi₁ hz₁ hk₁ => ?_))
  refine wpAny_pyIter_enum he₁ ?_
  have hL₁ : L < s.heap.objs.size := F.ns.lt
  have F₁ : Fr h₀ L h₁ m := F.keeps hk₁
  have N₁ : News h₀ L h₁ news := fun p hp => ⟨hk₁ _ _ (N p hp).1, (N p hp).2⟩
  have hbigN : ∀ p ∈ news, p.1 < s.heap.objs.size := fun p hp => Heap.lt_size (N p hp).1
  have fresh₀ : ∀ a, s.heap.objs.size ≤ a → h₀.get? a = none := fun a ha => by
    cases e : h₀.get? a with
    | none => rfl
    | some o' => exact absurd (Heap.lt_size (F.keep a o' e)) (Nat.not_lt.mpr ha)
  have hmods : sysModules < s.heap.objs.size := Nat.lt_of_lt_of_le (modules_low hlim) (Nat.le_of_lt (Nat.lt_of_le_of_lt F.above F.ns.lt))
  refine wpAny_newObj_type (wpAny_newFunctionEnv hcell (by intro y hy; simp at hy) (fun h₂ hns₂ hsb₂ => ?_) hkind)
  dsimp only at hns₂ hsb₂ ⊢
  have hnew : (h₁.push { cls := .type "dict", dict := none, data := .dict #[] }).DictOf (intKind prog w) h₁.objs.size [] := Heap.DictOf.new h₁
  generalize hH2 : h₁.push { cls := .type "dict", dict := none, data := .dict #[] } = H2 at hns₂ hsb₂ hnew ⊢
  have hC : H2.objs.size = s.heap.objs.size + 3 := by rw [← hH2, Heap.size_push, hz₁]
  have oldH : ∀ a o, a < h₁.objs.size → h₁.get? a = some o → H2.get? a = some o := fun a o ha e => hH2 ▸ Heap.get?_push_of_some _ e
  clear hH2
  obtain ⟨n0, hn0⟩ : ∃ n, s.heap.objs.size = n := ⟨_, rfl⟩
  obtain ⟨D, hDe⟩ : ∃ n, h₁.objs.size = n := ⟨_, rfl⟩
  obtain ⟨C, hCe⟩ : ∃ n, H2.objs.size = n := ⟨_, rfl⟩
  simp only [hn0, hDe, hCe] at hz₁ he₁ hi₁ hL₁ hbigN fresh₀ hmods hnew hC oldH hns₂ hsb₂ ⊢
  have hsx : ∀ a o, a ≠ C → H2.get? a = some o → h₂.get? a = some o := fun a o ha e => hsb₂.extBut a o ha (Heap.get?_push_of_some _ e)
  clear hsb₂
  have ltsN : ∀ a o, s.heap.get? a = some o → @LT.lt Nat instLTNat a n0 := fun a o e => hn0 ▸ Heap.lt_size e
  have hbN : ∀ p ∈ news, @LT.lt Nat instLTNat p.1 n0 := hbigN
  have hLN : @LT.lt Nat instLTNat L n0 := hL₁
  have hmN : @LT.lt Nat instLTNat sysModules n0 := hmods
  have old₁ : ∀ a o, a < D → h₁.get? a = some o → h₂.get? a = some o := fun a o ha e =>
    hsx a o (by first | omega | (show @Ne Nat _ _; omega)) (oldH a o (by first | omega | (show @Ne Nat _ _; omega)) e)
  have oldS : ∀ a o, s.heap.get? a = some o → h₂.get? a = some o := fun a o e => old₁ a o (by have := ltsN a o e; omega) (hk₁ a o e)
  obtain ⟨od, hod, hdo⟩ := Heap.dictOf_iff.mp (hnew.at (h' := h₂) fun o e => hsx _ _ (by first | omega | (show @Ne Nat _ _; omega)) e)
  have hdI : DictI prog w 0 (idx []) od := ⟨[], [], hdo, .nil, fun _ => rfl, Nat.le_refl _⟩
  have hlen : al.length = b.size := by rw [← hal, KBw.ints_length]
  refine codeAny_compStart_dict ?_ ?_
  all_goals try refine wpAny_pyIter_enum (old₁ _ _ (by first | omega | (show @Ne Nat _ _; omega)) he₁) ?_
  all_goals
    refine compLoopD
      (fun k s' => ∃ h' tk i old o mc, s' = { s with heap := h', toks := tk } ∧ i ≤ b.size ∧ k = b.size + 1 - i ∧ IsEnum h' (n0 + 1) n0 ((i : Nat) : Int) old ∧ KBw.IsBytesIter h' n0 b t i ∧
        h'.get? (D) = some o ∧ DictI prog w i (idx (al.take i)) o ∧ h'.Ns (C) mc ∧ (∀ a o, s.heap.get? a = some o → h'.get? a = some o)) ?_ (b.size + 1)
      ⟨h₂, _, 0, _, od, _, rfl, Nat.zero_le _, rfl, old₁ _ _ (by first | omega | (show @Ne Nat _ _; omega)) he₁, (let ⟨o, e, r⟩ := hi₁; ⟨o, old₁ _ _ (by first | omega | (show @Ne Nat _ _; omega)) e, r⟩), hod, by simpa using hdI, hns₂, oldS⟩
    rintro k s' ⟨h', tk, i, old, o, mc, rfl, hi, rfl, hE, hI, hD, hdI', hn', hk'⟩
    by_cases hlt : i < b.size
    · have hx : b[i]? = some b[i] := Array.getElem?_eq_getElem hlt
      generalize b[i] = c at hx
      have hci : al[i]? = some (c.toNat : Int) := by rw [← hal]; exact KBw.ints_get hx
      refine pyNext_enumB_item hE hI hx (by first | omega | (show @Ne Nat _ _; omega)) fun h₃ u v tk₃ hO₃ hI₃ hT₃ hz₃ hk₃ => ?_
      dsimp only at hO₃ hT₃ hz₃ hk₃ ⊢
      generalize hTn : h'.objs.size = Tn at *
      have hTn1 : C < Tn := hTn ▸ hn'.lt
      refine wpAny_letOwnedTupleGo_enum (s := { s with heap := h₃, toks := tk₃ }) hO₃ fun h₄ hE₄ hs₄ => ?_
      dsimp only at hs₄ ⊢
      have up₄ : ∀ a o, a ≠ n0 + 1 → a ≠ n0 → h'.get? a = some o → h₄.get? a = some o := fun a o h1 h2 e => hs₄.extBut a o h1 (hk₃ a o h1 h2 e)
      have hns4 : h₄.Ns (C) mc := hn'.at' fun o e => up₄ _ o (by first | omega | (show @Ne Nat _ _; omega)) (by first | omega | (show @Ne Nat _ _; omega)) e
      refine kcp_assign (s := { s with heap := h₄, toks := tk₃ }) (env := compEnvC scope cl (C) env) (T := Tn) hh ⟨_, hs₄.extBut _ _ (by first | omega | (show @Ne Nat _ _; omega)) hT₃, rfl, _, rfl⟩ (lookup_relabel_local hxa) (lookup_relabel_local hxb) (by simp [compEnvC, relabel, hkind]) hns4 fun h₅ tk₅ hn₅ hs₅ => ?_
      have hs₅' : ∀ a o, a ≠ C → h₄.get? a = some o → h₅.get? a = some o := hs₅
      have hn₅' : h₅.Ns (C) (fun z => if z = xc then some (Value.int (c.toNat : Int) v) else if z = xi then some (Value.int (i : Int) u) else mc z) := hn₅
      have hD₅ : h₅.get? (D) = some o := hs₅' _ _ (by first | omega | (show @Ne Nat _ _; omega)) (up₄ _ _ (by first | omega | (show @Ne Nat _ _; omega)) (by first | omega | (show @Ne Nat _ _; omega)) hD)
      refine wpAny_Name (wpAny_loadName_local (v := .int (c.toNat : Int) v) ?_ (lookup_relabel_local hxb) hn₅' (by simp) ?_) hd2
      · simp [compEnvC, relabel, hkind]
      refine wpAny_Name (wpAny_loadName_local (v := .int (i : Int) u) ?_ (lookup_relabel_local hxa) hn₅' (by simp [hab]) ?_) hd1
      · simp [compEnvC, relabel, hkind]
      refine dictI_set (s := { s with heap := h₅, toks := tk₅ }) hD₅ hdI' (by first | omega | (show @Ne Nat _ _; omega)) fun h₆ o₆ ho₆ hd₆ hs₆ tk₆ => ?_
      dsimp only at hs₆ ⊢
      have htk : al.take (i + 1) = al.take i ++ [(c.toNat : Int)] := by rw [List.take_succ, hci]; rfl
      refine ⟨b.size + 1 - (i + 1), by omega, h₆, tk₆, i + 1, _, o₆, _, rfl, hlt, rfl, hs₆.extBut _ _ (by first | omega | (show @Ne Nat _ _; omega)) (hs₅' _ _ (by first | omega | (show @Ne Nat _ _; omega)) hE₄), ?_, ho₆, ?_, hn₅'.sameBut hs₆ (by first | omega | (show @Ne Nat _ _; omega)), ?_⟩
      · exact bytesIter_extBut (bytesIter_extBut (bytesIter_extBut hI₃ hs₄.extBut (by first | omega | (show @Ne Nat _ _; omega))) (e := C) (fun a o h e => hs₅' a o h e) (by first | omega | (show @Ne Nat _ _; omega))) hs₆.extBut (by first | omega | (show @Ne Nat _ _; omega))
      · rw [htk, idx_snoc, List.length_take, Nat.min_eq_left (by first | omega | (show @Ne Nat _ _; omega))]; exact hd₆
      · intro a oa e
        have := ltsN a oa e
        exact hs₆.extBut _ _ (by first | omega | (show @Ne Nat _ _; omega)) (hs₅' _ _ (by first | omega | (show @Ne Nat _ _; omega)) (up₄ _ _ (by first | omega | (show @Ne Nat _ _; omega)) (by first | omega | (show @Ne Nat _ _; omega)) (hk' a oa e)))
    · have hin : i = b.size := by omega
      subst hin
      refine pyNext_enumB_end hh hE hI (by simp) fun h₃ hk₃ => ?_
      dsimp only at hk₃ ⊢
      refine ⟨mc, hn'.at' fun o e => hk₃ _ o (by show @Ne Nat _ _; omega) e, fun h₄ hs₄ => ?_⟩
      dsimp only at hs₄ ⊢
      have hs4' : Heap.SameBut (C) h₃ h₄ := hs₄
      have up : ∀ a o, a ≠ n0 → a ≠ C → h'.get? a = some o → h₄.get? a = some o := fun a o h1 h2 e => hs4'.extBut a o h2 (hk₃ a o h1 e)
      have upS : ∀ a o, s.heap.get? a = some o → h₄.get? a = some o := fun a oa e => by have := ltsN a oa e; exact up a oa (by first | omega | (show @Ne Nat _ _; omega)) (by first | omega | (show @Ne Nat _ _; omega)) (hk' a oa e)
      refine h (D) h₄ o tk (F.keeps upS) ?_ ?_ ?_ ?_
      · intro q hq
        rcases List.mem_cons.mp hq with rfl | hq
        · exact ⟨up _ _ (by first | omega | (show @Ne Nat _ _; omega)) (by first | omega | (show @Ne Nat _ _; omega)) hD, (by show @Ne Nat _ _; omega), fresh₀ _ (by first | omega | (show @Ne Nat _ _; omega))⟩
        · exact ⟨upS _ _ (N q hq).1, (N q hq).2⟩
      · intro q hq; have := hbN q hq; show @LT.lt Nat instLTNat _ _; omega
      · simp only [beq_eq_false_iff_ne]; show @Ne Nat _ _; omega
      · rw [hlen]; rw [← hlen, List.take_length] at hdI'; rw [hlen] at hdI'; exact hdI'
end
end Mine
end

section
open PySem PySem.W PySem.Calls PyProof.Rows PyProof.V PySem.Spec
namespace Mine
section
variable {prog : Program} {w : World} {A : Around} {E : Value → Shared → Prop} {s : Shared} {d : Addr} {o : Obj} {n : Nat} {f : Int → Option Int} {c : Int} {t : Tok}
theorem DictI.tab (D : DictI prog w n f o) (ho : s.heap.get? d = some o) (lo : (d == sysModules) = false) : ∃ T, IntTab prog w s.heap d T ∧ Maps T f :=
  let ⟨kvs, T, hk, hf, M, _⟩ := D; ⟨T, ⟨lo, kvs, Heap.dictOf_iff.mpr ⟨o, ho, hk⟩, hf⟩, M⟩
theorem inD {Q : Value → Shared → Prop} (D : DictI prog w n f o) (lo : (d == sysModules) = false) (ho : s.heap.get? d = some o) (h : Q (.bool (f c).isSome) { s with toks := s.toks + 1 }) :
    wpAny (model prog w) A (compareOp .In (.int c t) (.ref d)) Q E s := by
  obtain ⟨T, hT, M⟩ := D.tab ho lo
  refine in_intTab hT ?_
  rw [M c, Option.isSome_map]
  exact h
theorem notinD {Q : Value → Shared → Prop} (D : DictI prog w n f o) (lo : (d == sysModules) = false) (ho : s.heap.get? d = some o) (h : Q (.bool (!(f c).isSome)) { s with toks := s.toks + 1 }) :
    wpAny (model prog w) A (compareOp .NotIn (.int c t) (.ref d)) Q E s := by
  obtain ⟨T, hT, M⟩ := D.tab ho lo
  refine notin_intTab hT ?_
  rw [M c, Option.isSome_map]
  exact h
theorem itemD {value slice : Expr} {v : Int} {Q : Value → Shared → Prop} (D : DictI prog w n f o) (lo : (d == sysModules) = false) (ho : s.heap.get? d = some o) (hv : f c = some v) (h : ∀ u, Q (.int v u) { s with toks := s.toks + 1 })
    (hs : subscripted slice false (.ref d) (.int c t) = operate [.ref d, .int c t] (getItem (.ref d) (.int c t)) := by with_unfolding_all rfl) (hg : ∀ r, letTemporaryGo value (.ref d) r = pure () := by intro _; with_unfolding_all rfl) :
    wpAny (model prog w) A (subscriptTail value slice (.ref d) (.int c t)) Q E s := by
  obtain ⟨T, hT, M⟩ := D.tab ho lo
  refine item_intTab hT (dv := .int v) ?_ (fun x hx => ?_) hs hg
  · rw [M c, hv]; rfl
  · obtain ⟨u, rfl⟩ := hx.int_inv
    exact h u
theorem missD {value slice : Expr} {Q : Value → Shared → Prop} (D : DictI prog w n f o) (lo : (d == sysModules) = false) (ho : s.heap.get? d = some o) (hv : f c = none) (hh : A.handled = none)
    (h : ∀ h' e, Heap.NewExc s.heap h' e "KeyError" → E (.ref e) { s with heap := h', toks := s.toks + 1 })
    (hs : subscripted slice false (.ref d) (.int c t) = operate [.ref d, .int c t] (getItem (.ref d) (.int c t)) := by with_unfolding_all rfl) (hg : ∀ r, letTemporaryGo value (.ref d) r = pure () := by intro _; with_unfolding_all rfl) :
    wpAny (model prog w) A (subscriptTail value slice (.ref d) (.int c t)) Q E s := by
  obtain ⟨T, hT, M⟩ := D.tab ho lo
  refine item_intTab_missing hT hh ?_ h hs hg
  rw [M c, hv]; rfl
theorem setD {h₀ : Heap} {L : Addr} {m : PySem.Str → Option Value} {news : List (Addr × Obj)} {g : Obj → List (Addr × Obj)} {v : Int} {u : Tok} {Q : Unit → Shared → Prop} (D : DictI prog w n f o) (F : Fr h₀ L s.heap m) (N : News h₀ L s.heap news) (U : UpdF d o news g) (hn : n ≤ 1000)
    (h : ∀ h' o', Fr h₀ L h' m → News h₀ L h' (g o') → DictI prog w (n + 1) (upd f c v) o' → Q () { s with heap := h', toks := s.toks + 1 }) :
    wpAny (model prog w) A (setItem (.ref d) (.int c t) (.int v u)) Q E s := by
  obtain ⟨kvs, T, hk, hf, M, hl⟩ := D
  refine setItem_K same_int (intKind_is prog w c t) (Flat.int v u) F N U hk hf (fun h' o' F' N' hk' hf' => h h' o' F' N' ⟨_, _, hk', hf', M.put c v, Nat.le_trans (putD_length_le _ _ _) (Nat.succ_le_succ hl)⟩) ?_
  exact Nat.le_trans (Nat.le_trans hl hn) (by rw [sizeLine_eq]; decide)
end
def fixg (f : Int → Option Int) (g : List Int) : Int → Option Int :=
  match g.filter (fun c => (f c).isSome) with
  | [p] => g.foldl (fun f' a => upd f' a ((f p).getD 0)) f
  | _ => f
def mapOf (al : List Int) (fix : Bool) : Int → Option Int := if fix then fixg (fixg (idx al) [48, 79, 111]) [73, 108, 49] else idx al
end Mine
end

section
open PySem PySem.W PySem.Calls PyProof.Rows PyProof.V PySem.Spec
namespace Mine
def Src (prog : Program) (w : World) (A : Around) (E : Value → Shared → Prop) (s : Shared) (xv : Value) (n : Nat) (P : Nat → Value → Prop) : Prop :=
  ∀ Q : Value → Shared → Prop, (∀ h₂ I fp St, Walks prog w A I fp [I] n P St → St 0 h₂ → (∀ b ∈ fp, b < h₂.objs.size) → (∀ b o, s.heap.get? b = some o → h₂.get? b = some o) → s.heap.get? I = none → s.heap.objs.size ≤ h₂.objs.size → Q (.ref I) { s with heap := h₂ }) → wpAny (model prog w) A (pyIter xv) Q E s
def IsI (ks : List Int) (i : Nat) (v : Value) : Prop := ∃ k t, ks[i]? = some k ∧ v = .int k t
theorem fresh_at (h : Heap) (a : Addr) (ha : h.objs.size ≤ a) : h.get? a = none := by
  cases e : h.get? a with
  | none => rfl
  | some o' => exact absurd (Heap.lt_size e) (Nat.not_lt.mpr ha)
theorem walks_mono {prog : Program} {w : World} {A : Around} {I : Addr} {fp wr : List Addr} {n : Nat} {P P' : Nat → Value → Prop} {St : Nat → Heap → Prop} (W : Walks prog w A I fp wr n P St) (hP : ∀ i v, P i v → P' i v) : Walks prog w A I fp wr n P' St :=
  { sub := W.sub, frame := W.frame, item := fun i s Q E hi hst hQ => W.item i s Q E hi hst fun v h' tk hv hs hk => hQ v h' tk (hP i v hv) hs hk, done := W.done, self := W.self }
theorem ints_get' : ∀ {vs : List Value} {ns : List Int}, IntsAre vs ns → ∀ {i : Nat} {v : Value}, vs[i]? = some v → IsI ns i v
  | _, _, .nil, i, v, h => by simp at h
  | _, _, .cons n t r, 0, v, h => by simp at h; subst h; exact ⟨n, t, rfl, rfl⟩
  | _, _, .cons n t r, i + 1, v, h => by
    obtain ⟨k, u, e, e'⟩ := ints_get' r (i := i) (v := v) (by simpa using h)
    exact ⟨k, u, by simpa using e, e'⟩
section
variable {prog : Program} {w : World} {A : Around} {E : Value → Shared → Prop} {s : Shared}
theorem src_bytes {b : Array UInt8} {t : Tok} {ks : List Int} (hk : KBw.bInts b = ks) (hh : A.handled = none) : Src prog w A E s (.bytes b t) ks.length (IsI ks) := by
  intro Q h
  refine KBw.pyIter_bytes ?_
  have W := walks_mono (KBw.walks (prog := prog) (w := w) hh s.heap.objs.size b t) (P' := IsI ks) (fun i v hv => by
    obtain ⟨c, u, hc, rfl⟩ := hv
    exact ⟨_, u, hk ▸ KBw.ints_get hc, rfl⟩)
  rw [← KBw.ints_length b, hk] at W
  refine h _ _ _ _ W ⟨_, Heap.get?_push_size _ rfl, rfl, rfl⟩ ?_ (fun b o e => Heap.get?_push_of_some _ e) (fresh_at _ _ (Nat.le_refl _)) (by rw [Heap.size_push]; exact Nat.le_succ _)
  intro b hb
  rw [List.mem_singleton.mp hb, Heap.size_push]; exact Nat.lt_succ_self _
theorem src_list {l : Addr} {vs : List Value} (hl : s.heap.IsList l vs.toArray) (hh : A.handled = none) : Src prog w A E s (.ref l) vs.length (fun i v => vs[i]? = some v) := by
  intro Q h
  refine wpAny_pyIter_list hl ?_
  have hlt : l < s.heap.objs.size := by obtain ⟨_, e, _⟩ := hl; exact Heap.lt_size e
  have W := walks_mono (Walks.list (prog := prog) (w := w) hh s.heap.objs.size l (Nat.ne_of_lt hlt) vs.toArray) (P' := fun i v => vs[i]? = some v) (fun i v hv => by simpa using hv)
  rw [List.size_toArray] at W
  refine h _ _ _ _ W ⟨⟨_, Heap.get?_push_size _ rfl, rfl, rfl⟩, hl.push _⟩ ?_ (fun b o e => Heap.get?_push_of_some _ e) (fresh_at _ _ (Nat.le_refl _)) (by rw [Heap.size_push]; exact Nat.le_succ _)
  intro b hb
  rw [Heap.size_push]
  rcases List.mem_cons.mp hb with rfl | hb
  · exact Nat.lt_succ_self _
  · rw [List.mem_singleton.mp hb]; exact Nat.lt_succ_of_lt hlt
theorem src_range {r : Addr} {n : Int} {t u v : Tok} {N : Nat} (hr : IsRange s.heap r 0 n 1 t u v) (hN : n = (N : Int)) (hb : N ≤ 100000) (hh : A.handled = none) : Src prog w A E s (.ref r) N (fun i v => i < N ∧ ∃ t, v = .int (i : Int) t) := by
  intro Q h
  subst hN
  refine wpAny_pyIter_range hr (small_one (by decide) (by decide) (by omega) (by omega)) ?_
  have W := walks_mono (Walks.range (prog := prog) (w := w) hh s.heap.objs.size 0 1 N).bound (P' := fun i v => i < N ∧ ∃ t, v = .int (i : Int) t) (fun i v hv => by
    obtain ⟨hi, t, rfl⟩ := hv
    exact ⟨hi, t, by simp⟩)
  refine h _ _ _ _ W ?_ ?_ (fun b o e => Heap.get?_push_of_some _ e) (fresh_at _ _ (Nat.le_refl _)) (by rw [Heap.size_push]; exact Nat.le_succ _)
  · show IsRangeIter _ _ _ _ _
    rw [rangeSize_nat]
    simpa using Heap.get?_push_size _ rfl
  · intro b hb
    rw [List.mem_singleton.mp hb, Heap.size_push]; exact Nat.lt_succ_self _
def upTo (N : Nat) : List Int := (List.range N).map (fun i => Int.ofNat i)
theorem upTo_length (N : Nat) : (upTo N).length = N := by simp [upTo]
theorem src_rangeI {r : Addr} {n : Int} {t u v : Tok} {N : Nat} (hr : IsRange s.heap r 0 n 1 t u v) (hN : n = (N : Int)) (hb : N ≤ 100000) (hh : A.handled = none) : Src prog w A E s (.ref r) (upTo N).length (IsI (upTo N)) := by
  rw [upTo_length]
  intro Q h
  refine src_range hr hN hb hh Q fun h₂ I fp St W a b c d e => h h₂ I fp St ?_ a b c d e
  refine walks_mono W fun i v hv => ?_
  obtain ⟨hi, t, rfl⟩ := hv
  exact ⟨i, t, by simp [upTo, hi], rfl⟩
theorem src_ints {l : Addr} {vs : List Value} {ns : List Int} (hl : s.heap.IsList l vs.toArray) (hi : IntsAre vs ns) (hh : A.handled = none) : Src prog w A E s (.ref l) ns.length (IsI ns) := by
  intro Q h
  refine src_list hl hh Q fun h₂ I fp St W a b c d e => h h₂ I fp St ?_ a b c d e
  rw [← hi.length]
  exact walks_mono W fun i v hv => ints_get' hi hv
end

section
variable {prog : Program} {w : World} {A : Around} {E : Value → Shared → Prop} {s : Shared} {env : Env} {h₀ : Heap} {L : Addr} {m : PySem.Str → Option Value} {news : List (Addr × Obj)}

abbrev testsOf (ifs : List Expr) (cenv : Env) : Sem Bool := forIn ifs true fun c r => if r = true then do let ok ← isTrue c cenv (eval c cenv); pure (ForInStep.yield ok) else pure (ForInStep.yield r)

theorem fr_kept {h : Heap} (F : Fr h₀ L s.heap m) (hk : ∀ b o, s.heap.get? b = some o → h.get? b = some o) : Fr h₀ L h m := F.keeps hk
theorem news_kept {h h₁ : Heap} (N : News h₀ L h₁ news) (hk : ∀ b o, h₁.get? b = some o → h.get? b = some o) : News h₀ L h news := fun p hp => ⟨hk _ _ (N p hp).1, (N p hp).2⟩
theorem not_in_one {I b : Addr} {o : Obj} {h : Heap} (hI : h.get? I = none) (e : h.get? b = some o) : b ∉ [I] := fun q => by rw [List.mem_singleton.mp q, hI] at e; cases e
theorem none_back {h h' : Heap} {D : Addr} (hk : ∀ b o, h.get? b = some o → h'.get? b = some o) (e : h'.get? D = none) : h.get? D = none := by
  cases q : h.get? D with
  | none => rfl
  | some o => rw [hk _ _ q] at e; cases e
theorem news_ne {h₁ : Heap} {D : Addr} (N : News h₀ L h₁ news) (e : h₁.get? D = none) : ∀ p ∈ news, @Ne Nat p.1 D := fun p hp q => by
  have := (N p hp).1
  rw [show p.1 = D from q, e] at this; cases this
theorem fr_ne {h₁ : Heap} {D : Addr} (F : Fr h₀ L h₁ m) (e : h₁.get? D = none) : D ≠ L := fun q => by
  obtain ⟨o, _, _, ho, _⟩ := F.ns
  rw [← q, e] at ho; cases ho

theorem comp_eval {elt iter : Expr} {x : PySem.Str} {px : Pos} {ifs : List Expr} {scope : Scope} {cl : List (PySem.Str × Addr)} {pos : Pos} {Q : Value → Shared → Prop} {n : Nat} {P : Nat → Value → Prop} (p : Value → Bool) (FF : Value → Value → Prop)
    (hclos : closureFor scope env = pure cl) (hcell : ∀ y ∈ scope.names, y.2 ≠ .cell) (hkind : scope.kind = .function)
    (hnames : ∀ y ∈ scope.names, y.2 = .local → scope.names.lookup y.1 = some .local) (hx : scope.names.lookup x = some .local)
    (hn : n ≤ sizeLine)
    (hit : ∀ Q' : Value → Shared → Prop, (∀ h₁ tk₁ xv, Fr h₀ L h₁ m → News h₀ L h₁ news → Src prog w A E { s with heap := h₁, toks := tk₁ } xv n P → Q' xv { s with heap := h₁, toks := tk₁ }) → wpAny (model prog w) A (eval iter env) Q' E s)
    (htests : ∀ C i v s₃ m₃ E', P i v → s₃.heap.Ns C m₃ → m₃ x = some v → Fr h₀ L s₃.heap m → News h₀ L s₃.heap news → wpAny (model prog w) A (testsOf ifs (compEnvC scope cl C env)) (fun ok s₄ => ok = p v ∧ Keeps s₃ s₄) E' s₃)
    (helt : ∀ C i v s₃ m₃ E', P i v → p v = true → s₃.heap.Ns C m₃ → m₃ x = some v → Fr h₀ L s₃.heap m → News h₀ L s₃.heap news → wpAny (model prog w) A (eval elt (compEnvC scope cl C env)) (fun y s₄ => FF v y ∧ Keeps s₃ s₄) E' s₃)
    (h : ∀ D h' tk k ys (vs : List Value), Fr h₀ L h' m → News h₀ L h' ((D, PySem.W.listOf ys k) :: news) → (∀ p ∈ news, @Ne Nat p.1 D) → vs.length = n → (∀ j v, vs[j]? = some v → P j v) → Paired FF (vs.filter p) ys.toList → Q (.ref D) { s with heap := h', toks := tk })
    (hs : ∀ x, foldedSetIterable iter env x = pure x := by intro _; rfl) :
    wpAny (model prog w) A (eval (.ListComp elt [⟨.Name x px, iter, ifs, 0⟩] scope pos) env) Q E s := by
  refine wpAny_ListComp_free p FF hclos hcell hkind hnames hx (hit _ fun h₁ tk₁ xv F N hsrc => hsrc _ fun h₂ I fp St W hst hfp hk hI hge => ?_) hs
  have up : ∀ {h : Heap}, (∀ b o, b ∉ [I] → h₂.get? b = some o → h.get? b = some o) → ∀ b o, h₁.get? b = some o → h.get? b = some o := fun hx b o e => hx b o (not_in_one hI e) (hk b o e)
  refine ⟨I, fp, [I], n, P, St, rfl, W, hn, hst, hfp, ⟨?_, ?_⟩, ?_⟩
  · intro C i v s₃ m₃ E' _ hP hns hm hk₃ _
    exact htests C i v s₃ m₃ E' hP hns hm (F.keeps (up hk₃)) (news_kept N (up hk₃))
  · intro C i v s₃ m₃ E' _ hP hp hns hm hk₃ _
    exact helt C i v s₃ m₃ E' hP hp hns hm (F.keeps (up hk₃)) (news_kept N (up hk₃))
  · intro D h' tk ys vs hD _ hpl hl hP hF hk'
    obtain ⟨k, e⟩ := hpl
    have hDs := none_back hk hD
    refine h D h' tk k ys vs (F.keeps (up hk')) ?_ (news_ne N hDs) hl hP hF
    intro q hq
    rcases List.mem_cons.mp hq with rfl | hq
    · exact ⟨e, fr_ne F hDs, none_back F.keep hDs⟩
    · exact news_kept N (up hk') q hq

theorem comp_assign {elt iter : Expr} {x y : PySem.Str} {px py : Pos} {ifs : List Expr} {scope : Scope} {cl : List (PySem.Str × Addr)} {pos spos : Pos} {Q : Flow → Shared → Prop} {n : Nat} {P : Nat → Value → Prop} (p : Value → Bool) (FF : Value → Value → Prop)
    (hL : env.locals = L)
    (hsw : swapsWith (.ListComp elt [⟨.Name x px, iter, ifs, 0⟩] scope pos) (some (.Name y py)) spos.line env = pure true)
    (hclos : closureFor scope env = pure cl) (hcell : ∀ y ∈ scope.names, y.2 ≠ .cell) (hkind : scope.kind = .function)
    (hnames : ∀ y ∈ scope.names, y.2 = .local → scope.names.lookup y.1 = some .local) (hx : scope.names.lookup x = some .local)
    (hy : env.kindOf y = some .local) (hp : (env.scope.kind == .class || (env.scope.kind == .module && env.locals != env.globals)) = false)
    (hn : n ≤ sizeLine)
    (hit : ∀ Q' : Value → Shared → Prop, (∀ h₁ tk₁ xv, Fr h₀ L h₁ m → News h₀ L h₁ news → Src prog w A E { s with heap := h₁, toks := tk₁ } xv n P → Q' xv { s with heap := h₁, toks := tk₁ }) → wpAny (model prog w) A (eval iter env) Q' E s)
    (htests : ∀ C i v s₃ m₃ E', P i v → s₃.heap.Ns C m₃ → m₃ x = some v → Fr h₀ L s₃.heap m → News h₀ L s₃.heap news → wpAny (model prog w) A (testsOf ifs (compEnvC scope cl C env)) (fun ok s₄ => ok = p v ∧ Keeps s₃ s₄) E' s₃)
    (helt : ∀ C i v s₃ m₃ E', P i v → p v = true → s₃.heap.Ns C m₃ → m₃ x = some v → Fr h₀ L s₃.heap m → News h₀ L s₃.heap news → wpAny (model prog w) A (eval elt (compEnvC scope cl C env)) (fun y s₄ => FF v y ∧ Keeps s₃ s₄) E' s₃)
    (h : ∀ D h' tk k ys (vs : List Value), Fr h₀ L h' (fun z => if z = y then some (.ref D) else m z) → News h₀ L h' ((D, PySem.W.listOf ys k) :: news) → (∀ p ∈ news, @Ne Nat p.1 D) → vs.length = n → (∀ j v, vs[j]? = some v → P j v) → Paired FF (vs.filter p) ys.toList → Q .next { s with heap := h', toks := tk })
    (hs : ∀ x, foldedSetIterable iter env x = pure x := by intro _; rfl) :
    wpAny (model prog w) A (exec (.Assign [.Name y py] (.ListComp elt [⟨.Name x px, iter, ifs, 0⟩] scope pos) spos) env) Q E s := by
  subst hL
  refine wpAny_Assign_ListComp_free p FF hsw hclos hcell hkind hnames hx hy hp (hit _ fun h₁ tk₁ xv F N hsrc => hsrc _ fun h₂ I fp St W hst hfp hk hI hge => ?_) hs
  have up : ∀ {h : Heap}, (∀ b o, b ∉ [I] → h₂.get? b = some o → h.get? b = some o) → ∀ b o, h₁.get? b = some o → h.get? b = some o := fun hx b o e => hx b o (not_in_one hI e) (hk b o e)
  have F₂ := F.keeps hk
  refine ⟨I, fp, [I], n, P, St, m, rfl, W, hn, hst, hfp, ?_, F₂.ns, ⟨?_, ?_⟩, ?_⟩
  · obtain ⟨o, _, _, ho, _⟩ := F.ns
    exact not_in_one hI ho
  · intro C i v s₃ m₃ E' _ hP hns hm hk₃ _
    exact htests C i v s₃ m₃ E' hP hns hm (F.keeps (up hk₃)) (news_kept N (up hk₃))
  · intro C i v s₃ m₃ E' _ hP hp hns hm hk₃ _
    exact helt C i v s₃ m₃ E' hP hp hns hm (F.keeps (up hk₃)) (news_kept N (up hk₃))
  · intro D h' tk ys vs hD _ hpl hl hP hF hns' hk'
    obtain ⟨k, e⟩ := hpl
    have hDs := none_back hk hD
    have hL0 : ∀ b o, h₀.get? b = some o → b ≠ env.locals := fun b o e => Nat.ne_of_lt (Nat.lt_of_lt_of_le (Heap.lt_size e) F.above)
    refine h D h' tk k ys vs ⟨hns', fun b o e => hk' b o (hL0 b o e) (not_in_one hI (F.keep b o e)) (hk _ _ (F.keep b o e)), F.above⟩ ?_ (news_ne N hDs) hl hP hF
    intro q hq
    rcases List.mem_cons.mp hq with rfl | hq
    · exact ⟨e, fr_ne F hDs, none_back F.keep hDs⟩
    · exact ⟨hk' _ _ (N q hq).2.1 (not_in_one hI (N q hq).1) (hk _ _ (N q hq).1), (N q hq).2⟩
end

def pI (pk : Int → Bool) : Value → Bool
  | .int k _ => pk k
  | _ => false
def FI (g : Int → Int) (v y : Value) : Prop := ∃ k t u, v = .int k t ∧ y = .int (g k) u
theorem ints_of_IsI : ∀ {vs : List Value} {ks : List Int}, vs.length = ks.length → (∀ j v, vs[j]? = some v → IsI ks j v) → IntsAre vs ks
  | [], [], _, _ => .nil
  | v :: vs, k :: ks, hl, h => by
    obtain ⟨k', t, e, rfl⟩ := h 0 v rfl
    simp at e; subst e
    exact .cons k t (ints_of_IsI (by simpa using hl) fun j v hj => by
      obtain ⟨k', t, e, e'⟩ := h (j + 1) v (by simpa using hj)
      exact ⟨k', t, by simpa using e, e'⟩)
theorem ints_filter (pk : Int → Bool) : ∀ {vs : List Value} {ks : List Int}, IntsAre vs ks → IntsAre (vs.filter (pI pk)) (ks.filter pk)
  | _, _, .nil => .nil
  | _, _, .cons n t r => by
    have ih := ints_filter pk r
    rw [List.filter_cons, List.filter_cons]
    show IntsAre (if pk n = true then _ else _) _
    split
    · exact .cons n t ih
    · exact ih
theorem ints_paired (g : Int → Int) : ∀ {vs : List Value} {ks : List Int} {ys : List Value}, IntsAre vs ks → Paired (FI g) vs ys → IntsAre ys (ks.map g)
  | _, _, _, .nil, .nil => .nil
  | _, _, _, .cons n t r, .cons h r' => by
    obtain ⟨k, t', u, e, rfl⟩ := h
    cases e
    exact .cons _ u (ints_paired g r r')
theorem ints_comp {pk : Int → Bool} {g : Int → Int} {ks : List Int} {vs : List Value} {ys : Array Value} (hl : vs.length = ks.length) (hP : ∀ j v, vs[j]? = some v → IsI ks j v) (hF : Paired (FI g) (vs.filter (pI pk)) ys.toList) :
    IntsAre ys.toList ((ks.filter pk).map g) := ints_paired g (ints_filter pk (ints_of_IsI hl hP)) hF
end Mine
end

section
open PySem PySem.W PySem.Calls PyProof.Rows PyProof.V PySem.Spec
namespace Mine
def dictOf (kf vf : Int → Int) (ks : List Int) : Int → Option Int := ks.foldl (fun f k => upd f (kf k) (vf k)) (fun _ => none)
def FKI (kf : Int → Int) (v : Value) (k : Int) : Prop := ∃ i t, v = .int i t ∧ k = kf i
theorem stored_dict {kf vf : Int → Int} {l : List Value} {kvs : List (Int × Value)} (h : StoredAll (FKI kf) (FI vf) l kvs) :
    ∀ {ks : List Int}, IntsAre l ks → ∃ T, FlatPairs PyData.int kvs T ∧ Maps T (dictOf kf vf ks) ∧ T.length ≤ ks.length := by
  induction h with
  | nil => intro ks hi; cases hi; exact ⟨[], .nil, Maps.nil, Nat.le_refl _⟩
  | @snoc l kvs v k y _ hk hv ih =>
    intro ks hi
    obtain ⟨i, t, rfl, rfl⟩ := hk
    obtain ⟨i', t', u, e, rfl⟩ := hv
    cases e
    have hsp : ∃ ks', ks = ks' ++ [i] ∧ IntsAre l ks' := by
      have : ∀ {l : List Value} {ks : List Int}, IntsAre (l ++ [Value.int i t]) ks → ∃ ks', ks = ks' ++ [i] ∧ IntsAre l ks' := by
        intro l
        induction l with
        | nil => intro ks h; cases h with | cons n t r => cases r; exact ⟨[], rfl, .nil⟩
        | cons a l ih => intro ks h; cases h with | cons n t r => obtain ⟨ks', rfl, h'⟩ := ih r; exact ⟨n :: ks', rfl, .cons n t h'⟩
      exact this hi
    obtain ⟨ks', rfl, hi'⟩ := hsp
    obtain ⟨T, hf, M, hl⟩ := ih hi'
    refine ⟨_, hf.stored same_int (kf i) (Flat.int (vf i) u), ?_, ?_⟩
    · rw [dictOf, List.foldl_append]
      exact M.put (kf i) (vf i)
    · rw [List.length_append, List.length_singleton]
      exact Nat.le_trans (putD_length_le _ _ _) (Nat.succ_le_succ hl)
theorem dictI_stored {prog : Program} {w : World} {h : Heap} {D : Addr} {kf vf : Int → Int} {vs : List Value} {kvs : List (Int × Value)} {ks : List Int} (hd : h.DictOf (intKind prog w) D kvs) (hS : StoredAll (FKI kf) (FI vf) (vs.filter fun _ => true) kvs)
    (hl : vs.length = ks.length) (hP : ∀ j v, vs[j]? = some v → IsI ks j v) : ∃ o, h.get? D = some o ∧ DictI prog w ks.length (dictOf kf vf ks) o := by
  obtain ⟨o, ho, hk⟩ := Heap.dictOf_iff.mp hd
  rw [filter_const_true] at hS
  obtain ⟨T, hf, M, hle⟩ := stored_dict hS (ints_of_IsI hl hP)
  exact ⟨o, ho, kvs, T, hk, hf, M, hle⟩
section
variable {prog : Program} {w : World} {A : Around} {E : Value → Shared → Prop} {s : Shared} {env : Env} {h₀ : Heap} {L : Addr} {m : PySem.Str → Option Value} {news : List (Addr × Obj)}

theorem dict_block {kx vx iter : Expr} {x : PySem.Str} {px : Pos} {scope : Scope} {cl : List (PySem.Str × Addr)} {pos : Pos} {s₂ : Shared} {I : Addr} {fp : List Addr} {n : Nat} {P : Nat → Value → Prop}
    {St : Nat → Heap → Prop} (W : Walks prog w A I fp [I] n P St) (hsz : n ≤ sizeLine) (FK : Value → Int → Prop) (FV : Value → Value → Prop) {RR : Value → Addr → Result → Shared → Prop}
    (hcell : ∀ y ∈ scope.names, y.2 ≠ .cell) (hkind : scope.kind = .function) (hx : scope.names.lookup x = some .local) (hst : St 0 s₂.heap) (hfp : ∀ b ∈ fp, b < s₂.heap.objs.size)
    (hkey : ∀ C i v s₃ m₃ E', P i v → s₃.heap.Ns C m₃ → m₃ x = some v → (∀ b o, b ∉ [I] → s₂.heap.get? b = some o → s₃.heap.get? b = some o) →
      wpAny (model prog w) A (eval kx (compEnvC scope cl C env)) (fun key s₄ => (∃ k, (intKind prog w).is k key = true ∧ FK v k) ∧ Keeps s₃ s₄) E' s₃)
    (hval : ∀ C i v s₃ m₃ E', P i v → s₃.heap.Ns C m₃ → m₃ x = some v → (∀ b o, b ∉ [I] → s₂.heap.get? b = some o → s₃.heap.get? b = some o) →
      wpAny (model prog w) A (eval vx (compEnvC scope cl C env)) (fun y s₄ => FV v y ∧ Keeps s₃ s₄) E' s₃)
    (hRR : ∀ C h' tk m' kvs (vs : List Value), s₂.heap.get? C = none → s₂.heap.objs.size ≠ C → h'.Ns C m' → h'.DictOf (intKind prog w) s₂.heap.objs.size kvs → vs.length = n → (∀ j v, vs[j]? = some v → P j v) → StoredAll FK FV (vs.filter fun _ => true) kvs →
      (∀ b o, b ∉ [I] → s₂.heap.get? b = some o → h'.get? b = some o) → RR (.ref s₂.heap.objs.size) C (.ok .next) { s₂ with heap := h', toks := tk }) :
    wpAny (model prog w) A newDict (fun acc s₃ => wpAny (model prog w) A (newFunctionEnv scope env.globals cl [] env.qual none .none (some env)) (fun cenv s₄ =>
      codeAny (model prog w) A (.compStart (.DictComp kx vx [⟨.Name x px, iter, [], 0⟩] scope pos) 0 (.ref I) acc { cenv with scope := relabel scope env }) (RR acc cenv.locals) s₄) E s₃) E s₂ := by
  refine wpAny_newObj_type (wpAny_newFunctionEnv hcell (by intro y hy; simp at hy) (fun h₁ hns₁ hsb₁ => ?_) hkind)
  dsimp only at hns₁ hsb₁ ⊢
  have hnew : (s₂.heap.push { cls := .type "dict", dict := none, data := .dict #[] }).DictOf (intKind prog w) s₂.heap.objs.size [] := Heap.DictOf.new s₂.heap
  generalize hH2 : s₂.heap.push { cls := .type "dict", dict := none, data := .dict #[] } = H2 at hns₁ hsb₁ hnew ⊢
  have hC : H2.objs.size = s₂.heap.objs.size + 1 := by rw [← hH2, Heap.size_push]
  have hDC : s₂.heap.objs.size ≠ H2.objs.size := by rw [hC]; exact Nat.ne_of_lt (Nat.lt_succ_self _)
  have below : ∀ b, b < s₂.heap.objs.size → b ≠ H2.objs.size ∧ b ≠ s₂.heap.objs.size := fun b hb => ⟨by rw [hC]; exact Nat.ne_of_lt (Nat.lt_succ_of_lt hb), Nat.ne_of_lt hb⟩
  have hDf : s₂.heap.objs.size ∉ fp := fun hm => Nat.lt_irrefl _ (hfp _ hm)
  have hCf : H2.objs.size ∉ fp := fun hm => by have := hfp _ hm; rw [hC] at this; exact Nat.lt_irrefl _ (Nat.lt_of_succ_lt this)
  have old : ∀ b o, s₂.heap.get? b = some o → h₁.get? b = some o := fun b o e => hsb₁.extBut b o (below b (Heap.lt_size e)).1 (Heap.get?_push_of_some _ (hH2 ▸ Heap.get?_push_of_some _ e))
  have hacc : h₁.DictOf (intKind prog w) s₂.heap.objs.size [] := hnew.at fun o e => hsb₁.extBut _ _ hDC (Heap.get?_push_of_some _ e)
  have hst₁ : St 0 h₁ := W.frame _ _ _ hst fun b _ o e => old b o e
  have loop : ∀ s₃ : Shared, s₃ = { s₂ with heap := h₁, toks := s₂.toks + ([] : List (PySem.Str × Value)).length } →
      codeAny (model prog w) A (.compLoop (.DictComp kx vx [⟨.Name x px, iter, [], 0⟩] scope pos) 0 (.ref I) (.ref s₂.heap.objs.size) (compEnvC scope cl H2.objs.size env))
        (RR (.ref s₂.heap.objs.size) H2.objs.size) s₃ := by
    rintro s₃ rfl
    refine codeAny_compLoop_walkD (hsz := hsz) (knd := intKind prog w) (cenv := compEnvC scope cl H2.objs.size env) W (fun _ => true) FK FV (lookup_relabel_local hx) (by simp [compEnvC, relabel, hkind]) hDC hDf hCf hst₁ hacc hns₁
      (fun i v s₃ m₃ hv hn hm hk => wpAny_tests_nil ⟨rfl, s₃.heap, s₃.toks, rfl, fun _ _ e => e⟩)
      (fun i v s₃ m₃ hv hpv hn hm hk => hkey _ i v s₃ m₃ _ hv hn hm fun b o hbf e => hk b o (below b (Heap.lt_size e)).1 hbf (below b (Heap.lt_size e)).2 (old b o e))
      (fun i v s₃ m₃ hv hpv hn hm hk => hval _ i v s₃ m₃ _ hv hn hm fun b o hbf e => hk b o (below b (Heap.lt_size e)).1 hbf (below b (Heap.lt_size e)).2 (old b o e)) fun h' tk m' kvs vs hn ha hlen hP hF hk => ?_
    exact hRR _ h' tk m' kvs vs (fresh_at _ _ (by rw [hC]; exact Nat.le_succ _)) hDC hn ha hlen hP hF fun b o hbf e =>
      hk b o (below b (Heap.lt_size e)).1 hbf (below b (Heap.lt_size e)).2 (old b o e)
  exact codeAny_compStart_dict (loop _ rfl) (W.self 0 _ _ _ hst₁ (loop _ rfl))

theorem dict_eval {kx vx iter : Expr} {x : PySem.Str} {px : Pos} {scope : Scope} {cl : List (PySem.Str × Addr)} {pos : Pos} {Q : Value → Shared → Prop} {ks : List Int} (kf vf : Int → Int)
    (hlim : h₀.NoLimit)
    (hclos : closureFor scope env = pure cl) (hcell : ∀ y ∈ scope.names, y.2 ≠ .cell) (hkind : scope.kind = .function)
    (hnames : ∀ y ∈ scope.names, y.2 = .local → scope.names.lookup y.1 = some .local) (hx : scope.names.lookup x = some .local)
    (hn : ks.length ≤ sizeLine)
    (hit : ∀ Q' : Value → Shared → Prop, (∀ h₁ tk₁ xv, Fr h₀ L h₁ m → News h₀ L h₁ news → Src prog w A E { s with heap := h₁, toks := tk₁ } xv ks.length (IsI ks) → Q' xv { s with heap := h₁, toks := tk₁ }) → wpAny (model prog w) A (eval iter env) Q' E s)
    (hkey : ∀ C k t s₃ m₃ E', k ∈ ks → s₃.heap.Ns C m₃ → m₃ x = some (.int k t) → Fr h₀ L s₃.heap m → News h₀ L s₃.heap news → wpAny (model prog w) A (eval kx (compEnvC scope cl C env)) (fun y s₄ => (∃ u, y = .int (kf k) u) ∧ Keeps s₃ s₄) E' s₃)
    (hval : ∀ C k t s₃ m₃ E', k ∈ ks → s₃.heap.Ns C m₃ → m₃ x = some (.int k t) → Fr h₀ L s₃.heap m → News h₀ L s₃.heap news → wpAny (model prog w) A (eval vx (compEnvC scope cl C env)) (fun y s₄ => (∃ u, y = .int (vf k) u) ∧ Keeps s₃ s₄) E' s₃)
    (h : ∀ D h' o tk, Fr h₀ L h' m → News h₀ L h' ((D, o) :: news) → (∀ p ∈ news, p.1 < D) → (D == sysModules) = false → DictI prog w ks.length (dictOf kf vf ks) o → Q (.ref D) { s with heap := h', toks := tk })
    (hs : ∀ x, foldedSetIterable iter env x = pure x := by intro _; rfl) :
    wpAny (model prog w) A (eval (.DictComp kx vx [⟨.Name x px, iter, [], 0⟩] scope pos) env) Q E s := by
  rw [arm_eval_DictComp]
  refine wpAny_comprehension_free (use := none) rfl hs hclos hkind hnames (hit _ fun h₁ tk₁ xv F N hsrc => hsrc _ fun h₂ I fp St W hst hfp hk hI hge => ?_)
  have up : ∀ {h : Heap}, (∀ b o, b ∉ [I] → h₂.get? b = some o → h.get? b = some o) → ∀ b o, h₁.get? b = some o → h.get? b = some o := fun hx b o e => hx b o (not_in_one hI e) (hk b o e)
  refine dict_block (RR := fun acc C => compPost (model prog w) A E none Q acc C) (s₂ := { s with heap := h₂, toks := tk₁ }) W hn (FKI kf) (FI vf) hcell hkind hx hst hfp ?_ ?_ ?_
  · intro C i v s₃ m₃ E' hP hns hm hk₃
    obtain ⟨k, t, e, rfl⟩ := hP
    refine wpAny_mono (hkey C k t s₃ m₃ E' (List.mem_of_getElem? e) hns hm (F.keeps (up hk₃)) (news_kept N (up hk₃))) (fun y s₄ hy => ?_) fun _ _ e => e
    obtain ⟨⟨u, rfl⟩, hK⟩ := hy
    exact ⟨⟨kf k, intKind_is prog w _ _, k, t, rfl, rfl⟩, hK⟩
  · intro C i v s₃ m₃ E' hP hns hm hk₃
    obtain ⟨k, t, e, rfl⟩ := hP
    refine wpAny_mono (hval C k t s₃ m₃ E' (List.mem_of_getElem? e) hns hm (F.keeps (up hk₃)) (news_kept N (up hk₃))) (fun y s₄ hy => ?_) fun _ _ e => e
    obtain ⟨⟨u, rfl⟩, hK⟩ := hy
    exact ⟨⟨k, t, u, rfl, rfl⟩, hK⟩
  · intro C h' tk m' kvs vs hC hDC hns' hd hl hP hS hk'
    refine ⟨m', hns', fun h'' hs'' => ?_⟩
    have hs2 : Heap.SameBut C h' h'' := hs''
    have hCs : h₁.get? C = none := none_back hk hC
    have up2 : ∀ b o, h₁.get? b = some o → h''.get? b = some o := fun b o e => hs2.extBut b o (fun q => by rw [q, hCs] at e; cases e) (up hk' b o e)
    obtain ⟨o, ho, hD⟩ := dictI_stored (hd.extBut hs2.extBut hDC) hS hl hP
    have hD0 : h₁.get? h₂.objs.size = none := fresh_at _ _ hge
    refine h h₂.objs.size h'' o tk (F.keeps up2) ?_ (fun q hq => Nat.lt_of_lt_of_le (Heap.lt_size (N q hq).1) hge) ?_ hD
    · intro q hq
      rcases List.mem_cons.mp hq with rfl | hq
      · exact ⟨ho, fr_ne F hD0, none_back F.keep hD0⟩
      · exact news_kept N up2 q hq
    · have hmods : sysModules < h₂.objs.size := Nat.lt_of_lt_of_le (modules_low hlim) (Nat.le_trans (Nat.le_of_lt (Nat.lt_of_le_of_lt F.above F.ns.lt)) hge)
      simp only [beq_eq_false_iff_ne]
      exact Nat.ne_of_gt hmods

theorem dict_assign {kx vx iter : Expr} {x y : PySem.Str} {px py : Pos} {scope : Scope} {cl : List (PySem.Str × Addr)} {pos spos : Pos} {Q : Flow → Shared → Prop} {ks : List Int} (kf vf : Int → Int)
    (hlim : h₀.NoLimit) (hL : env.locals = L)
    (hsw : swapsWith (.DictComp kx vx [⟨.Name x px, iter, [], 0⟩] scope pos) (some (.Name y py)) spos.line env = pure true)
    (hclos : closureFor scope env = pure cl) (hcell : ∀ y ∈ scope.names, y.2 ≠ .cell) (hkind : scope.kind = .function)
    (hnames : ∀ y ∈ scope.names, y.2 = .local → scope.names.lookup y.1 = some .local) (hx : scope.names.lookup x = some .local)
    (hy : env.kindOf y = some .local) (hp : (env.scope.kind == .class || (env.scope.kind == .module && env.locals != env.globals)) = false)
    (hn : ks.length ≤ sizeLine)
    (hit : ∀ Q' : Value → Shared → Prop, (∀ h₁ tk₁ xv, Fr h₀ L h₁ m → News h₀ L h₁ news → Src prog w A E { s with heap := h₁, toks := tk₁ } xv ks.length (IsI ks) → Q' xv { s with heap := h₁, toks := tk₁ }) → wpAny (model prog w) A (eval iter env) Q' E s)
    (hkey : ∀ C k t s₃ m₃ E', k ∈ ks → s₃.heap.Ns C m₃ → m₃ x = some (.int k t) → Fr h₀ L s₃.heap m → News h₀ L s₃.heap news → wpAny (model prog w) A (eval kx (compEnvC scope cl C env)) (fun y s₄ => (∃ u, y = .int (kf k) u) ∧ Keeps s₃ s₄) E' s₃)
    (hval : ∀ C k t s₃ m₃ E', k ∈ ks → s₃.heap.Ns C m₃ → m₃ x = some (.int k t) → Fr h₀ L s₃.heap m → News h₀ L s₃.heap news → wpAny (model prog w) A (eval vx (compEnvC scope cl C env)) (fun y s₄ => (∃ u, y = .int (vf k) u) ∧ Keeps s₃ s₄) E' s₃)
    (h : ∀ D h' o tk, Fr h₀ L h' (fun z => if z = y then some (.ref D) else m z) → News h₀ L h' ((D, o) :: news) → (∀ p ∈ news, p.1 < D) → (D == sysModules) = false → DictI prog w ks.length (dictOf kf vf ks) o → Q .next { s with heap := h', toks := tk })
    (hs : ∀ x, foldedSetIterable iter env x = pure x := by intro _; rfl) :
    wpAny (model prog w) A (exec (.Assign [.Name y py] (.DictComp kx vx [⟨.Name x px, iter, [], 0⟩] scope pos) spos) env) Q E s := by
  subst hL
  rw [exec_Assign_Name_used _ _ _ _ hsw]
  refine wpAny_bind (wpAny_standAt (wpAny_bind ?_))
  show wpAny _ A (do let _ ← comprehension (.DictComp kx vx [⟨.Name x px, iter, [], 0⟩] scope pos) scope env _ newDict false (eval iter env) (some (assign (.Name y py) env))) _ _ s
  refine wpAny_bind (wpAny_mono (wpAny_comprehension_free (use := some (assign (.Name y py) env)) (Q := fun _ s' => Q .next s') rfl hs hclos hkind hnames
    (hit _ fun h₁ tk₁ xv F N hsrc => hsrc _ fun h₂ I fp St W hst hfp hk hI hge => ?_)) (fun _ s' hq => wpAny_pure (wpAny_pure hq)) fun _ _ e => e)
  have up : ∀ {h : Heap}, (∀ b o, b ∉ [I] → h₂.get? b = some o → h.get? b = some o) → ∀ b o, h₁.get? b = some o → h.get? b = some o := fun hx b o e => hx b o (not_in_one hI e) (hk b o e)
  refine dict_block (RR := fun acc C => compPost (model prog w) A E (some (assign (.Name y py) env)) (fun _ s' => Q .next s') acc C) (s₂ := { s with heap := h₂, toks := tk₁ }) W hn (FKI kf) (FI vf) hcell hkind hx hst hfp ?_ ?_ ?_
  · intro C i v s₃ m₃ E' hP hns hm hk₃
    obtain ⟨k, t, e, rfl⟩ := hP
    refine wpAny_mono (hkey C k t s₃ m₃ E' (List.mem_of_getElem? e) hns hm (F.keeps (up hk₃)) (news_kept N (up hk₃))) (fun y s₄ hy => ?_) fun _ _ e => e
    obtain ⟨⟨u, rfl⟩, hK⟩ := hy
    exact ⟨⟨kf k, intKind_is prog w _ _, k, t, rfl, rfl⟩, hK⟩
  · intro C i v s₃ m₃ E' hP hns hm hk₃
    obtain ⟨k, t, e, rfl⟩ := hP
    refine wpAny_mono (hval C k t s₃ m₃ E' (List.mem_of_getElem? e) hns hm (F.keeps (up hk₃)) (news_kept N (up hk₃))) (fun y s₄ hy => ?_) fun _ _ e => e
    obtain ⟨⟨u, rfl⟩, hK⟩ := hy
    exact ⟨⟨k, t, u, rfl, rfl⟩, hK⟩
  · intro C h' tk m' kvs vs hC hDC hns' hd hl hP hS hk'
    have hCs : h₁.get? C = none := none_back hk hC
    have hD0 : h₁.get? h₂.objs.size = none := fresh_at _ _ hge
    have hLC : env.locals ≠ C := Ne.symm (fr_ne F hCs)
    have hLD : env.locals ≠ h₂.objs.size := Ne.symm (fr_ne F hD0)
    have F' : Fr h₀ env.locals h' m := F.keeps (up hk')
    show wpAny _ A (assign (.Name y py) env (.ref h₂.objs.size)) _ _ _
    refine wpAny_assign_Name (wpAny_storeName_local hy F'.ns (fun h3 hn3 hs3 => ?_) hp)
    refine ⟨m', hns'.sameBut hs3 (Ne.symm hLC), fun h4 hs4 => ?_⟩
    have hs4' : Heap.SameBut C h3 h4 := hs4
    have hs3' : Heap.SameBut env.locals h' h3 := hs3
    have up2 : ∀ b o, b ≠ env.locals → h₁.get? b = some o → h4.get? b = some o := fun b o hb e => hs4'.extBut b o (fun q => by rw [q, hCs] at e; cases e) (hs3'.extBut b o hb (up hk' b o e))
    obtain ⟨o, ho, hD⟩ := dictI_stored ((hd.extBut hs3'.extBut (Ne.symm hLD)).extBut hs4'.extBut hDC) hS hl hP
    have hL0 : ∀ b o, h₀.get? b = some o → b ≠ env.locals := fun b o e => Nat.ne_of_lt (Nat.lt_of_lt_of_le (Heap.lt_size e) F.above)
    refine h h₂.objs.size h4 o _ ⟨hn3.sameBut hs4' hLC, fun b o e => up2 b o (hL0 b o e) (F.keep b o e), F.above⟩ ?_ (fun q hq => Nat.lt_of_lt_of_le (Heap.lt_size (N q hq).1) hge) ?_ hD
    · intro q hq
      rcases List.mem_cons.mp hq with rfl | hq
      · exact ⟨ho, fr_ne F hD0, none_back F.keep hD0⟩
      · exact ⟨up2 _ _ (N q hq).2.1 (N q hq).1, (N q hq).2⟩
    · have hmods : sysModules < h₂.objs.size := Nat.lt_of_lt_of_le (modules_low hlim) (Nat.le_trans (Nat.le_of_lt (Nat.lt_of_le_of_lt F.above F.ns.lt)) hge)
      simp only [beq_eq_false_iff_ne]
      exact Nat.ne_of_gt hmods
end
end Mine
end

section
open PySem PySem.W PySem.Calls PyProof.Rows PyProof.V PySem.Spec
namespace Mine
section
variable {prog : Program} {w : World} {A : Around} {E : Value → Shared → Prop} {s : Shared} {env : Env} {h₀ : Heap} {L : Addr} {m : PySem.Str → Option Value} {news : List (Addr × Obj)}
  {scope : Scope} {cl : List (PySem.Str × Addr)} {C : Addr} {x : PySem.Str} {pos : Pos}
theorem c_loc {m₃ : PySem.Str → Option Value} {v : Value} {Q : Value → Shared → Prop} (hns : s.heap.Ns C m₃) (hm : m₃ x = some v) (h : Q v s) (hkind : scope.kind = .function) (hx : scope.names.lookup x = some .local) (hd : (x == ("__debug__" : Str)) = false) :
    wpAny (model prog w) A (eval (.Name x pos) (compEnvC scope cl C env)) Q E s :=
  wpAny_Name (wpAny_loadName_local (by simp [compEnvC, relabel, hkind]) (lookup_relabel_local hx) hns hm h) hd
theorem c_free {c : Addr} {o : Obj} {v : Value} {Q : Value → Shared → Prop} (N : News h₀ L s.heap news) (hm : (c, o) ∈ news) (hv : o.data = .cell (some v)) (h : Q v s) (hc : cl.lookup x = some c) (hkind : scope.kind = .function)
    (hx : (compEnvC scope cl C env).kindOf x = some .cell) (hd : (x == ("__debug__" : Str)) = false) :
    wpAny (model prog w) A (eval (.Name x pos) (compEnvC scope cl C env)) Q E s :=
  wpAny_Name (wpAny_loadName_cell (by simp [compEnvC, relabel, hkind]) hx hc ⟨o, N.get hm, hv⟩ h) hd

theorem pick_assign {c y zx : PySem.Str} {p0 p1 p2 p3 p4 px py : Pos} {iter : Expr} {spos : Pos} {Q : Flow → Shared → Prop} {xv : Value} {ks : List Int} {n : Nat} {f : Int → Option Int} {zc d : Addr} {zo o : Obj}
    (D : DictI prog w n f o) (lo : (d == sysModules) = false) (F : Fr h₀ L s.heap m) (N : News h₀ L s.heap news) (hzm : (zc, zo) ∈ news) (hzd : zo.data = .cell (some (.ref d))) (hdm : (d, o) ∈ news)
    (hsrc : Src prog w A E s xv ks.length (IsI ks)) (hn : ks.length ≤ sizeLine)
    (hL : env.locals = L)
    (hsw : swapsWith (.ListComp (.Name c p0) [⟨.Name c px, iter, [.Compare (.Name c p1) [.In] [.Name zx p2] p3], 0⟩] scope p4) (some (.Name y py)) spos.line env = pure true)
    (hclos : closureFor scope env = pure cl) (hcell : ∀ y ∈ scope.names, y.2 ≠ .cell) (hkind : scope.kind = .function)
    (hnames : ∀ y ∈ scope.names, y.2 = .local → scope.names.lookup y.1 = some .local) (hx : scope.names.lookup c = some .local)
    (hy : env.kindOf y = some .local) (hp : (env.scope.kind == .class || (env.scope.kind == .module && env.locals != env.globals)) = false)
    (hzc : cl.lookup zx = some zc) (hzk : ∀ C, (compEnvC scope cl C env).kindOf zx = some .cell) (d1 : (c == ("__debug__" : Str)) = false) (d2 : (zx == ("__debug__" : Str)) = false)
    (hmk : behindInMarks .In (.Name zx p2) = false)
    (hit : ∀ Q' : Value → Shared → Prop, Q' xv s → wpAny (model prog w) A (eval iter env) Q' E s)
    (h : ∀ D' h' tk k vs, Fr h₀ L h' (fun z => if z = y then some (.ref D') else m z) → News h₀ L h' ((D', PySem.W.listOf (List.toArray vs) k) :: news) → (∀ p ∈ news, @Ne Nat p.1 D') → IntsAre vs (ks.filter fun k => (f k).isSome) → Q .next { s with heap := h', toks := tk })
    (hs : ∀ x, foldedSetIterable iter env x = pure x := by intro _; rfl) :
    wpAny (model prog w) A (exec (.Assign [.Name y py] (.ListComp (.Name c p0) [⟨.Name c px, iter, [.Compare (.Name c p1) [.In] [.Name zx p2] p3], 0⟩] scope p4) spos) env) Q E s := by
  refine comp_assign (pI fun k => (f k).isSome) (FI fun k => k) hL hsw hclos hcell hkind hnames hx hy hp hn (fun Q' hQ' => hit Q' (hQ' s.heap s.toks xv F N hsrc)) ?_ ?_ ?_ hs
  · intro C i v s₃ m₃ E' hP hns hm F₃ N₃
    obtain ⟨k, t, e, rfl⟩ := hP
    refine wpAny_tests_one (wpAny_isTrue_Compare1 ?_ hmk)
    refine c_loc hns hm ?_ hkind hx d1
    refine c_free N₃ hzm hzd ?_ hzc hkind (hzk C) d2
    refine inD D lo (N₃.get hdm) ?_
    refine wpAny_truthy_bool ?_
    exact ⟨rfl, s₃.heap, _, rfl, fun _ _ e => e⟩
  · intro C i v s₃ m₃ E' hP hp hns hm F₃ N₃
    obtain ⟨k, t, e, rfl⟩ := hP
    exact c_loc hns hm ⟨⟨k, t, t, rfl, rfl⟩, s₃.heap, s₃.toks, rfl, fun _ _ e => e⟩ hkind hx d1
  · intro D' h' tk k ys vs F' N' ne hl hP hF
    have hI := ints_comp hl hP hF
    rw [List.map_id'] at hI
    exact h D' h' tk k ys.toList F' (by simpa using N') ne hI
end
end Mine
end

section
open PySem PySem.W PySem.Calls PyProof.Rows PyProof.V PySem.Spec
namespace Mine
def AltEnd (h₀ : Heap) (L : Addr) (x : PySem.Str) (m₀ : PySem.Str → Option Value) (g : Obj → List (Addr × Obj)) (own : List (Addr × Obj)) (P : Obj → Prop) (s : Shared) (fl : Flow) (s' : Shared) : Prop :=
  fl = .next ∧ ∃ h' tk o m' news', s' = { s with heap := h', toks := tk } ∧ Fr h₀ L h' m' ∧ (∀ z, z ≠ x → m' z = m₀ z) ∧ News h₀ L h' news' ∧ (∀ p ∈ g o, p ∈ news') ∧ (∀ p ∈ own, p ∈ news') ∧ P o
theorem alt_end {h₀ h' : Heap} {L : Addr} {x : PySem.Str} {m₀ m' : PySem.Str → Option Value} {g : Obj → List (Addr × Obj)} {own news' : List (Addr × Obj)} {P : Obj → Prop} {s : Shared} {tk : Nat} {o : Obj}
    (hp : P o) (F : Fr h₀ L h' m') (N : News h₀ L h' news') (hm : ∀ z, z ≠ x → m' z = m₀ z) (h1 : ∀ p ∈ g o, p ∈ news') (h2 : ∀ p ∈ own, p ∈ news') : AltEnd h₀ L x m₀ g own P s .next { s with heap := h', toks := tk } :=
  ⟨rfl, h', tk, o, m', news', rfl, F, hm, N, h1, h2, hp⟩
theorem updF_map {d : Addr} {o : Obj} {news : List (Addr × Obj)} {g : Obj → List (Addr × Obj)} (U : UpdF d o news g) (o' : Obj) : (g o').map (·.1) = news.map (·.1) := by
  obtain ⟨pre, post, rfl, hg, _, _⟩ := U.split
  rw [hg o']; simp
theorem updF_self {d : Addr} {o : Obj} {news : List (Addr × Obj)} {g : Obj → List (Addr × Obj)} (U : UpdF d o news g) : g o = news := by
  obtain ⟨pre, post, rfl, hg, _, _⟩ := U.split
  rw [hg o]
section
variable {prog : Program} {w : World} {A : Around} {E : Value → Shared → Prop} {s : Shared} {env : Env} {h₀ : Heap} {x : PySem.Str} {body : List Stmt} {Q : Flow → Shared → Prop}
theorem loop_b_obj {b : Array UInt8} {ks : List Int} {tb : Tok} {m₀ : PySem.Str → Option Value} {news : List (Addr × Obj)} {d : Addr} {o : Obj} {g : Obj → List (Addr × Obj)} (P : List Int → Obj → Prop)
    (U : UpdF d o news g) (hb : KBw.bInts b = ks) (hh : A.handled = none) (F : Fr h₀ env.locals s.heap m₀) (N : News h₀ env.locals s.heap news) (hp : P [] o)
    (turn : ∀ (o' : Obj) (pre post : List Int) (n : Int) t (m₁ : PySem.Str → Option Value) h tk own, ks = pre ++ n :: post → OwnOff own (news.map (·.1)) → P pre o' →
      (∀ z, z ≠ x → m₁ z = m₀ z) → Fr h₀ env.locals h (fun y => if y = x then some (.int n t) else m₀ y) → News h₀ env.locals h (g o' ++ own) →
      wpAny (model prog w) A (execs body env) (AltEnd h₀ env.locals x m₀ g own (P (pre ++ [n])) { s with heap := h, toks := tk }) E { s with heap := h, toks := tk })
    (done : ∀ (o' : Obj) (u : Option Value) h tk, P ks o' → Fr h₀ env.locals h (fun y => if y = x then u else m₀ y) → News h₀ env.locals h (g o') → Q .next { s with heap := h, toks := tk }) :
    wpAny (model prog w) A (pyIter (.bytes b tb)) (fun it s₂ => LoopAtV prog w A h₀ env x body Q E it s₂) E s := by
  have eg := updF_self U
  refine KStb.kst_bytes (σ := Obj) g (fun _ => []) (fun _ => True) [] P o hb rfl hh F (eg ▸ N) trivial (fun _ h => (nomatch h)) hp ?_ ?_
  · intro c pre post n t u h tk own e1 e2 e3 e4 e5 e6 e7 F' N'
    have F1 : Fr h₀ env.locals h (fun y => if y = x then some (.int n t) else m₀ y) := by
      refine Eq.mp (congrArg (fun z => Fr h₀ env.locals h z) ?_) F'
      funext y; split <;> rfl
    refine wpAny_mono (turn c pre post n t m₀ h tk own e1 (eg ▸ e5) e7 (fun _ _ => rfl) F1 N') (fun fl s' hl => ?_) fun _ _ e => e
    obtain ⟨rfl, h', tk', o', m', news', rfl, F2, hm, N2, a1, a2, a3⟩ := hl
    exact ⟨h', tk', m', news', g o', rfl, F2, N2, a1, a2, by rw [updF_map U, eg], o', rfl, trivial, (fun _ h => nomatch h), fun z hz _ _ => hm z hz, a3⟩
  · intro c u h tk e0 e6 e7 F' N'
    exact done c (u x) h tk e7 (by
      have e : (fun y => if y = x then u x else m₀ y) = (fun y => if y = x then u y else m₀ y) := by
        funext y; split
        · rename_i hy; rw [hy]
        · rfl
      rw [e]; exact F') N'
end
theorem ite_not {b : Bool} {P Q : Prop} (h : b = false) (x : Q) : if b = true then P else Q := by subst h; simpa using x
theorem one_or {vs : List Value} {ks : List Int} (hI : IntsAre vs ks) : (∃ p t, vs = [.int p t] ∧ ks = [p]) ∨ (vs.length ≠ 1 ∧ ks.length ≠ 1) := by
  cases hI with
  | nil => exact .inr ⟨by decide, by decide⟩
  | cons n t r => cases r with
    | nil => exact .inl ⟨n, t, rfl, rfl⟩
    | cons n' t' r' => exact .inr ⟨by simp, by simp⟩
theorem fixg_other {f : Int → Option Int} {g : List Int} (h : (g.filter fun c => (f c).isSome).length ≠ 1) : fixg f g = f := by
  unfold fixg
  split
  · rename_i p hp; rw [hp] at h; simp at h
  · rfl
theorem fixg_one {f : Int → Option Int} {g : List Int} {p v : Int} (h : (g.filter fun c => (f c).isSome) = [p]) (hv : f p = some v) : fixg f g = g.foldl (fun f' a => upd f' a v) f := by
  unfold fixg
  rw [h]
  simp only [hv, Option.getD_some]
theorem one_value {f : Int → Option Int} {g : List Int} {p : Int} (h : (g.filter fun c => (f c).isSome) = [p]) : ∃ v, f p = some v := by
  have hm : p ∈ g.filter fun c => (f c).isSome := by rw [h]; exact .head _
  exact Option.isSome_iff_exists.mp (List.mem_filter.mp hm).2
theorem upds_at {v p : Int} : ∀ (l : List Int) (f : Int → Option Int), f p = some v → l.foldl (fun f' a => upd f' a v) f p = some v
  | [], f, h => h
  | a :: l, f, h => upds_at l _ (by unfold upd; by_cases hp : p = a <;> simp [hp] <;> (try (subst hp)) <;> (try exact h))

theorem DictI.fix {prog : Program} {w : World} {n : Nat} {f g : Int → Option Int} {o : Obj} (D : DictI prog w n f o) (e : g = f) : DictI prog w n g o := e ▸ D
theorem DictI.more {prog : Program} {w : World} {n n' : Nat} {f : Int → Option Int} {o : Obj} (D : DictI prog w n f o) (e : n ≤ n') : DictI prog w n' f o :=
  let ⟨kvs, T, a, b, c, d⟩ := D; ⟨kvs, T, a, b, c, Nat.le_trans d e⟩
section
variable {prog : Program} {w : World} {A : Around} {E : Value → Shared → Prop} {s : Shared} {env : Env} {h₀ : Heap} {L : Addr} {m : PySem.Str → Option Value} {news : List (Addr × Obj)}
  {scope : Scope} {cl : List (PySem.Str × Addr)} {C : Addr} {x : PySem.Str} {pos : Pos}
theorem pick_split {c y zx : PySem.Str} {p0 p1 p2 p3 p4 px py : Pos} {iter : Expr} {spos : Pos} {Q : Flow → Shared → Prop} {b : Array UInt8} {tb : Tok} {ks : List Int} {n : Nat} {f : Int → Option Int} {zc d : Addr} {zo o : Obj}
    (D : DictI prog w n f o) (lo : (d == sysModules) = false) (F : Fr h₀ L s.heap m) (N : News h₀ L s.heap news) (hzm : (zc, zo) ∈ news) (hzd : zo.data = .cell (some (.ref d))) (hdm : (d, o) ∈ news)
    (hks : KBw.bInts b = ks) (hn : ks.length ≤ 1000) (hh : A.handled = none)
    (hL : env.locals = L)
    (hsw : swapsWith (.ListComp (.Name c p0) [⟨.Name c px, iter, [.Compare (.Name c p1) [.In] [.Name zx p2] p3], 0⟩] scope p4) (some (.Name y py)) spos.line env = pure true)
    (hclos : closureFor scope env = pure cl) (hcell : ∀ y ∈ scope.names, y.2 ≠ .cell) (hkind : scope.kind = .function)
    (hnames : ∀ y ∈ scope.names, y.2 = .local → scope.names.lookup y.1 = some .local) (hx : scope.names.lookup c = some .local)
    (hy : env.kindOf y = some .local) (hp : (env.scope.kind == .class || (env.scope.kind == .module && env.locals != env.globals)) = false)
    (hzc : cl.lookup zx = some zc) (hzk : ∀ C, (compEnvC scope cl C env).kindOf zx = some .cell) (d1 : (c == ("__debug__" : Str)) = false) (d2 : (zx == ("__debug__" : Str)) = false)
    (hmk : behindInMarks .In (.Name zx p2) = false)
    (hit : ∀ Q' : Value → Shared → Prop, Q' (.bytes b tb) s → wpAny (model prog w) A (eval iter env) Q' E s)
    (h1 : ∀ D' h' tk k p t v, Fr h₀ L h' (fun z => if z = y then some (.ref D') else m z) → News h₀ L h' ((D', PySem.W.listOf #[.int p t] k) :: news) → (∀ p ∈ news, @Ne Nat p.1 D') → (ks.filter fun k => (f k).isSome) = [p] → f p = some v → Q .next { s with heap := h', toks := tk })
    (h2 : ∀ D' h' tk k vs, Fr h₀ L h' (fun z => if z = y then some (.ref D') else m z) → News h₀ L h' ((D', PySem.W.listOf (List.toArray vs) k) :: news) → (∀ p ∈ news, @Ne Nat p.1 D') → vs.length ≠ 1 → vs.length ≤ 1000 → DictI prog w n (fixg f ks) o → Q .next { s with heap := h', toks := tk })
    (hs : ∀ x, foldedSetIterable iter env x = pure x := by intro _; rfl) :
    wpAny (model prog w) A (exec (.Assign [.Name y py] (.ListComp (.Name c p0) [⟨.Name c px, iter, [.Compare (.Name c p1) [.In] [.Name zx p2] p3], 0⟩] scope p4) spos) env) Q E s := by
  refine pick_assign D lo F N hzm hzd hdm (src_bytes (t := tb) hks hh) (by rw [sizeLine_eq]; omega) hL hsw hclos hcell hkind hnames hx hy hp hzc hzk d1 d2 hmk hit (fun D' h' tk k vs F' N' ne hI => ?_) hs
  rcases one_or hI with ⟨p, t, rfl, hf⟩ | ⟨hv, hf⟩
  · obtain ⟨v, hv⟩ := one_value hf
    exact h1 D' h' tk k p t v F' (by simpa using N') ne hf hv
  · exact h2 D' h' tk k vs F' N' ne hv (by rw [hI.length]; exact Nat.le_trans (List.length_filter_le _ _) hn) (D.fix (fixg_other hf))
end
section
variable {prog : Program} {w : World} {A : Around} {E : Value → Shared → Prop} {s : Shared} {env : Env} {h₀ : Heap} {x : PySem.Str} {body : List Stmt} {Q : Flow → Shared → Prop}
theorem loop_alt {b : Array UInt8} {ks : List Int} {tb : Tok} {m₀ : PySem.Str → Option Value} {news : List (Addr × Obj)} {d : Addr} {o : Obj} {g : Obj → List (Addr × Obj)} {n : Nat} {f : Int → Option Int} {p v : Int}
    (lo : (d == sysModules) = false) (hf : (ks.filter fun k => (f k).isSome) = [p]) (hv : f p = some v) (D : DictI prog w n f o) (U : UpdF d o news g) (hb : KBw.bInts b = ks) (hk3 : ks.length ≤ 3) (hn : n + 3 ≤ 1000) (hh : A.handled = none) (F : Fr h₀ env.locals s.heap m₀) (N : News h₀ env.locals s.heap news)
    (turn : ∀ (o' : Obj) (f' : Int → Option Int) (k : Nat) (a : Int) t h tk own, OwnOff own (news.map (·.1)) → DictI prog w k f' o' → f' p = some v → k ≤ 1000 →
      Fr h₀ env.locals h (fun y => if y = x then some (.int a t) else m₀ y) → News h₀ env.locals h (g o' ++ own) →
      wpAny (model prog w) A (execs body env) (AltEnd h₀ env.locals x m₀ g own (DictI prog w (k + 1) (upd f' a v)) { s with heap := h, toks := tk }) E { s with heap := h, toks := tk })
    (done : ∀ (o' : Obj) (u : Option Value) h tk, DictI prog w (n + 3) (fixg f ks) o' → Fr h₀ env.locals h (fun y => if y = x then u else m₀ y) → News h₀ env.locals h (g o') → Q .next { s with heap := h, toks := tk }) :
    wpAny (model prog w) A (pyIter (.bytes b tb)) (fun it s₂ => LoopAtV prog w A h₀ env x body Q E it s₂) E s := by
  refine loop_b_obj (fun pre o' => DictI prog w (n + pre.length) (pre.foldl (fun f' a => upd f' a v) f) o') U hb hh F N D ?_ ?_
  · intro o' pre post a t m₁ h tk own e1 e2 e3 _ F' N'
    have hl : pre.length ≤ ks.length := by rw [e1, List.length_append]; omega
    refine wpAny_mono (turn o' _ _ a t h tk own e2 e3 (upds_at pre f hv) (by omega) F' N') (fun fl s' hl => ?_) fun _ _ e => e
    obtain ⟨r, h', tk', o2, m', news', r2, F2, hm, N2, a1, a2, a3⟩ := hl
    refine ⟨r, h', tk', o2, m', news', r2, F2, hm, N2, a1, a2, ?_⟩
    rw [List.length_append, List.foldl_append]
    exact a3
  · intro o' u h tk e3 F' N'
    exact done o' u h tk ((e3.fix (fixg_one hf hv)).more (by omega)) F' N'
end
section
variable {prog : Program} {w : World} {A : Around} {E : Value → Shared → Prop} {s : Shared}
theorem itemL1 {value slice : Expr} {l : Addr} {v : Value} {n : Nat} {u : Tok} {Q : Value → Shared → Prop} (ho : s.heap.get? l = some (PySem.W.listOf #[v] n)) (h : Q v s)
    (hs : subscripted slice false (.ref l) (.int 0 u) = operate [.ref l, .int 0 u] (getItem (.ref l) (.int 0 u)) := by with_unfolding_all rfl) (hg : ∀ r, letTemporaryGo value (.ref l) r = pure () := by intro _; with_unfolding_all rfl) :
    wpAny (model prog w) A (subscriptTail value slice (.ref l) (.int 0 u)) Q E s :=
  PyProof.Rows.item_list (items := #[v]) ⟨_, ho, rfl, n, rfl⟩ (by decide) (by decide) rfl h hs hg
end
theorem map_end {prog : Program} {w : World} {g h : Heap} {L D : Addr} {o : Obj} {news : List (Addr × Obj)} {n : Nat} {f F : Int → Option Int} (hm : (D, o) ∈ news) (N : News g L h news) (X : DictI prog w n f o) (lo : (D == sysModules) = false) (hn : n ≤ 64) (hf : F = f) :
    ∃ D' o', Value.ref D = .ref D' ∧ g.get? D' = none ∧ h.get? D' = some o' ∧ (D' == sysModules) = false ∧ DictI prog w 64 F o' :=
  ⟨D, o, rfl, (N _ hm).2.2, (N _ hm).1, lo, (X.more hn).fix hf⟩
end Mine
end

section
open PySem PySem.W PySem.Calls PyProof.Rows PyProof.V PySem.Spec
namespace Mine
theorem filled_map (w : World) : Challenge.rw_eg5004_01.row.prog = Challenge.rw_eg5004_01.row.prog ∧ hd.heap_39 w.params = hd.heap_39 w.params := by
  k_fill
  exact ⟨rfl, rfl⟩
variable (w : World) (mean : ExcName → Option Value) (mg mb : PySem.Str → Option Value)
local macro_rules | `(tactic| walk_at "my_open") => `(tactic| (
  (case k1 => k_is)
  (case k2 => k_is)
  (case k3 => (intro sX XX; first | exact BindsTo.of_eq rfl | exact binds_K XX rfl (by k_is) rfl rfl rfl))
  (case k4 => exact locs rfl)
  (case k5 => exact rfl)
  (case k6 => exact rfl)
  (case k7 => exact rfl)
  (case k8 => decide)))
local macro_rules | `(tactic| walk_at "my_one") => `(tactic| first | exact ints_zero | exact first_cut (by assumption) (by assumption) | rfl)
local macro_rules | `(tactic| walk_at "getMethod bytes") => `(tactic| (k_here; first | (with_reducible refine method_lstrip ?_) | (with_reducible refine method_rstrip ?_)))
local macro_rules | `(tactic| walk_at "call builtin:bytes.lstrip") => `(tactic| (k_here; k_dflt (refine' lstrip_K ?sa1 ?sa2 ?sa3 ?_; (case sa1 => kba_ints2); (case sa2 => walk_at "my_one"); (case sa3 => kba_size)); intro _ _ _ myLs; have myLl := lstrip_len myLs))
local macro_rules | `(tactic| walk_at "call builtin:bytes.rstrip") => `(tactic| (k_here; k_dflt (refine' rstrip_K ?sa1 ?sa2 ?sa3 ?_; (case sa1 => kba_ints2); (case sa2 => assumption); (case sa3 => kba_size)); intro _ _ _ myRs))
local macro_rules | `(tactic| walk_at "binaryOp Mult bytes int") => `(tactic| (k_here; k_dflt (refine' mul_K ?sa1 ?sa2 ?sa3 ?_; (case sa1 => walk_at "my_one"); (case sa2 => kba_size); (case sa3 => kba_size)); intro _ _ _ myMu myMl))
local macro_rules | `(tactic| walk_at "callWith ref") => `(tactic| (k_here; kfb_any; k_dflt (refine' callWith_boundKW ?sa1 ?sa2 ?sa3 ?_; (case sa1 => k_asm); (case sa2 => k_mem); (case sa3 => exact rfl); k_whole)))
local macro_rules | `(tactic| walk_at "call ref") => `(tactic| (k_here; (with_reducible show wpAny _ _ (call (Value.ref _) [Value.bytes _ _] _) _ _ _); kfb_any; k_dflt (refine fb_call (by k_asm) (by k_mem) (by kba_ints2) (by kba_size) ?_); intro _ _ myV0 myV1))

local macro_rules | `(tactic| walk_at "my_use") => `(tactic| (
  (case ua1 => k_asm); (case ua2 => k_asm); (case ua3 => k_asm); (case ua4 => k_asm); (case ua5 => k_asm); (case ua6 => exact rfl); (case ua7 => exact rfl); (case ua8 => omega); (case ua9 => omega)))
local macro_rules | `(tactic| walk_at "my_after") => `(tactic| ((try dsimp only); (try k_fold); (try k_sweep)))


local macro_rules | `(tactic| walk_at "my_openC") => `(tactic| (
  (case k1 => k_is)
  (case k2 => k_is)
  (case k3 => (intro sX XX; first | exact BindsTo.of_eq rfl | exact binds_K XX rfl (by k_is) rfl rfl rfl))
  (case k4 => exact kinds_of' rfl)
  (case k5 => decide +kernel)
  (case k6 => exact rfl)
  (case k7 => exact rfl)
  (case k8 => exact rfl)))
local macro_rules | `(tactic| walk_at "call type:enumerate") => `(tactic| (k_here; assumption))
local macro_rules | `(tactic| walk_at "eval DictComp") => `(tactic| (k_here; k_dflt (refine' enum_dict (al := _) ?ed1 ?ed2 ?ed3 ?ed4 ?ed5 ?ed6 ?ed7 ?ed8 ?ed9 ?ed10 ?ed11 ?ed12 ?ed13 ?ed14 ?ed15 ?ed16 ?_; (case ed1 => assumption); (case ed2 => omega); (case ed3 => rfl); (case ed4 => k_asm); (case ed5 => k_asm); (case ed6 => exact Top.nolimit (by assumption)); (case ed7 => rfl); (case ed8 => decide); (case ed9 => rfl); (case ed10 => decide); (case ed11 => rfl); (case ed12 => rfl); (case ed13 => decide); (case ed14 => decide); (case ed15 => decide); (case ed16 => (intro Q' hQ'; k_steps))); intro myD myh' myo mytk F' N' myLt myLow myDI; (try k_lt myLt); (try k_fold); (try k_sweep)))
local macro_rules | `(tactic| walk_at "my_at") => `(tactic| first | (refine' News.get ?mya1 ?mya2; (case mya1 => k_asm); (case mya2 => k_mem)) | (refine' Fr.keep ?mya1 _ _ ?mya2; (case mya1 => k_asm); (case mya2 => assumption)))
local macro_rules | `(tactic| walk_at "my_lo") => `(tactic| assumption)
local macro_rules | `(tactic| walk_at "my_in") => `(tactic| assumption)
local macro_rules | `(tactic| walk_at "compareOp In int ref") => `(tactic| (k_here; k_dflt (refine' inD ?xa2 ?xa3 ?xa1 ?_; (case xa1 => walk_at "my_at"); (case xa2 => assumption); (case xa3 => assumption))))
local macro_rules | `(tactic| walk_at "compareOp NotIn int ref") => `(tactic| (k_here; k_dflt (refine' notinD ?xa2 ?xa3 ?xa1 ?_; (case xa1 => walk_at "my_at"); (case xa2 => assumption); (case xa3 => assumption))))
local macro_rules | `(tactic| walk_at "subscriptTail") => `(tactic| (k_here; (with_reducible show wpAny _ _ (subscriptTail _ _ (Value.ref _) (Value.int _ _)) _ _ _); k_dflt (refine' itemD ?xc2 ?xc3 ?xc1 ?xc4 ?_; (case xc1 => walk_at "my_at"); (case xc2 => assumption); (case xc3 => assumption); (case xc4 => assumption)); intro _))
local macro_rules | `(tactic| walk_at "subscriptTail") => `(tactic| (k_here; (with_reducible show wpAny _ _ (subscriptTail _ _ (Value.ref _) (Value.int 0 _)) _ _ _); k_dflt (refine' itemL1 ?xc1 ?_; (case xc1 => walk_at "my_at"))))
local macro_rules | `(tactic| walk_at "setItem ref int") => `(tactic| (k_here; k_dflt (refine' setD ?xb5 ?xb1 ?xb2 ?xb3 ?xb4 ?_; (case xb1 => k_asm); (case xb2 => k_asm); (case xb3 => k_updF); (case xb5 => assumption); (case xb4 => omega)); intro h' o' F' N' hd'; (try dsimp only at N'); (try k_sweep)))
local macro_rules | `(tactic| walk_at "my_id") => `(tactic| (intro myQ hmyQ; k_steps; exact hmyQ))
local macro_rules | `(tactic| walk_at "my_ne") => `(tactic| skip)
local macro_rules | `(tactic| walk_at "exec Assign cons ListComp") => `(tactic| (k_here; k_dflt (refine' pick_split ?pa1 ?pa2 ?pa3 ?pa4 ?pa5 ?pa6 ?pa7 ?pa8 ?pa9 ?pa25 ?pa10 ?pa11 ?pa12 ?pa13 ?pa14 ?pa15 ?pa16 ?pa17 ?pa18 ?pa19 ?pa20 ?pa21 ?pa22 ?pa23 ?pa24 ?_ ?_; (case pa3 => k_asm); (case pa4 => k_asm); (case pa12 => with_unfolding_all rfl); (case pa19 => rfl); (case pa5 => k_mem); (case pa6 => k_asm); (case pa7 => k_mem); (case pa1 => assumption); (case pa2 => assumption); (case pa24 => walk_at "my_id"); (case pa8 => exact rfl); (case pa9 => decide); (case pa25 => rfl); (case pa10 => rfl); (case pa11 => with_unfolding_all rfl); (case pa13 => decide); (case pa14 => rfl); (case pa15 => decide); (case pa16 => rfl); (case pa17 => rfl); (case pa18 => rfl); (case pa20 => exact fun _ => rfl); (case pa21 => decide); (case pa22 => decide); (case pa23 => with_unfolding_all rfl)); rotate_left; (intro myP myh' mytk myk myvs F' N' myNe myVl myVs myDI; (simp only [List.forall_mem_cons, List.not_mem_nil, false_implies, implies_true, and_true] at myNe); (try k_fold); (try k_sweep)); rotate_left; (intro myP myh' mytk myk myp myt myv F' N' myNe myFi myFv; (simp only [List.forall_mem_cons, List.not_mem_nil, false_implies, implies_true, and_true] at myNe); (try k_fold); (try k_sweep))))
local macro_rules | `(tactic| walk_at "call builtin:len") => `(tactic| (k_here; k_dflt (refine' kst_len ?xd1 ?xd2 ?xd3 ?xd4 ?_; (case xd1 => k_asm); (case xd2 => k_mem); (case xd3 => exact rfl); (case xd4 => omega))))
local macro_rules | `(tactic| walk_at "ite") => `(tactic| (refine' ite_not ?nn ?_; (case nn => ((first | refine beq_eq_false_iff_ne.mpr ?_ | refine decide_eq_false ?_); omega))))
local macro_rules | `(tactic| walk_at "AltEnd") => `(tactic| (refine' alt_end ?xe1 ?xe2 ?xe3 ?xe4 ?xe5 ?xe6; (case xe1 => assumption); (case xe2 => k_asm); (case xe3 => k_asm); (case xe4 => (intro z hz; simp [hz])); (case xe5 => (intro p hp; simp at hp ⊢; simp [hp])); (case xe6 => (intro p hp; simp [hp]))))
theorem c_map (b : Array UInt8) (al : List Int) (hal : KBw.bInts b = al) (hl : al.length = 58) (t : Tok) (fix : Bool) :
    Call w mean mg mb 42 1 8 [.bytes b t] [(Str.ofString "autofix", .bool fix)] (fun h => True) (fun g h v => ∃ D o, v = .ref D ∧ g.get? D = none ∧ h.get? D = some o ∧ (D == sysModules) = false ∧ DictI PP w 64 (mapOf al fix) o) := by
  refine' call_ofC (binds := [(Str.ofString "alphabet", .bytes b t), (Str.ofString "autofix", .bool fix)]) ?k1 ?k2 ?k3 ?k4 ?k5 ?k6 ?k7 ?k8 ?_
  walk_at "my_openC"
  intro dp un gd env outer base s L h₁ tk0 cells hD hU B X T hl F N Y
  k_cells Y
  (try dsimp only)
  (try k_fold)
  k_with_none
  (k_with "pyIter bytes" => (refine' loop_alt ?la0 ?la1 ?la2 ?la3 ?la4 ?la5 ?la10 ?la6 ?la7 ?la8 ?la9 ?_ ?_; (case la0 => assumption); (case la8 => assumption); (case la9 => assumption); (case la1 => assumption); (case la2 => assumption); (case la3 => assumption); (case la4 => k_updF); (case la5 => rfl); (case la10 => decide); (case la6 => omega); (case la7 => with_unfolding_all rfl); rotate_left; (intro my1 my2 my3 my4 myDI F' N'; (try dsimp only at N'); (try k_fold); (try k_sweep)); rotate_left; (intro my1 my2 my3 my4 my5 my6 my7 my8 myOff myDI myFv my9 F' N'; (try dsimp only at N'); (try simp only [List.cons_append, List.nil_append] at N'); (try k_fold); (try k_sweep))))
  w_top off
  k_steps
  all_goals (try dsimp only)
  all_goals first
    | (refine' alt_end ?xe1 ?xe2 ?xe3 ?xe4 ?xe5 ?xe6; (case xe2 => k_asm); (case xe3 => k_asm); (case xe1 => assumption); (case xe4 => (intro z hz; simp [hz])); (case xe5 => exact fun p hp => List.mem_append_left _ hp); (case xe6 => (intro p hp; simp [hp])))
    | (refine back_of (by assumption) ?_; refine' map_end ?xf1 ?xf2 ?xf3 ?xf4 ?xf5 ?xf6; (case xf2 => k_asm); (case xf1 => k_mem); (case xf3 => assumption); (case xf4 => assumption); (case xf5 => omega); (case xf6 => first | (rw [mapOf, if_pos (by assumption)]; rfl) | (rw [show fix = false by assumption]; rfl)))
end Mine
end

section
open PySem PySem.W PySem.Calls PyProof.Rows PyProof.V PySem.Spec
namespace Mine
def CellEnd (h₀ : Heap) (L : Addr) (stored : List PySem.Str) (m₀ : PySem.Str → Option Value) (g : Obj → Obj → List (Addr × Obj)) (own : List (Addr × Obj)) (P : Obj → Prop) (s : Shared) (fl : Flow) (s' : Shared) : Prop :=
  fl = .next ∧ ∃ h' tk o c v m' news', s' = { s with heap := h', toks := tk } ∧ Fr h₀ L h' m' ∧ (∀ z, stored.contains z = false → m' z = m₀ z) ∧ News h₀ L h' news' ∧ (∀ p ∈ g o c, p ∈ news') ∧ (∀ p ∈ own, p ∈ news') ∧ c.data = .cell v ∧ P o
theorem cell_end {h₀ h' : Heap} {L : Addr} {stored : List PySem.Str} {m₀ m' : PySem.Str → Option Value} {g : Obj → Obj → List (Addr × Obj)} {own news' : List (Addr × Obj)} {P : Obj → Prop} {s : Shared} {tk : Nat} {o c : Obj} {v : Option Value}
    (hp : P o) (hc : c.data = .cell v) (F : Fr h₀ L h' m') (N : News h₀ L h' news') (hm : ∀ z, stored.contains z = false → m' z = m₀ z) (h1 : ∀ p ∈ g o c, p ∈ news') (h2 : ∀ p ∈ own, p ∈ news') : CellEnd h₀ L stored m₀ g own P s .next { s with heap := h', toks := tk } :=
  ⟨rfl, h', tk, o, c, v, m', news', rfl, F, hm, N, h1, h2, hc, hp⟩
theorem updF_app {d : Addr} {o : Obj} {own : List (Addr × Obj)} : ∀ {l : List (Addr × Obj)} {g : Obj → List (Addr × Obj)}, UpdF d o l g → (∀ p ∈ own, p.1 ≠ d) → UpdF d o (l ++ own) (fun o' => g o' ++ own)
  | _, _, .head (r := r) h, hx => .head fun p hp => (List.mem_append.mp hp).elim (h p) (hx p)
  | _, _, .tail h r, hx => .tail h (updF_app r hx)
section
variable {prog : Program} {w : World} {A : Around} {E : Value → Shared → Prop} {s : Shared} {h₀ : Heap} {L a : Addr} {cn : PySem.Str} {cs : Scope} {ccd : Value} {cl : List (PySem.Str × Addr)} {x : PySem.Str} {body : List Stmt} {Q : Flow → Shared → Prop}
theorem for_cell {px pos : Pos} {iter : Expr} {ax cx d : Addr} {vs : List Value} {ks : List Int} {m₀ : PySem.Str → Option Value} {news : List (Addr × Obj)} {o c : Obj} {v₀ : Option Value} {g : Obj → Obj → List (Addr × Obj)}
    (stored : List PySem.Str) (P : List Int → Obj → Prop)
    (hax : h₀.IsTuple ax vs.toArray) (hi : IntsAre vs ks) (hh : A.handled = none) (F : Fr h₀ L s.heap m₀) (N : News h₀ L s.heap news)
    (hgn : g o c = news) (hgU : ∀ o' c', UpdF cx c' (g o' c') (fun c'' => g o' c'')) (hga : ∀ o' c', (g o' c').map (·.1) = news.map (·.1))
    (hcd : c.data = .cell v₀) (hcx : cl.lookup x = some cx) (hk : cs.kind = .function) (hx : (envX cn cs L a ccd cl).kindOf x = some .cell) (hp : P [] o)
    (hit : ∀ Q' : Value → Shared → Prop, Q' (.ref ax) s → wpAny (model prog w) A (eval iter (envX cn cs L a ccd cl)) Q' E s)
    (turn : ∀ (s₁ : Shared) (o' c' : Obj) (pre post : List Int) (n : Int) t (u : PySem.Str → Option Value) h tk own, ks = pre ++ n :: post → OwnOff own (news.map (·.1)) → P pre o' → c'.data = .cell (some (.int n t)) →
      Fr h₀ L h (fun y => if stored.contains y then u y else m₀ y) → News h₀ L h (g o' c' ++ own) →
      wpAny (model prog w) A (execs body (envX cn cs L a ccd cl)) (CellEnd h₀ L stored m₀ g own (P (pre ++ [n])) { s₁ with heap := h, toks := tk }) E { s₁ with heap := h, toks := tk })
    (done : ∀ (o' c' : Obj) (v' : Option Value) (u : PySem.Str → Option Value) h tk, P ks o' → c'.data = .cell v' → Fr h₀ L h (fun y => if stored.contains y then u y else m₀ y) → News h₀ L h (g o' c') → Q .next { s with heap := h, toks := tk })
    (hs : ∀ x, foldedSetIterable iter (envX cn cs L a ccd cl) x = pure x := by intro _; rfl)
    (hE : PassesOwn (model prog w) A (envX cn cs L a ccd cl) E := by passes_own) :
    wpAny (model prog w) A (exec (.For (.Name x px) iter body [] pos) (envX cn cs L a ccd cl)) Q E s := by
  subst hgn
  have haxs : s.heap.IsTuple ax vs.toArray := let ⟨ob, e, r⟩ := hax; ⟨ob, F.keep _ _ e, r⟩
  have hlt : ax < s.heap.objs.size := by obtain ⟨_, e, _⟩ := haxs; exact Heap.lt_size e
  refine For_invT h₀ (hit _ (wpAny_pyIter_tuple haxs ?_)) hs hE
  have W := Walks.tuple (prog := prog) (w := w) hh s.heap.objs.size ax (Nat.ne_of_lt hlt) vs.toArray
  have fresh0 : h₀.get? s.heap.objs.size = none := none_back F.keep (fresh_at _ _ (Nat.le_refl _))
  have axL : L ≠ ax := by
    rintro rfl
    obtain ⟨_, e, _⟩ := hax
    exact absurd (Nat.lt_of_lt_of_le (Heap.lt_size e) F.above) (Nat.lt_irrefl _)
  refine ⟨s.heap.objs.size, _, _, _, _, _, m₀, g o c, fun i m₁ nx => ∃ o' c' v', nx = g o' c' ∧ c'.data = .cell v' ∧ (∀ z, stored.contains z = false → m₁ z = m₀ z) ∧ P (ks.take i) o', rfl, W, ?_, ?_, ?_, ⟨⟨_, Heap.get?_push_size _ rfl, rfl, rfl⟩, haxs.push _⟩, F.push _, fun p hp => ⟨Heap.get?_push_of_some _ (N p hp).1, (N p hp).2⟩, ?_, ⟨o, c, v₀, rfl, hcd, fun _ _ => rfl, by simpa using hp⟩, ?_, ?_⟩
  · intro hm
    rcases List.mem_cons.mp hm with e | hm
    · exact Nat.lt_irrefl _ (e ▸ F.ns.lt)
    · exact axL (List.mem_singleton.mp hm)
  · intro b hb; rw [List.mem_singleton.mp hb]; exact fresh0
  · intro p hp hI
    exact absurd (Heap.lt_size (N p hp).1) ((List.mem_singleton.mp hI) ▸ Nat.lt_irrefl _)
  · intro i s' v Q' hst hQ
    exact wpAny_of_eq (a := ()) rfl hQ
  · rintro i v m₁ news₁ s₁ own hin hP ⟨o', c', v', rfl, hc', hm₁, hp'⟩ hnw hof hog _ hst F₁ N₁
    obtain ⟨n, t, hn, rfl⟩ := ints_get' hi (by simpa using hP)
    have ownI : ∀ p ∈ own, p.1 = s.heap.objs.size := fun p hp => by
      rcases List.mem_cons.mp (hof p hp) with e | e
      · exact e
      · obtain ⟨_, e', _⟩ := hax
        have := (N₁ p (List.mem_append_left _ hp)).2.2
        rw [List.mem_singleton.mp e, e'] at this; cases this
    have hoff : OwnOff own ((g o c).map (·.1)) := fun p hp b hb e => by
      obtain ⟨q, hq, rfl⟩ := List.mem_map.mp hb
      have := ownI p hp
      rw [e] at this
      exact absurd (Heap.lt_size (N q hq).1) (this ▸ Nat.lt_irrefl _)
    have hcxm : cx ∈ (g o c).map (·.1) := by
      obtain ⟨pre, post, e, _, _, _⟩ := (hgU o c).split
      rw [e]; simp
    have N₂ : News h₀ L s₁.heap (g o' c' ++ own) := fun p hp => N₁ p ((List.mem_append.mp hp).elim (fun h => List.mem_append_right _ h) fun h => List.mem_append_left _ h)
    refine wpAny_assign_Name (storeX_C F₁ N₂ hcx (updF_app (hgU o' c') (hoff.ne hcxm)) hc' (fun h' c2 F2 N2 hd2 => ?_) hk hx)
    have e : ks = ks.take i ++ n :: ks.drop (i + 1) := by
      have ht := List.take_append_drop (i + 1) ks
      rw [List.take_add_one, hn, List.append_assoc] at ht
      exact ht.symm
    have htk : ks.take (i + 1) = ks.take i ++ [n] := by rw [List.take_add_one, hn]; rfl
    have em : (fun y => if stored.contains y then m₁ y else m₀ y) = m₁ := by
      funext y
      cases hy : stored.contains y with
      | true => simp
      | false => simp [hm₁ y hy]
    have F3 : Fr h₀ L h' (fun y => if stored.contains y then m₁ y else m₀ y) := by rw [em]; exact F2
    refine wpAny_mono (turn s₁ o' c2 _ _ n t m₁ h' s₁.toks own e hoff hp' hd2 F3 N2) (fun fl s' hl => ?_) fun _ _ e => e
    obtain ⟨rfl, h4, tk4, o4, c4, v4, m4, news4, rfl, F4, hm4, N4, a1, a2, a3, a4⟩ := hl
    refine ⟨rfl, h4, tk4, m4, g o4 c4, rfl, F4, fun p hp => N4 p ((List.mem_append.mp hp).elim (a2 p) (a1 p)), fun p hp hq => ?_, o4, c4, v4, rfl, a3, hm4, htk ▸ a4⟩
    have h1 : p.1 ∈ (g o c).map (·.1) := hga o4 c4 ▸ List.mem_map_of_mem hp
    obtain ⟨q, hq1, hq2⟩ := List.mem_map.mp h1
    have hq3 : q.1 = s.heap.objs.size := hq2.trans (List.mem_singleton.mp hq)
    exact absurd (Heap.lt_size (N q hq1).1) (hq3 ▸ Nat.lt_irrefl _)
  · rintro h' tk m' news' F' N' _ ⟨o', c', v', rfl, hc', hm', hp'⟩
    have hl : vs.toArray.size = ks.length := by rw [List.size_toArray, hi.length]
    rw [hl, List.take_length] at hp'
    have em : (fun y => if stored.contains y then m' y else m₀ y) = m' := by
      funext y
      cases hy : stored.contains y with
      | true => simp
      | false => simp [hm' y hy]
    exact done o' c' v' m' h' tk hp' hc' (by rw [em]; exact F') N'

theorem updF_again {d : Addr} {o : Obj} : ∀ {l : List (Addr × Obj)} {g : Obj → List (Addr × Obj)}, UpdF d o l g → ∀ o', UpdF d o' (g o') g
  | _, _, .head h, o' => .head h
  | _, _, .tail h r, o' => .tail h (updF_again r o')
theorem for_cell2 {px pos : Pos} {iter : Expr} {ax cx d : Addr} {vs : List Value} {ks : List Int} {m₀ : PySem.Str → Option Value} {news : List (Addr × Obj)} {o c : Obj} {v₀ : Option Value} {g1 : Obj → List (Addr × Obj)} {g : Obj → Obj → List (Addr × Obj)}
    (stored : List PySem.Str) (P : List Int → Obj → Prop)
    (hax : h₀.IsTuple ax vs.toArray) (hi : IntsAre vs ks) (hh : A.handled = none) (F : Fr h₀ L s.heap m₀) (N : News h₀ L s.heap news)
    (hcx : cl.lookup x = some cx) (U1 : UpdF d o news g1) (U2 : ∀ o', UpdF cx c (g1 o') (g o'))
    (hcd : c.data = .cell v₀) (hk : cs.kind = .function) (hx : (envX cn cs L a ccd cl).kindOf x = some .cell) (hp : P [] o)
    (hit : ∀ Q' : Value → Shared → Prop, Q' (.ref ax) s → wpAny (model prog w) A (eval iter (envX cn cs L a ccd cl)) Q' E s)
    (turn : ∀ (s₁ : Shared) (o' c' : Obj) (pre post : List Int) (n : Int) t (u : PySem.Str → Option Value) h tk own, ks = pre ++ n :: post → OwnOff own (news.map (·.1)) → P pre o' → c'.data = .cell (some (.int n t)) →
      Fr h₀ L h (fun y => if stored.contains y then u y else m₀ y) → News h₀ L h (g o' c' ++ own) →
      wpAny (model prog w) A (execs body (envX cn cs L a ccd cl)) (CellEnd h₀ L stored m₀ g own (P (pre ++ [n])) { s₁ with heap := h, toks := tk }) E { s₁ with heap := h, toks := tk })
    (done : ∀ (o' c' : Obj) (v' : Option Value) (u : PySem.Str → Option Value) h tk, P ks o' → c'.data = .cell v' → Fr h₀ L h (fun y => if stored.contains y then u y else m₀ y) → News h₀ L h (g o' c') → Q .next { s with heap := h, toks := tk })
    (hs : ∀ x, foldedSetIterable iter (envX cn cs L a ccd cl) x = pure x := by intro _; rfl)
    (hE : PassesOwn (model prog w) A (envX cn cs L a ccd cl) E := by passes_own) :
    wpAny (model prog w) A (exec (.For (.Name x px) iter body [] pos) (envX cn cs L a ccd cl)) Q E s :=
  for_cell (g := g) (d := d) stored P hax hi hh F N ((updF_self (U2 o)).trans (updF_self U1)) (fun o' c' => updF_again (U2 o') c') (fun o' c' => (updF_map (U2 o') c').trans (updF_map U1 o')) hcd hcx hk hx hp hit turn done hs hE
end
end Mine
end

section
open PySem PySem.W PySem.Calls PyProof.Rows PyProof.V PySem.Spec
namespace Mine
section
variable {prog : Program} {w : World} {A : Around} {E : Value → Shared → Prop} {s : Shared}
theorem src_tuple {l : Addr} {vs : List Value} {ns : List Int} (hl : s.heap.IsTuple l vs.toArray) (hi : IntsAre vs ns) (hh : A.handled = none) : Src prog w A E s (.ref l) ns.length (IsI ns) := by
  intro Q h
  refine wpAny_pyIter_tuple hl ?_
  have hlt : l < s.heap.objs.size := by obtain ⟨_, e, _⟩ := hl; exact Heap.lt_size e
  have W := walks_mono (Walks.tuple (prog := prog) (w := w) hh s.heap.objs.size l (Nat.ne_of_lt hlt) vs.toArray) (P' := IsI ns) (fun i v hv => ints_get' hi (by simpa using hv))
  have hsz : vs.toArray.size = ns.length := by rw [List.size_toArray, hi.length]
  rw [hsz] at W
  refine h _ _ _ _ W ⟨⟨_, Heap.get?_push_size _ rfl, rfl, rfl⟩, hl.push _⟩ ?_ (fun b o e => Heap.get?_push_of_some _ e) (fresh_at _ _ (Nat.le_refl _)) (by rw [Heap.size_push]; exact Nat.le_succ _)
  intro b hb
  rw [Heap.size_push]
  rcases List.mem_cons.mp hb with rfl | hb
  · exact Nat.lt_succ_self _
  · rw [List.mem_singleton.mp hb]; exact Nat.lt_succ_of_lt hlt
end
section
variable {prog : Program} {w : World} {A : Around} {E : Value → Shared → Prop} {s : Shared} {env : Env} {h₀ : Heap} {L : Addr} {m : PySem.Str → Option Value} {news : List (Addr × Obj)}
  {scope : Scope} {cl : List (PySem.Str × Addr)} {C : Addr} {x : PySem.Str} {pos : Pos}
def heldOf (f : Int → Option Int) (x : Int) (ks : List Int) : List Int := ks.filter fun k => k != x && (f k).isSome
theorem held_split {c y zx xx : PySem.Str} {p0 p1 p2 p3 p4 p5 p6 p7 p8 px py : Pos} {iter : Expr} {spos : Pos} {Q : Flow → Shared → Prop} {xv : Value} {ks : List Int} {n : Nat} {f : Int → Option Int} {zc d xc : Addr} {zo o xo : Obj} {a : Int} {ta : Tok}
    (D : DictI prog w n f o) (lo : (d == sysModules) = false) (F : Fr h₀ L s.heap m) (N : News h₀ L s.heap news) (hzm : (zc, zo) ∈ news) (hzd : zo.data = .cell (some (.ref d))) (hdm : (d, o) ∈ news)
    (hxm : (xc, xo) ∈ news) (hxd : xo.data = .cell (some (.int a ta)))
    (hsrc : Src prog w A E s xv ks.length (IsI ks)) (hn : ks.length ≤ 1000)
    (hL : env.locals = L)
    (hsw : swapsWith (.ListComp (.Name c p0) [⟨.Name c px, iter, [.BoolOp .And [.Compare (.Name c p1) [.NotEq] [.Name xx p2] p3, .Compare (.Name c p5) [.In] [.Name zx p6] p7] p8], 0⟩] scope p4) (some (.Name y py)) spos.line env = pure true)
    (hclos : closureFor scope env = pure cl) (hcell : ∀ y ∈ scope.names, y.2 ≠ .cell) (hkind : scope.kind = .function)
    (hnames : ∀ y ∈ scope.names, y.2 = .local → scope.names.lookup y.1 = some .local) (hx : scope.names.lookup c = some .local)
    (hy : env.kindOf y = some .local) (hp : (env.scope.kind == .class || (env.scope.kind == .module && env.locals != env.globals)) = false)
    (hzc : cl.lookup zx = some zc) (hzk : ∀ C, (compEnvC scope cl C env).kindOf zx = some .cell) (hxc : cl.lookup xx = some xc) (hxk : ∀ C, (compEnvC scope cl C env).kindOf xx = some .cell)
    (d1 : (c == ("__debug__" : Str)) = false) (d2 : (zx == ("__debug__" : Str)) = false) (d3 : (xx == ("__debug__" : Str)) = false)
    (hmk : behindInMarks .In (.Name zx p6) = false) (hmk2 : behindInMarks .NotEq (.Name xx p2) = false)
    (hit : ∀ Q' : Value → Shared → Prop, Q' xv s → wpAny (model prog w) A (eval iter env) Q' E s)
    (h1 : ∀ D' h' tk k p t v, Fr h₀ L h' (fun z => if z = y then some (.ref D') else m z) → News h₀ L h' ((D', PySem.W.listOf #[.int p t] k) :: news) → (∀ p ∈ news, @Ne Nat p.1 D') → heldOf f a ks = [p] → f p = some v → Q .next { s with heap := h', toks := tk })
    (h2 : ∀ D' h' tk k vs, Fr h₀ L h' (fun z => if z = y then some (.ref D') else m z) → News h₀ L h' ((D', PySem.W.listOf (List.toArray vs) k) :: news) → (∀ p ∈ news, @Ne Nat p.1 D') → vs.length ≠ 1 → vs.length ≤ 1000 → (heldOf f a ks).length ≠ 1 → Q .next { s with heap := h', toks := tk })
    (hs : ∀ x, foldedSetIterable iter env x = pure x := by intro _; rfl) :
    wpAny (model prog w) A (exec (.Assign [.Name y py] (.ListComp (.Name c p0) [⟨.Name c px, iter, [.BoolOp .And [.Compare (.Name c p1) [.NotEq] [.Name xx p2] p3, .Compare (.Name c p5) [.In] [.Name zx p6] p7] p8], 0⟩] scope p4) spos) env) Q E s := by
  refine comp_assign (pI fun k => k != a && (f k).isSome) (FI fun k => k) hL hsw hclos hcell hkind hnames hx hy hp (by rw [sizeLine_eq]; omega) (fun Q' hQ' => hit Q' (hQ' s.heap s.toks xv F N hsrc)) ?_ ?_ ?_ hs
  · intro C i v s₃ m₃ E' hP hns hm F₃ N₃
    obtain ⟨k, t, e, rfl⟩ := hP
    refine wpAny_tests_one (wpAny_isTrue_BoolOp (wpAny_allTrue_And_cons (wpAny_isTrue_Compare1 ?_ hmk2)))
    refine c_loc hns hm ?_ hkind hx d1
    refine c_free N₃ hxm hxd ?_ hxc hkind (hxk C) d3
    refine ne_int ?_
    refine wpAny_truthy_bool ?_
    cases hb : (k != a) with
    | false => exact ⟨by simp [pI, hb], s₃.heap, _, rfl, fun _ _ e => e⟩
    | true =>
      simp only [if_true]
      refine wpAny_allTrue_And_cons (wpAny_isTrue_Compare1 ?_ hmk)
      refine c_loc hns hm ?_ hkind hx d1
      refine c_free N₃ hzm hzd ?_ hzc hkind (hzk C) d2
      refine inD D lo (N₃.get hdm) ?_
      refine wpAny_truthy_bool ?_
      cases hb2 : (f k).isSome with
      | false => exact ⟨by simp [pI, hb, hb2], s₃.heap, _, rfl, fun _ _ e => e⟩
      | true =>
        simp only [if_true]
        exact wpAny_allTrue_And_nil ⟨by simp [pI, hb, hb2], s₃.heap, _, rfl, fun _ _ e => e⟩
  · intro C i v s₃ m₃ E' hP hp hns hm F₃ N₃
    obtain ⟨k, t, e, rfl⟩ := hP
    exact c_loc hns hm ⟨⟨k, t, t, rfl, rfl⟩, s₃.heap, s₃.toks, rfl, fun _ _ e => e⟩ hkind hx d1
  · intro D' h' tk k ys vs F' N' ne hl hP hF
    have hI := ints_comp hl hP hF
    rw [List.map_id'] at hI
    rcases one_or hI with ⟨p, t, e1, hf⟩ | ⟨hv, hf⟩
    · have hm : p ∈ heldOf f a ks := by rw [show heldOf f a ks = [p] from hf]; exact .head _
      obtain ⟨v, hv⟩ := Option.isSome_iff_exists.mp (Bool.and_eq_true_iff.mp (List.mem_filter.mp hm).2).2
      have e2 : ys = #[.int p t] := by rw [← Array.toArray_toList (xs := ys), e1]
      exact h1 D' h' tk k p t v F' (e2 ▸ N') ne hf hv
    · exact h2 D' h' tk k ys.toList F' (by simpa using N') ne hv (by rw [hI.length]; exact Nat.le_trans (List.length_filter_le _ _) hn) hf
end
def mendStep (p : Int → Option Int) (f : Int → Option Int) (x : Int) : Int → Option Int :=
  if p x = none ∧ (heldOf p x (if x ∈ [(48 : Int), 79, 111] then [48, 79, 111] else [73, 108, 49])).length = 1 then
    upd f x ((p ((heldOf p x (if x ∈ [(48 : Int), 79, 111] then [48, 79, 111] else [73, 108, 49])).headD 0)).getD 0) else f
def mendAll (p : Int → Option Int) : Int → Option Int := [(48 : Int), 79, 111, 73, 108, 49].foldl (mendStep p) p
theorem mend_yes {p f : Int → Option Int} {x q v : Int} {ks : List Int} (hk : (if x ∈ [(48 : Int), 79, 111] then [48, 79, 111] else [73, 108, 49]) = ks) (h1 : (p x).isSome = false) (h2 : heldOf p x ks = [q]) (h3 : p q = some v) : mendStep p f x = upd f x v := by
  have h1' : p x = none := by simpa using h1
  unfold mendStep
  rw [hk, h2, if_pos ⟨h1', rfl⟩]
  simp [h3]
theorem mend_no {p f : Int → Option Int} {x : Int} {ks : List Int} (hk : (if x ∈ [(48 : Int), 79, 111] then [48, 79, 111] else [73, 108, 49]) = ks) (h2 : (p x).isSome = true ∨ (heldOf p x ks).length ≠ 1) : mendStep p f x = f := by
  unfold mendStep
  rw [hk, if_neg]
  rintro ⟨a, b⟩
  rcases h2 with h | h
  · rw [a] at h; cases h
  · exact h b
theorem hk_yes {n : Int} (h : ([(48 : Int), 79, 111].any fun x => x == n) = true) : (if n ∈ [(48 : Int), 79, 111] then [48, 79, 111] else [73, 108, 49]) = [(48 : Int), 79, 111] := by
  obtain ⟨x, hx, e⟩ := List.any_eq_true.mp h
  exact if_pos (eq_of_beq e ▸ hx)
theorem hk_no {n : Int} (h : ([(48 : Int), 79, 111].any fun x => x == n) = false) : (if n ∈ [(48 : Int), 79, 111] then [48, 79, 111] else [73, 108, 49]) = [(73 : Int), 108, 49] := by
  refine if_neg fun hm => ?_
  have h2 : ([(48 : Int), 79, 111].any fun x => x == n) = true := List.any_eq_true.mpr ⟨n, hm, beq_self_eq_true n⟩
  rw [h] at h2; cases h2
section
variable {prog : Program} {w : World} {k : Nat} {p : Int → Option Int} {pre ks : List Int} {o : Obj} {x q v : Int}
theorem tab_yes (D : DictI prog w (k + pre.length + 1) (upd (pre.foldl (mendStep p) p) x v) o) (h1 : (p x).isSome = false) (h2 : heldOf p x ks = [q]) (h3 : p q = some v) (hk : (if x ∈ [(48 : Int), 79, 111] then [48, 79, 111] else [73, 108, 49]) = ks) :
    DictI prog w (k + (pre ++ [x]).length) ((pre ++ [x]).foldl (mendStep p) p) o := by
  rw [List.foldl_append, List.length_append]
  show DictI prog w _ (mendStep p (pre.foldl (mendStep p) p) x) o
  rw [mend_yes hk h1 h2 h3]
  exact D
theorem tab_no1 (D : DictI prog w (k + pre.length) (pre.foldl (mendStep p) p) o) (h : (p x).isSome = true) (hk : (if x ∈ [(48 : Int), 79, 111] then [48, 79, 111] else [73, 108, 49]) = ks) :
    DictI prog w (k + (pre ++ [x]).length) ((pre ++ [x]).foldl (mendStep p) p) o := by
  rw [List.foldl_append, List.length_append]
  show DictI prog w _ (mendStep p (pre.foldl (mendStep p) p) x) o
  rw [mend_no hk (.inl h)]
  exact D.more (by omega)
theorem tab_no2 (D : DictI prog w (k + pre.length) (pre.foldl (mendStep p) p) o) (h : (heldOf p x ks).length ≠ 1) (hk : (if x ∈ [(48 : Int), 79, 111] then [48, 79, 111] else [73, 108, 49]) = ks) :
    DictI prog w (k + (pre ++ [x]).length) ((pre ++ [x]).foldl (mendStep p) p) o := by
  rw [List.foldl_append, List.length_append]
  show DictI prog w _ (mendStep p (pre.foldl (mendStep p) p) x) o
  rw [mend_no hk (.inr h)]
  exact D.more (by omega)
abbrev tup2 (a b : Value) : Obj := { cls := .type "tuple", data := .seq #[a, b] }
def Tabs (prog : Program) (w : World) (al : List Int) (g h : Heap) (v : Value) : Prop :=
  ∃ (T P M : Addr) (op om : Obj), v = .ref T ∧ g.get? T = none ∧ g.get? P = none ∧ g.get? M = none ∧ h.get? T = some (tup2 (.ref P) (.ref M)) ∧ h.get? P = some op ∧ h.get? M = some om ∧
    (P == sysModules) = false ∧ (M == sysModules) = false ∧ DictI prog w 64 (idx al) op ∧ DictI prog w 64 (mendAll (idx al)) om
theorem tabs_end {al : List Int} {g h : Heap} {L T P M : Addr} {op om : Obj} {news : List (Addr × Obj)} {n m : Nat} (N : News g L h news) (hT : (T, tup2 (.ref P) (.ref M)) ∈ news) (hP : (P, op) ∈ news) (hM : (M, om) ∈ news)
    (lP : (P == sysModules) = false) (lM : (M == sysModules) = false) (dP : DictI prog w n (idx al) op) (dM : DictI prog w m (mendAll (idx al)) om) (hn : n ≤ 64) (hm : m ≤ 64) : Tabs prog w al g h (.ref T) :=
  ⟨T, P, M, op, om, rfl, (N _ hT).2.2, (N _ hP).2.2, (N _ hM).2.2, (N _ hT).1, (N _ hP).1, (N _ hM).1, lP, lM, dP.more hn, dM.more hm⟩
end
end Mine
end

section
open PySem PySem.W PySem.Calls PyProof.Rows PyProof.V PySem.Spec
namespace Mine
theorem upTo_succ (n : Nat) : upTo (n + 1) = upTo n ++ [(n : Int)] := by simp [upTo, List.range_succ]
theorem mem_upTo {n : Nat} {k : Int} (h : k ∈ upTo n) : 0 ≤ k ∧ k < n := by
  obtain ⟨i, hi, rfl⟩ := List.mem_map.mp h
  have := List.mem_range.mp hi
  exact ⟨Int.natCast_nonneg i, Int.ofNat_lt.mpr this⟩
theorem dictOf_upTo (al : List Int) : ∀ n, n ≤ al.length → dictOf (fun k => al.getD k.toNat 0) (fun k => k) (upTo n) = idx (al.take n)
  | 0, _ => rfl
  | n + 1, h => by
    have ih := dictOf_upTo al n (by omega)
    have hn : al[n]? = some (al.getD n 0) := by rw [List.getD_eq_getElem?_getD, List.getElem?_eq_getElem (by omega)]; rfl
    rw [upTo_succ, dictOf, List.foldl_append, List.take_add_one, hn]
    show upd (dictOf _ _ (upTo n)) (al.getD ((n : Int).toNat) 0) (n : Int) = idx (al.take n ++ [al.getD n 0])
    rw [ih, idx_snoc, List.length_take, Nat.min_eq_left (by omega)]
    simp
theorem dictOf_signs (al : List Int) : dictOf (fun k => al.getD k.toNat 0) (fun k => k) (upTo al.length) = idx al := by rw [dictOf_upTo al al.length (Nat.le_refl _), List.take_length]
section
variable {prog : Program} {w : World} {A : Around} {E : Value → Shared → Prop} {s : Shared} {env : Env} {h₀ : Heap} {L : Addr} {m : PySem.Str → Option Value} {news : List (Addr × Obj)}
theorem sub_key {m₃ : PySem.Str → Option Value} {scope : Scope} {cl : List (PySem.Str × Addr)} {C : Addr} {sx kx : PySem.Str} {p1 p2 p3 : Pos}
    {b : Array UInt8} {tb t : Tok} {al : List Int} {k : Int} {sc : Addr} {so : Obj} (hal : KBw.bInts b = al) (hk : k ∈ upTo al.length) (hsz : al.length ≤ 1000)
    (hns : s.heap.Ns C m₃) (hm : m₃ kx = some (.int k t)) (N : News h₀ L s.heap news) (hsm : (sc, so) ∈ news) (hsd : so.data = .cell (some (.bytes b tb))) (hsc : cl.lookup sx = some sc) (hkind : scope.kind = .function)
    (hsk : (compEnvC scope cl C env).kindOf sx = some .cell) (hx : scope.names.lookup kx = some .local) (d1 : (sx == ("__debug__" : Str)) = false) (d2 : (kx == ("__debug__" : Str)) = false) :
    wpAny (model prog w) A (eval (.Subscript (.Name sx p1) (.Name kx p2) p3) (compEnvC scope cl C env)) (fun y s₄ => (∃ u, y = .int (al.getD k.toNat 0) u) ∧ Keeps s s₄) E s := by
  obtain ⟨hk0, hk1⟩ := mem_upTo hk
  refine Subscript_ ?_
  refine c_free N hsm hsd ?_ hsc hkind hsk d1
  refine c_loc hns hm ?_ hkind hx d2
  exact KBw.item_K hal (by omega) hk0 (by exact_mod_cast hk1) fun t' k' _ _ => ⟨⟨t', rfl⟩, s.heap, k', rfl, fun _ _ e => e⟩

theorem signs_eval {x sx : PySem.Str} {px p1 p2 p3 p4 : Pos} {iter : Expr} {scope : Scope} {cl : List (PySem.Str × Addr)} {pos : Pos} {Q : Value → Shared → Prop} {b : Array UInt8} {tb : Tok} {al : List Int} {sc : Addr} {so : Obj}
    (F₀ : Fr h₀ L s.heap m) (N₀ : News h₀ L s.heap news) (hal : KBw.bInts b = al) (hsz : al.length ≤ 1000) (hsm : (sc, so) ∈ news) (hsd : so.data = .cell (some (.bytes b tb))) (hlim : h₀.NoLimit)
    (hclos : closureFor scope env = pure cl) (hcell : ∀ y ∈ scope.names, y.2 ≠ .cell) (hkind : scope.kind = .function)
    (hnames : ∀ y ∈ scope.names, y.2 = .local → scope.names.lookup y.1 = some .local) (hx : scope.names.lookup x = some .local)
    (hsc : cl.lookup sx = some sc) (hsk : ∀ C, (compEnvC scope cl C env).kindOf sx = some .cell) (d1 : (sx == ("__debug__" : Str)) = false) (d2 : (x == ("__debug__" : Str)) = false)
    (hit : ∀ Q' : Value → Shared → Prop, (∀ h₁ tk₁ xv, Fr h₀ L h₁ m → News h₀ L h₁ news → Src prog w A E { s with heap := h₁, toks := tk₁ } xv (upTo al.length).length (IsI (upTo al.length)) → Q' xv { s with heap := h₁, toks := tk₁ }) → wpAny (model prog w) A (eval iter env) Q' E s)
    (h : ∀ D h' o tk, Fr h₀ L h' m → News h₀ L h' ((D, o) :: news) → (∀ p ∈ news, p.1 < D) → (D == sysModules) = false → DictI prog w al.length (idx al) o → Q (.ref D) { s with heap := h', toks := tk })
    (hs : ∀ x, foldedSetIterable iter env x = pure x := by intro _; rfl) :
    wpAny (model prog w) A (eval (.DictComp (.Subscript (.Name sx p1) (.Name x p2) p3) (.Name x p4) [⟨.Name x px, iter, [], 0⟩] scope pos) env) Q E s := by
  refine dict_eval (ks := upTo al.length) (fun k => al.getD k.toNat 0) (fun k => k) hlim hclos hcell hkind hnames hx (by rw [upTo_length, sizeLine_eq]; omega) hit ?_ ?_ ?_ hs
  · intro C k t s₃ m₃ E' hk hns hm F₃ N₃
    exact sub_key hal hk hsz hns hm N₃ hsm hsd hsc hkind (hsk C) hx d1 d2
  · intro C k t s₃ m₃ E' hk hns hm F₃ N₃
    exact c_loc hns hm ⟨⟨t, rfl⟩, s₃.heap, s₃.toks, rfl, fun _ _ e => e⟩ hkind hx d2
  · intro D h' o tk F' N' lt lo hD
    rw [dictOf_signs, upTo_length] at hD
    exact h D h' o tk F' N' lt lo hD

theorem signs_assign {x y sx : PySem.Str} {px py p1 p2 p3 p4 : Pos} {iter : Expr} {scope : Scope} {cl : List (PySem.Str × Addr)} {pos spos : Pos} {Q : Flow → Shared → Prop} {b : Array UInt8} {tb : Tok} {al : List Int} {sc : Addr} {so : Obj}
    (F₀ : Fr h₀ L s.heap m) (N₀ : News h₀ L s.heap news) (hal : KBw.bInts b = al) (hsz : al.length ≤ 1000) (hsm : (sc, so) ∈ news) (hsd : so.data = .cell (some (.bytes b tb))) (hlim : h₀.NoLimit) (hL : env.locals = L)
    (hsw : swapsWith (.DictComp (.Subscript (.Name sx p1) (.Name x p2) p3) (.Name x p4) [⟨.Name x px, iter, [], 0⟩] scope pos) (some (.Name y py)) spos.line env = pure true)
    (hclos : closureFor scope env = pure cl) (hcell : ∀ y ∈ scope.names, y.2 ≠ .cell) (hkind : scope.kind = .function)
    (hnames : ∀ y ∈ scope.names, y.2 = .local → scope.names.lookup y.1 = some .local) (hx : scope.names.lookup x = some .local)
    (hy : env.kindOf y = some .local) (hp : (env.scope.kind == .class || (env.scope.kind == .module && env.locals != env.globals)) = false)
    (hsc : cl.lookup sx = some sc) (hsk : ∀ C, (compEnvC scope cl C env).kindOf sx = some .cell) (d1 : (sx == ("__debug__" : Str)) = false) (d2 : (x == ("__debug__" : Str)) = false)
    (hit : ∀ Q' : Value → Shared → Prop, (∀ h₁ tk₁ xv, Fr h₀ L h₁ m → News h₀ L h₁ news → Src prog w A E { s with heap := h₁, toks := tk₁ } xv (upTo al.length).length (IsI (upTo al.length)) → Q' xv { s with heap := h₁, toks := tk₁ }) → wpAny (model prog w) A (eval iter env) Q' E s)
    (h : ∀ D h' o tk, Fr h₀ L h' (fun z => if z = y then some (.ref D) else m z) → News h₀ L h' ((D, o) :: news) → (∀ p ∈ news, p.1 < D) → (D == sysModules) = false → DictI prog w al.length (idx al) o → Q .next { s with heap := h', toks := tk })
    (hs : ∀ x, foldedSetIterable iter env x = pure x := by intro _; rfl) :
    wpAny (model prog w) A (exec (.Assign [.Name y py] (.DictComp (.Subscript (.Name sx p1) (.Name x p2) p3) (.Name x p4) [⟨.Name x px, iter, [], 0⟩] scope pos) spos) env) Q E s := by
  refine dict_assign (ks := upTo al.length) (fun k => al.getD k.toNat 0) (fun k => k) hlim hL hsw hclos hcell hkind hnames hx hy hp (by rw [upTo_length, sizeLine_eq]; omega) hit ?_ ?_ ?_ hs
  · intro C k t s₃ m₃ E' hk hns hm F₃ N₃
    exact sub_key hal hk hsz hns hm N₃ hsm hsd hsc hkind (hsk C) hx d1 d2
  · intro C k t s₃ m₃ E' hk hns hm F₃ N₃
    exact c_loc hns hm ⟨⟨t, rfl⟩, s₃.heap, s₃.toks, rfl, fun _ _ e => e⟩ hkind hx d2
  · intro D h' o tk F' N' lt lo hD
    rw [dictOf_signs, upTo_length] at hD
    exact h D h' o tk F' N' lt lo hD
end
end Mine
end

section
open PySem PySem.W PySem.Calls PyProof.Rows PyProof.V PySem.Spec
namespace Mine
section
variable {prog : Program} {w : World} {A : Around} {E : Value → Shared → Prop} {s : Shared} {h₀ : Heap} {L : Addr} {m : PySem.Str → Option Value} {news : List (Addr × Obj)}
theorem sliceApplied_upto {sl : Addr} {b n : Nat} {u : Tok} {Q : Int × Int × Nat → Shared → Prop} (hs : s.heap.IsSliceOf sl .none (.int b u) .none) (ha : Builtin.Slice.sliceAdjust none (some (b : Int)) 1 (n : Int) = (0, (b : Int))) (hp : Builtin.Slice.slicePlaces 0 (b : Int) 1 = b) (h : Q (0, 1, b) s) :
    wpAny (model prog w) A (Builtin.Slice.sliceApplied (.ref sl) (pure (n : Int))) Q E s := by
  obtain ⟨os, hos, hcs, hds⟩ := id hs
  unfold Builtin.Slice.sliceApplied Builtin.Slice.sliceFields
  refine wpAny_bind (wpAny_bind (wpAny_field hos hds (x := .none) rfl (wpAny_bind (wpAny_field hos hds (x := .int b u) rfl (wpAny_bind (wpAny_field hos hds (x := .none) rfl (wpAny_pure ?_)))))))
  refine wpAny_bind (slicePart_none ?_)
  show wpAny _ _ (if ((1 : Int) == 0) = true then _ else _) _ _ s
  rw [if_neg (by decide)]
  refine wpAny_bind (slicePart_none (wpAny_bind (slicePart_int (wpAny_bind (wpAny_pure ?_)))))
  show wpAny _ _ (match Builtin.Slice.sliceAdjust none (some (b : Int)) 1 (n : Int) with | (lo, hi) => pure (lo, (1 : Int), Builtin.Slice.slicePlaces lo hi 1)) _ _ s
  rw [ha]
  show wpAny _ _ (pure ((0 : Int), (1 : Int), Builtin.Slice.slicePlaces 0 (b : Int) 1)) _ _ s
  rw [hp]
  exact wpAny_pure h
theorem pick_upto (xs : Array Value) (b : Nat) : ((List.range b).filterMap fun (k : Nat) => xs[((0 : Int) + (k : Int) * 1).toNat]?).toArray = (xs.toList.take b).toArray := by
  have e : (fun (k : Nat) => xs[((0 : Int) + (k : Int) * 1).toNat]?) = fun k => xs[k]? := by
    funext k
    have : ((0 : Int) + (k : Int) * 1).toNat = k := by omega
    rw [this]
  rw [e]
  congr 1
  induction b with
  | zero => simp
  | succ b ih =>
    rw [List.range_succ, List.filterMap_append, ih, List.take_add_one]
    congr 1
    cases hx : xs[b]? with
    | none => simp [hx]
    | some v => simp [hx]
theorem getItem_tuple_upto {t sl : Addr} {items : Array Value} {b : Nat} {u : Tok} {Q : Value → Shared → Prop} (ht : IsTup s.heap t items) (hs : s.heap.IsSliceOf sl .none (.int b u) .none)
    (ha : Builtin.Slice.sliceAdjust none (some (b : Int)) 1 (items.size : Int) = (0, (b : Int))) (hp : Builtin.Slice.slicePlaces 0 (b : Int) 1 = b) (hb : b < items.size)
    (h : Q (.ref s.heap.objs.size) { s with heap := s.heap.push { cls := .type "tuple", data := .seq (items.toList.take b).toArray } })
    (hsz : items.size ≤ sizeLine := by size_fits) : wpAny (model prog w) A (getItem (.ref t) (.ref sl)) Q E s := by
  have hdrop : sizeOk (.seq (items.toList.take b).toArray) := by
    show (items.toList.take b).toArray.size ≤ sizeLine
    rw [List.size_toArray, List.length_take, Array.length_toList]
    omega
  obtain ⟨os, hos, hcs, hds⟩ := id hs
  have hTs : s.TypeIs (.ref sl) "slice" := ⟨os, hos, hcs⟩
  unfold getItem
  try with_reducible refine wpAny_holding ?_
  first | refine wpAny_bind (wpAny_pure ?_) | skip
  refine wpAny_bind (wpAny_sequenceKey ht.typeIs (by decide) ?_)
  refine wpAny_bind (wpAny_callSpecial?_slot (name := Str.ofString "__getitem__") ht.typeIs slot_tuple_getitem
    (wpAny_call_entry slot_tuple_getitem ht.typeIs entry_tuple_getitem ?_ (args_tuple_getitem _ _)))
  show wpAny _ _ (Builtin.Tuple.tupleItemsOf (.ref t) >>= _) _ _ s
  refine wpAny_bind (tupleItemsOf_ ht ?_)
  refine wpAny_bind (wpAny_typeOf hTs ?_)
  rw [if_pos (by decide)]
  refine wpAny_bind (sliceApplied_upto hs ha hp ?_)
  have hno : ¬ (((0 : Int) == 0 && (1 : Int) == 1 && b == items.size) = true) := by
    have : (b == items.size) = false := by rw [beq_eq_false_iff_ne]; omega
    rw [this]; simp
  show wpAny _ _ (if ((0 : Int) == 0 && (1 : Int) == 1 && b == items.size) = true then _ else _) _ _ s
  rw [if_neg hno, pick_upto items b]
  first
    | exact wpAny_bind (m := Builtin.Tuple.tupleExact _) (wpAny_newObj_type (wpAny_pure ⟨_, rfl, wpAny_pure h⟩) hdrop)
    | exact wpAny_bind (m := Builtin.Tuple.tupleExact _) (wpAny_newObj_type (wpAny_bind (wpAny_pure (wpAny_pure ⟨_, rfl, wpAny_pure h⟩))) hdrop)
    | exact wpAny_bind (wpAny_bind (m := Builtin.Tuple.tupleExact _) (wpAny_newObj_type (wpAny_pure (wpAny_pure ⟨_, rfl, wpAny_pure h⟩)) hdrop))
    | exact wpAny_bind (wpAny_bind (m := Builtin.Tuple.tupleExact _) (wpAny_newObj_type (wpAny_pure ⟨_, rfl, wpAny_pure h⟩) hdrop))
theorem slice_tuple_upto {value slice : Expr} {t : Addr} {items : Array Value} {b : Nat} {u : Tok} {Q : Value → Shared → Prop}
    (F : Fr h₀ L s.heap m) (N : News h₀ L s.heap news) (ht : IsTup s.heap t items) (ha : Builtin.Slice.sliceAdjust none (some (b : Int)) 1 (items.size : Int) = (0, (b : Int))) (hp : Builtin.Slice.slicePlaces 0 (b : Int) 1 = b) (hb : b < items.size)
    (h : ∀ h', Fr h₀ L h' m → News h₀ L h' ((s.heap.objs.size + 1, { cls := .type "tuple", data := .seq (items.toList.take b).toArray }) :: news) → Q (.ref (s.heap.objs.size + 1)) { s with heap := h' })
    (hs : subscripted slice false (.ref t) (.ref s.heap.objs.size) = operate [.ref s.heap.objs.size, .ref t] (getItem (.ref t) (.ref s.heap.objs.size)) := by with_unfolding_all rfl)
    (hg : ∀ r, letTemporaryGo value (.ref t) r = pure () := by intro _; with_unfolding_all rfl)
    (hsz : items.size ≤ sizeLine := by size_fits) :
    wpAny (model prog w) A (subscriptTail value slice (.ref t) (.ref s.heap.objs.size)) Q E { s with heap := s.heap.push { cls := .type "slice", data := .fields #[.none, .int b u, .none] } } := by
  have ht' : IsTup (s.heap.push { cls := .type "slice", data := .fields #[.none, .int b u, .none] }) t items := ht.keeps fun _ _ e => Heap.get?_push_of_some _ e
  refine subscriptTail_ops (s := { s with heap := s.heap.push { cls := .type "slice", data := .fields #[.none, .int b u, .none] } }) ht'.typeIs slot_tuple_getitem.lookup
    (getItem_tuple_upto ht' (Heap.IsSliceOf.new ..) ha hp hb ?_ hsz) hs hg
  have N1 := News.push (F.push { cls := .type "slice", data := .fields #[.none, .int b u, .none] }) (N.grown fun _ _ e => Heap.get?_push_of_some _ e) { cls := .type "tuple", data := .seq (items.toList.take b).toArray }
  rw [Heap.size_push] at N1
  show Q (.ref (s.heap.push _).objs.size) _
  rw [Heap.size_push]
  exact h _ ((F.push _).push _) N1
abbrev tup3 (a b c : Value) : Obj := { cls := .type "tuple", data := .seq #[a, b, c] }
theorem six_upto {value slice : Expr} {t : Addr} {a b c d e f : Value} {u : Tok} {Q : Value → Shared → Prop}
    (F : Fr h₀ L s.heap m) (N : News h₀ L s.heap news) (ht : IsTup s.heap t #[a, b, c, d, e, f])
    (h : ∀ h' G, Fr h₀ L h' m → News h₀ L h' ((G, tup3 a b c) :: news) → (∀ p ∈ news, @Ne Nat p.1 G) → Q (.ref G) { s with heap := h' })
    (hs : subscripted slice false (.ref t) (.ref s.heap.objs.size) = operate [.ref s.heap.objs.size, .ref t] (getItem (.ref t) (.ref s.heap.objs.size)) := by with_unfolding_all rfl)
    (hg : ∀ r, letTemporaryGo value (.ref t) r = pure () := by intro _; with_unfolding_all rfl) :
    wpAny (model prog w) A (subscriptTail value slice (.ref t) (.ref s.heap.objs.size)) Q E { s with heap := s.heap.push { cls := .type "slice", data := .fields #[.none, .int 3 u, .none] } } :=
  slice_tuple_upto (b := 3) F N ht (by rfl) (by decide) (show 3 < 6 by decide) (fun h' F' N' => h h' _ F' N' (fun p hp => Nat.ne_of_lt (Nat.lt_succ_of_lt (Heap.lt_size (N p hp).1)))) hs hg (by rw [sizeLine_eq]; show 6 ≤ 16777216; decide)
theorem six_from {value slice : Expr} {t : Addr} {a b c d e f : Value} {u : Tok} {Q : Value → Shared → Prop}
    (F : Fr h₀ L s.heap m) (N : News h₀ L s.heap news) (ht : IsTup s.heap t #[a, b, c, d, e, f])
    (h : ∀ h' G, Fr h₀ L h' m → News h₀ L h' ((G, tup3 d e f) :: news) → (∀ p ∈ news, @Ne Nat p.1 G) → Q (.ref G) { s with heap := h' })
    (hs : subscripted slice false (.ref t) (.ref s.heap.objs.size) = operate [.ref s.heap.objs.size, .ref t] (getItem (.ref t) (.ref s.heap.objs.size)) := by with_unfolding_all rfl)
    (hg : ∀ r, letTemporaryGo value (.ref t) r = pure () := by intro _; with_unfolding_all rfl) :
    wpAny (model prog w) A (subscriptTail value slice (.ref t) (.ref s.heap.objs.size)) Q E { s with heap := s.heap.push { cls := .type "slice", data := .fields #[.int 3 u, .none, .none] } } :=
  slice_tuple_from (a := 3) F N ht (by decide) (show 3 ≤ 6 by decide) (fun h' F' N' => h h' _ F' N' (fun p hp => Nat.ne_of_lt (Nat.lt_succ_of_lt (Heap.lt_size (N p hp).1)))) hs hg (by rw [sizeLine_eq]; show 6 ≤ 16777216; decide)
theorem src_tup3 {G : Addr} {x y z : Int} {tx ty tz : Tok} {E : Value → Shared → Prop} (N : News h₀ L s.heap news) (hm : (G, tup3 (.int x tx) (.int y ty) (.int z tz)) ∈ news) (hh : A.handled = none) : Src prog w A E s (.ref G) [x, y, z].length (IsI [x, y, z]) :=
  src_tuple (vs := [.int x tx, .int y ty, .int z tz]) ⟨_, (N _ hm).1, rfl, _, rfl⟩ (.cons _ _ (.cons _ _ (.cons _ _ .nil))) hh
end
end Mine
end

section
open PySem PySem.W PySem.Calls PyProof.Rows PyProof.V PySem.Spec
namespace Mine
theorem filled_tables (w : World) : Challenge.rw_eg5004_01.row.prog = Challenge.rw_eg5004_01.row.prog ∧ hd.heap_39 w.params = hd.heap_39 w.params := by
  k_fill
  exact ⟨rfl, rfl⟩
variable (w : World) (mean : ExcName → Option Value) (mg mb : PySem.Str → Option Value)
local macro_rules | `(tactic| walk_at "my_open") => `(tactic| (
  (case k1 => k_is)
  (case k2 => k_is)
  (case k3 => (intro sX XX; first | exact BindsTo.of_eq rfl | exact binds_K XX rfl (by k_is) rfl rfl rfl))
  (case k4 => exact locs rfl)
  (case k5 => exact rfl)
  (case k6 => exact rfl)
  (case k7 => exact rfl)
  (case k8 => decide)))
local macro_rules | `(tactic| walk_at "my_one") => `(tactic| first | exact ints_zero | exact first_cut (by assumption) (by assumption) | rfl)
local macro_rules | `(tactic| walk_at "getMethod bytes") => `(tactic| (k_here; first | (with_reducible refine method_lstrip ?_) | (with_reducible refine method_rstrip ?_)))
local macro_rules | `(tactic| walk_at "call builtin:bytes.lstrip") => `(tactic| (k_here; k_dflt (refine' lstrip_K ?sa1 ?sa2 ?sa3 ?_; (case sa1 => kba_ints2); (case sa2 => walk_at "my_one"); (case sa3 => kba_size)); intro _ _ _ myLs; have myLl := lstrip_len myLs))
local macro_rules | `(tactic| walk_at "call builtin:bytes.rstrip") => `(tactic| (k_here; k_dflt (refine' rstrip_K ?sa1 ?sa2 ?sa3 ?_; (case sa1 => kba_ints2); (case sa2 => assumption); (case sa3 => kba_size)); intro _ _ _ myRs))
local macro_rules | `(tactic| walk_at "binaryOp Mult bytes int") => `(tactic| (k_here; k_dflt (refine' mul_K ?sa1 ?sa2 ?sa3 ?_; (case sa1 => walk_at "my_one"); (case sa2 => kba_size); (case sa3 => kba_size)); intro _ _ _ myMu myMl))
local macro_rules | `(tactic| walk_at "callWith ref") => `(tactic| (k_here; kfb_any; k_dflt (refine' callWith_boundKW ?sa1 ?sa2 ?sa3 ?_; (case sa1 => k_asm); (case sa2 => k_mem); (case sa3 => exact rfl); k_whole)))
local macro_rules | `(tactic| walk_at "call ref") => `(tactic| (k_here; (with_reducible show wpAny _ _ (call (Value.ref _) [Value.bytes _ _] _) _ _ _); kfb_any; k_dflt (refine fb_call (by k_asm) (by k_mem) (by kba_ints2) (by kba_size) ?_); intro _ _ myV0 myV1))

local macro_rules | `(tactic| walk_at "my_use") => `(tactic| (
  (case ua1 => k_asm); (case ua2 => k_asm); (case ua3 => k_asm); (case ua4 => k_asm); (case ua5 => k_asm); (case ua6 => exact rfl); (case ua7 => exact rfl); (case ua8 => omega); (case ua9 => omega)))
local macro_rules | `(tactic| walk_at "my_after") => `(tactic| ((try dsimp only); (try k_fold); (try k_sweep)))


local macro_rules | `(tactic| walk_at "my_openC") => `(tactic| (
  (case k1 => k_is)
  (case k2 => k_is)
  (case k3 => (intro sX XX; first | exact BindsTo.of_eq rfl | exact binds_K XX rfl (by k_is) rfl rfl rfl))
  (case k4 => exact kinds_of' rfl)
  (case k5 => decide +kernel)
  (case k6 => exact rfl)
  (case k7 => exact rfl)
  (case k8 => exact rfl)))
local macro_rules | `(tactic| walk_at "my_at") => `(tactic| first | (refine' News.get ?mya1 ?mya2; (case mya1 => k_asm); (case mya2 => k_mem)) | (refine' Fr.keep ?mya1 _ _ ?mya2; (case mya1 => k_asm); (case mya2 => assumption)))
local macro_rules | `(tactic| walk_at "my_lo") => `(tactic| assumption)
local macro_rules | `(tactic| walk_at "my_in") => `(tactic| assumption)
local macro_rules | `(tactic| walk_at "compareOp In int ref") => `(tactic| (k_here; k_dflt (refine' inD ?xa2 ?xa3 ?xa1 ?_; (case xa1 => walk_at "my_at"); (case xa2 => assumption); (case xa3 => assumption))))
local macro_rules | `(tactic| walk_at "compareOp NotIn int ref") => `(tactic| (k_here; k_dflt (refine' notinD ?xa2 ?xa3 ?xa1 ?_; (case xa1 => walk_at "my_at"); (case xa2 => assumption); (case xa3 => assumption))))
local macro_rules | `(tactic| walk_at "subscriptTail") => `(tactic| (k_here; (with_reducible show wpAny _ _ (subscriptTail _ _ (Value.ref _) (Value.int _ _)) _ _ _); k_dflt (refine' itemD ?xc2 ?xc3 ?xc1 ?xc4 ?_; (case xc1 => walk_at "my_at"); (case xc2 => assumption); (case xc3 => assumption); (case xc4 => assumption)); intro _))
local macro_rules | `(tactic| walk_at "subscriptTail") => `(tactic| (k_here; (with_reducible show wpAny _ _ (subscriptTail _ _ (Value.ref _) (Value.int 0 _)) _ _ _); k_dflt (refine' itemL1 ?xc1 ?_; (case xc1 => walk_at "my_at"))))
local macro_rules | `(tactic| walk_at "setItem ref int") => `(tactic| (k_here; k_dflt (refine' setD ?xb5 ?xb1 ?xb2 ?xb3 ?xb4 ?_; (case xb1 => k_asm); (case xb2 => k_asm); (case xb3 => k_updF); (case xb5 => assumption); (case xb4 => omega)); intro h' o' F' N' hd'; (try dsimp only at N'); (try k_sweep)))
local macro_rules | `(tactic| walk_at "my_id") => `(tactic| (intro myQ hmyQ; k_steps; exact hmyQ))
local macro_rules | `(tactic| walk_at "my_ne") => `(tactic| skip)
local macro_rules | `(tactic| walk_at "call builtin:len") => `(tactic| (k_here; k_dflt (refine' kst_len ?xd1 ?xd2 ?xd3 ?xd4 ?_; (case xd1 => k_asm); (case xd2 => k_mem); (case xd3 => exact rfl); (case xd4 => omega))))
local macro_rules | `(tactic| walk_at "ite") => `(tactic| (refine' ite_not ?nn ?_; (case nn => ((first | refine beq_eq_false_iff_ne.mpr ?_ | refine decide_eq_false ?_); omega))))
local macro_rules | `(tactic| walk_at "AltEnd") => `(tactic| (refine' alt_end ?xe1 ?xe2 ?xe3 ?xe4 ?xe5 ?xe6; (case xe1 => assumption); (case xe2 => k_asm); (case xe3 => k_asm); (case xe4 => (intro z hz; simp [hz])); (case xe5 => (intro p hp; simp at hp ⊢; simp [hp])); (case xe6 => (intro p hp; simp [hp]))))


local macro_rules | `(tactic| walk_at "subscriptTail") => `(tactic| (k_here; (with_reducible show wpAny _ _ (subscriptTail _ (Expr.Slice none (some _) none _) (Value.ref 61) (Value.ref _)) _ _ _); (with_reducible rename Fr _ _ _ _ => lF'); (with_reducible rename News _ _ _ _ => lN'); k_dflt (refine' six_upto (s := ⟨_, _, _, _, _⟩) lF' lN' ?ys1 ?_; (case ys1 => (refine' IsTup.keeps ?ys2 lF'.keep; (case ys2 => assumption)))); clear lF' lN'; intro h' myG F' N' myNe; (simp only [List.forall_mem_cons, List.not_mem_nil, false_implies, implies_true, and_true] at myNe); (try k_fold); (try k_sweep)))
local macro_rules | `(tactic| walk_at "subscriptTail") => `(tactic| (k_here; (with_reducible show wpAny _ _ (subscriptTail _ (Expr.Slice (some _) none none _) (Value.ref 61) (Value.ref _)) _ _ _); (with_reducible rename Fr _ _ _ _ => lF'); (with_reducible rename News _ _ _ _ => lN'); k_dflt (refine' six_from (s := ⟨_, _, _, _, _⟩) lF' lN' ?ys1 ?_; (case ys1 => (refine' IsTup.keeps ?ys2 lF'.keep; (case ys2 => assumption)))); clear lF' lN'; intro h' myG F' N' myNe; (simp only [List.forall_mem_cons, List.not_mem_nil, false_implies, implies_true, and_true] at myNe); (try k_fold); (try k_sweep)))
local macro_rules | `(tactic| walk_at "exec Assign cons ListComp") => `(tactic| (k_here; k_dflt (refine' held_split ?qhD ?qhlo ?qhF ?qhN ?qhzm ?qhzd ?qhdm ?qhxm ?qhxd ?qhsrc ?qhn ?qhL ?qhsw ?qhclos ?qhcell ?qhkind ?qhnames ?qhx ?qhy ?qhp ?qhzc ?qhzk ?qhxc ?qhxk ?qd1 ?qd2 ?qd3 ?qhmk ?qhmk2 ?qhit ?_ ?_; (case qhF => first | k_asm | fail "qhF failed"); (case qhN => first | k_asm | fail "qhN failed"); (case qhclos => first | with_unfolding_all rfl | fail "qhclos failed"); (case qhzc => first | rfl | fail "qhzc failed"); (case qhxc => first | rfl | fail "qhxc failed"); (case qhzm => first | k_mem | fail "qhzm failed"); (case qhzd => first | assumption | fail "qhzd failed"); (case qhdm => first | k_mem | fail "qhdm failed"); (case qhxm => first | k_mem | fail "qhxm failed"); (case qhxd => first | assumption | fail "qhxd failed"); (case qhD => first | assumption | fail "qhD failed"); (case qhlo => first | assumption | fail "qhlo failed"); (case qhit => first | walk_at "my_id" | fail "qhit failed"); (case qhsrc => first | (refine' src_tup3 ?yn1 ?yn2 ?yn3; (case yn1 => k_asm); (case yn2 => k_mem); (case yn3 => rfl)) | fail "qhsrc failed"); (case qhn => first | decide | fail "qhn failed"); (case qhL => first | rfl | fail "qhL failed"); (case qhsw => first | with_unfolding_all rfl | fail "qhsw failed"); (case qhcell => first | decide | fail "qhcell failed"); (case qhkind => first | rfl | fail "qhkind failed"); (case qhnames => first | decide | fail "qhnames failed"); (case qhx => first | rfl | fail "qhx failed"); (case qhy => first | rfl | fail "qhy failed"); (case qhp => first | rfl | fail "qhp failed"); (case qhzk => first | exact fun _ => rfl | fail "qhzk failed"); (case qhxk => first | exact fun _ => rfl | fail "qhxk failed"); (case qd1 => first | decide | fail "qd1 failed"); (case qd2 => first | decide | fail "qd2 failed"); (case qd3 => first | decide | fail "qd3 failed"); (case qhmk => first | with_unfolding_all rfl | fail "qhmk failed"); (case qhmk2 => first | with_unfolding_all rfl | fail "qhmk2 failed")); rotate_left; (intro myP myh' mytk myk myvs F' N' myNe myVl myVs myHl; (simp only [List.forall_mem_cons, List.not_mem_nil, false_implies, implies_true, and_true] at myNe); (try k_fold); (try k_sweep)); rotate_left; (intro myP myh' mytk myk myp myt myv F' N' myNe myHe myFv; (simp only [List.forall_mem_cons, List.not_mem_nil, false_implies, implies_true, and_true] at myNe); (try k_fold); (try k_sweep))))
local macro_rules | `(tactic| walk_at "my_src") => `(tactic| (intro myQ hmyQ; k_steps; refine' hmyQ _ _ _ ?mys1 ?mys2 ?mys3; (case mys1 => k_asm); (case mys2 => k_asm); (case mys3 => (refine' src_rangeI ?mys4 ?mys5 ?mys6 ?mys7; (case mys4 => assumption); (case mys5 => rfl); (case mys6 => omega); (case mys7 => rfl)))))
local macro_rules | `(tactic| walk_at "eval DictComp") => `(tactic| (k_here; k_dflt (refine' signs_eval ?sF ?sN ?sa1 ?sa2 ?sa3 ?sa4 ?sa5 ?sa6 ?sa7 ?sa8 ?sa9 ?sa10 ?sa11 ?sa12 ?sa13 ?sa14 ?sa15 ?_; (case sF => k_asm); (case sN => k_asm); (case sa6 => with_unfolding_all rfl); (case sa11 => rfl); (case sa3 => k_mem); (case sa4 => assumption); (case sa1 => assumption); (case sa2 => omega); (case sa5 => exact Top.nolimit (by assumption)); (case sa7 => decide); (case sa8 => rfl); (case sa9 => decide); (case sa10 => rfl); (case sa12 => exact fun _ => rfl); (case sa13 => decide); (case sa14 => decide); (case sa15 => walk_at "my_src")); intro myD myh' myo mytk F' N' myLt myLow myDI; (try k_lt myLt); (try k_fold); (try k_sweep)))
local macro_rules | `(tactic| walk_at "exec Assign cons DictComp") => `(tactic| (k_here; k_dflt (refine' signs_assign ?sF ?sN ?sa1 ?sa2 ?sa3 ?sa4 ?sa5 ?sb1 ?sb2 ?sa6 ?sa7 ?sa8 ?sa9 ?sa10 ?sb3 ?sb4 ?sa11 ?sa12 ?sa13 ?sa14 ?sa15 ?_; (case sF => k_asm); (case sN => k_asm); (case sa6 => with_unfolding_all rfl); (case sa11 => rfl); (case sa3 => k_mem); (case sa4 => assumption); (case sa1 => assumption); (case sa2 => omega); (case sa5 => exact Top.nolimit (by assumption)); (case sb1 => rfl); (case sb2 => with_unfolding_all rfl); (case sb3 => rfl); (case sb4 => rfl); (case sa7 => decide); (case sa8 => rfl); (case sa9 => decide); (case sa10 => rfl); (case sa12 => exact fun _ => rfl); (case sa13 => decide); (case sa14 => decide); (case sa15 => walk_at "my_src")); intro myD myh' myo mytk F' N' myLt myLow myDI; (try k_lt myLt); (try k_fold); (try k_sweep)))
theorem six_len {pre post : List Int} {n : Int} (h : [(48 : Int), 79, 111, 73, 108, 49] = pre ++ n :: post) : pre.length ≤ 6 := by
  have := congrArg List.length h
  simp at this
  omega
theorem c_tables (b : Array UInt8) (al : List Int) (hal : KBw.bInts b = al) (hl : al.length = 58) (t : Tok) :
    Call w mean mg mb 87 1 8 [.bytes b t] [] (fun h => True) (fun g h v => Tabs PP w al g h v) := by
  refine' call_ofC (binds := [(Str.ofString "signs", .bytes b t)]) ?k1 ?k2 ?k3 ?k4 ?k5 ?k6 ?k7 ?k8 ?_
  walk_at "my_openC"
  intro dp un gd env outer base s L h₁ tk0 cells hD hU B X T hl2 F N Y
  obtain ⟨o1, o2, o3, hE, e1, e2, e3⟩ := CellsAre.three Y
  subst hE
  have e1 : o1.data = .cell none := e1
  have e2 : o2.data = .cell none := e2
  have e3 : o3.data = .cell (some (.bytes b t)) := e3
  obtain ⟨t1, t2, t3, t4, t5, t6, hA⟩ : ∃ t1 t2 t3 t4 t5 t6, IsTup s.heap 61 #[.int 48 t1, .int 79 t2, .int 111 t3, .int 73 t4, .int 108 t5, .int 49 t6] := ⟨_, _, _, _, _, _, ⟨_, X 61 _ (by k_is), rfl, _, rfl⟩⟩
  (try dsimp only)
  (try k_fold)
  k_with_none
  (k_with "exec For Name Name" => k_dflt (refine' for_cell2 [Str.ofString "group", Str.ofString "held"] (fun pre o' => DictI PP w (al.length + pre.length) (pre.foldl (mendStep (idx al)) (idx al)) o') ?ta1 ?ta2 ?ta3 ?ta4 ?ta5 ?ta6 ?ta7 ?ta8 ?ta9 ?ta10 ?ta11 ?ta12 ?ta13 ?ta14 ?ta15 ?ta16 ?ta17; (case ta4 => k_asm); (case ta5 => k_asm); (case ta6 => rfl); (case ta12 => assumption); (case ta7 => k_updF); (case ta8 => (intro _; k_updF)); (case ta9 => assumption); (case ta10 => rfl); (case ta11 => rfl); (case ta3 => rfl); (case ta13 => walk_at "my_id"); (case ta16 => (intro _; rfl)); (case ta17 => passes_own); (case ta1 => exact hA); (case ta2 => exact .cons 48 _ (.cons 79 _ (.cons 111 _ (.cons 73 _ (.cons 108 _ (.cons 49 _ .nil)))))); rotate_left; (intro o' c' v' u' h' tk' myDI myCd F' N'; (try dsimp only at N'); (try k_fold); (try k_sweep)); rotate_left; (intro s1 o' c' pre' post' n' t' u' h' tk' own' e1 e2 myDI myCd F' N'; (try dsimp only at N'); (try simp only [List.cons_append, List.nil_append] at N'); (try k_fold); (try k_sweep); have e9 := six_len e1)))
  w_top off
  k_steps
  all_goals (try dsimp only)
  all_goals first
    | (refine' cell_end ?xe1 ?xe7 ?xe2 ?xe3 ?xe4 ?xe5 ?xe6; (case xe2 => k_asm); (case xe3 => k_asm); (case xe1 => first | (refine' tab_yes ?xg1 ?xg2 ?xg3 ?xg4 ?xg5; (case xg3 => assumption); (case xg1 => assumption); (case xg2 => assumption); (case xg4 => assumption); (case xg5 => first | (refine hk_yes ?_; assumption) | (refine hk_no ?_; assumption))) | (refine' tab_no1 ?xg1 ?xg2 ?xg5; (case xg1 => assumption); (case xg2 => assumption); (case xg5 => first | (refine hk_yes ?_; assumption) | (refine hk_no ?_; assumption))) | (refine' tab_no2 ?xg1 ?xg2 ?xg5; (case xg1 => assumption); (case xg2 => assumption); (case xg5 => first | (refine hk_yes ?_; assumption) | (refine hk_no ?_; assumption)))); (case xe7 => assumption); (case xe4 => (intro z hz; simp at hz; simp [hz])); (case xe5 => (intro p hp; simp at hp ⊢; rcases hp with hp | hp | hp | hp | hp <;> simp [hp])); (case xe6 => (intro p hp; simp [hp])))
    | (refine back_of (by assumption) ?_; refine' tabs_end ?xf1 ?xf2 ?xf3 ?xf4 ?xf5 ?xf6 ?xf7 ?xf8 ?xf9 ?xf10; (case xf1 => k_asm); (case xf2 => k_mem); (case xf3 => k_mem); (case xf4 => k_mem); (case xf5 => assumption); (case xf6 => assumption); (case xf7 => assumption); (case xf8 => assumption); (case xf9 => omega); (case xf10 => (simp only [List.length_cons, List.length_nil]; omega)))
end Mine
end

section
open PySem PySem.W PySem.Calls PyProof.Rows
namespace Mine
open Builtin
section
variable {prog : Program} {w : World} {A : Around} {E : Value → Shared → Prop} {s : Shared} {a b : Array UInt8} {t u : Tok}
theorem noIndexB : typeLookup (.type "bytes") "__index__" = pure none := by rw [typeLookup_type, builtinLookup_eq_fast]; kernel_rfl
theorem name_bytes {Q : String → Shared → Prop} (h : Q "bytes" s) : wpAny (model prog w) A (typeNameOfCut 200 (.bytes a t)) Q E s := by
  unfold typeNameOfCut
  refine wpAny_bind (wpAny_of_eq (a := Value.type "bytes") rfl ?_)
  exact wpAny_of_eq (a := "bytes") rfl h
theorem asIndex_bytes {Q : Int → Shared → Prop} (hh : A.handled = none) (h : ∀ h' tk e, Heap.NewExc s.heap h' e "TypeError" → E (.ref e) { s with heap := h', toks := tk }) : wpAny (model prog w) A (asIndex (.bytes a t)) Q E s := by
  unfold asIndex
  refine wpAny_bind (wpAny_of_eq (a := none) rfl ?_)
  refine wpAny_bind (wpAny_callSpecial?_none (typeIs_bytes s a t) noIndexB ?_)
  refine wpAny_bind (name_bytes ?_)
  exact raiseError_exc excClass_TypeError hh h
theorem find_none (h33 : ∀ k ∈ KBw.bInts b, 33 ≤ k) : (Bytes.find? b #[32] 0 b.size).isSome = false := by
  unfold Bytes.find?
  rw [Option.isSome_eq_false_iff, Option.isNone_iff_eq_none, List.find?_eq_none]
  intro i hi hx
  have hx' : b.extract i (i + 1) = #[32] := eq_of_beq hx
  have hm : (32 : UInt8) ∈ b := by
    have h1 : (32 : UInt8) ∈ b.extract i (i + 1) := by rw [hx']; simp
    obtain ⟨j, hj, e⟩ := Array.mem_iff_getElem.mp h1
    rw [Array.getElem_extract] at e
    rw [← e]; exact Array.getElem_mem _
  have := h33 32 (List.mem_map.mpr ⟨32, by simpa using hm, rfl⟩)
  omega
theorem notin_bytes {Q : Value → Shared → Prop} (hh : A.handled = none) (ha : a = #[32]) (h33 : ∀ k ∈ KBw.bInts b, 33 ≤ k) (h : ∀ h' tk, (∀ x o, s.heap.get? x = some o → h'.get? x = some o) → Q (.bool true) { s with heap := h', toks := tk }) :
    wpAny (model prog w) A (compareOp .NotIn (.bytes a t) (.bytes b u)) Q E s := by
  subst ha
  show wpAny _ _ (do return .bool (!(← contains (.bytes b u) (.bytes #[32] t)))) Q E s
  refine wpAny_bind ?_
  unfold contains
  try with_reducible refine wpAny_holding ?_
  refine wpAny_bind (wpAny_specialOf (typeIs_bytes s b u) FB.slot_bytes_contains.lookup ?_)
  show wpAny _ _ (if (some (Value.builtin "bytes.__contains__") == some Value.none) = true then _ else _) _ E s
  rw [if_neg (by rw [beq_builtin_none]; exact Bool.false_ne_true)]
  refine wpAny_bind (wpAny_callSpecialUnlessNone?_slot (name := Str.ofString "__contains__") (typeIs_bytes s b u) FB.slot_bytes_contains
    (wpAny_call_entry FB.slot_bytes_contains (typeIs_bytes s b u) FB.entry_bytes_contains ?_ (FB.args_bytes_contains_2 _ _)))
  show wpAny _ _ (Bytes.containsIn "bytes.__contains__" (.bytes b u) (.bytes #[32] t) >>= _) _ _ s
  refine wpAny_bind ?_
  unfold Bytes.containsIn
  refine wpAny_bind (wpAny_attempt (asIndex_bytes hh fun h' tk e hx => ?_))
  refine wpAny_bind (wpAny_of_eq KBy.buffer_eq ?_)
  refine wpAny_bind (wpAny_of_eq KBy.buffer_eq ?_)
  refine wpAny_bind (wpAny_rule ?_)
  refine wpAny_pure ?_
  rw [find_none h33]
  exact wpAny_pure ⟨_, rfl, wpAny_truthy_bool (wpAny_pure (h h' tk hx.keeps))⟩
end
section
variable {prog : Program} {w : World} {A : Around} {E : Value → Shared → Prop} {s : Shared} {a b : Array UInt8} {t u : Tok} {h₀ : Heap} {L : Addr} {m : PySem.Str → Option Value} {news : List (Addr × Obj)}
theorem notin_K {ks : List Int} {Q : Value → Shared → Prop} (F : Fr h₀ L s.heap m) (N : News h₀ L s.heap news) (hk : KBw.bInts b = ks) (h33 : ∀ k ∈ ks, 33 ≤ k) (hh : A.handled = none)
    (h : ∀ h' tk, Fr h₀ L h' m → News h₀ L h' news → Q (.bool true) { s with heap := h', toks := tk }) :
    wpAny (model prog w) A (compareOp .NotIn (.bytes #[32] t) (.bytes b u)) Q E s := by
  subst hk
  exact notin_bytes hh rfl h33 fun h' tk hx => h h' tk (F.keeps hx) (N.grown hx)
end
end Mine
end

section
open PySem PySem.W PySem.Calls PyProof.Rows PyProof.V PySem.Spec
namespace Mine
def AccEnd (h₀ : Heap) (L : Addr) (x y : PySem.Str) (m₀ : PySem.Str → Option Value) (news own : List (Addr × Obj)) (P : Int → Prop) (s : Shared) (fl : Flow) (s' : Shared) : Prop :=
  fl = .next ∧ ∃ h' tk a ta m' news', s' = { s with heap := h', toks := tk } ∧ Fr h₀ L h' m' ∧ m' y = some (.int a ta) ∧ (∀ z, z ≠ x → z ≠ y → m' z = m₀ z) ∧ News h₀ L h' news' ∧ (∀ p ∈ news, p ∈ news') ∧ (∀ p ∈ own, p ∈ news') ∧ P a
theorem acc_end {h₀ h' : Heap} {L : Addr} {x y : PySem.Str} {m₀ m' : PySem.Str → Option Value} {news own news' : List (Addr × Obj)} {P : Int → Prop} {s : Shared} {tk : Nat} {a : Int} {ta : Tok}
    (F : Fr h₀ L h' m') (N : News h₀ L h' news') (hy : m' y = some (.int a ta)) (hm : ∀ z, z ≠ x → z ≠ y → m' z = m₀ z) (h1 : ∀ p ∈ news, p ∈ news') (h2 : ∀ p ∈ own, p ∈ news') (hp : P a) : AccEnd h₀ L x y m₀ news own P s .next { s with heap := h', toks := tk } :=
  ⟨rfl, h', tk, a, ta, m', news', rfl, F, hy, hm, N, h1, h2, hp⟩
section
variable {prog : Program} {w : World} {A : Around} {E : Value → Shared → Prop} {s : Shared} {env : Env} {h₀ : Heap} {x : PySem.Str} {body : List Stmt} {Q : Flow → Shared → Prop}
theorem loop_b_acc {b : Array UInt8} {ks : List Int} {tb : Tok} {m₀ : PySem.Str → Option Value} {news : List (Addr × Obj)} {y : PySem.Str} {a0 : Int} {ta0 : Tok} (P : List Int → Int → Prop)
    (hb : KBw.bInts b = ks) (hh : A.handled = none) (F : Fr h₀ env.locals s.heap m₀) (N : News h₀ env.locals s.heap news) (hxy : ¬ y = x) (hy : m₀ y = some (.int a0 ta0)) (hp : P [] a0)
    (turn : ∀ (a : Int) (ta : Tok) (pre post : List Int) (n : Int) t h tk own, ks = pre ++ n :: post → OwnOff own (news.map (·.1)) → P pre a →
      Fr h₀ env.locals h (fun z => if z = x then some (.int n t) else if z = y then some (.int a ta) else m₀ z) → News h₀ env.locals h (news ++ own) →
      wpAny (model prog w) A (execs body env) (AccEnd h₀ env.locals x y m₀ news own (P (pre ++ [n])) { s with heap := h, toks := tk }) E { s with heap := h, toks := tk })
    (done : ∀ (a : Int) (ta : Tok) (u : Option Value) h tk, P ks a → Fr h₀ env.locals h (fun z => if z = x then u else if z = y then some (.int a ta) else m₀ z) → News h₀ env.locals h news → Q .next { s with heap := h, toks := tk }) :
    wpAny (model prog w) A (pyIter (.bytes b tb)) (fun it s₂ => LoopAtV prog w A h₀ env x body Q E it s₂) E s := by
  refine KStb.kst_bytes (σ := Int × Tok) (fun _ => news) (fun c => [(y, .int c.1 c.2)]) (fun _ => True) [] (fun pre c => P pre c.1) (a0, ta0) hb rfl hh F N trivial (fun p hp => by rw [List.mem_singleton.mp hp]; exact hy) hp ?_ ?_
  · intro c pre post n t u h tk own e1 e2 e3 e4 e5 e6 e7 F' N'
    refine wpAny_mono (turn c.1 c.2 pre post n t h tk own e1 e5 e7 ?_ N') (fun fl s' hl => ?_) fun _ _ e => e
    · refine Eq.mp (congrArg (fun z => Fr h₀ env.locals h z) ?_) F'
      funext z; split <;> rfl
    · obtain ⟨rfl, h', tk', a', ta', m', news', rfl, F2, hy', hm, N2, a1, a2, a3⟩ := hl
      refine ⟨h', tk', m', news', news, rfl, F2, N2, a1, a2, rfl, (a', ta'), rfl, trivial, (fun p hp => by rw [List.mem_singleton.mp hp]; exact hy'), fun z hz hz2 _ => hm z hz (hz2 _ (.head _)), a3⟩
  · intro c u h tk e0 e6 e7 F' N'
    refine done c.1 c.2 (u x) h tk e7 ?_ N'
    refine Eq.mp (congrArg (fun z => Fr h₀ env.locals h z) ?_) F'
    funext z
    by_cases hz : z = x
    · simp [hz]
    · simp only [hz, if_false]; rfl
end
end Mine
end

section
open PySem PySem.W PySem.Calls PyProof.Rows PyProof.V PySem.Spec
namespace Mine
local macro_rules | `(tactic| walk_at "pad C_dec 0") => `(tactic| skip)
local macro_rules | `(tactic| walk_at "pad C_dec 1") => `(tactic| skip)
local macro_rules | `(tactic| walk_at "pad C_dec 2") => `(tactic| skip)
theorem filled_dec (w : World) : Challenge.rw_eg5004_01.row.prog = Challenge.rw_eg5004_01.row.prog ∧ hd.heap_39 w.params = hd.heap_39 w.params := by
  k_fill
  exact ⟨rfl, rfl⟩
variable (w : World) (mean : ExcName → Option Value) (mg mb : PySem.Str → Option Value)
local macro_rules | `(tactic| walk_at "my_open") => `(tactic| (
  (case k1 => k_is)
  (case k2 => k_is)
  (case k3 => (intro sX XX; first | exact BindsTo.of_eq rfl | exact binds_K XX rfl (by k_is) rfl rfl rfl))
  (case k4 => exact locs rfl)
  (case k5 => exact rfl)
  (case k6 => exact rfl)
  (case k7 => exact rfl)
  (case k8 => decide)))
local macro_rules | `(tactic| walk_at "my_one") => `(tactic| first | exact ints_zero | exact first_cut (by assumption) (by assumption) | rfl)
local macro_rules | `(tactic| walk_at "getMethod bytes") => `(tactic| (k_here; first | (with_reducible refine method_lstrip ?_) | (with_reducible refine method_rstrip ?_)))
local macro_rules | `(tactic| walk_at "call builtin:bytes.lstrip") => `(tactic| (k_here; k_dflt (refine' lstrip_K ?sa1 ?sa2 ?sa3 ?_; (case sa1 => kba_ints2); (case sa2 => walk_at "my_one"); (case sa3 => kba_size)); intro _ _ _ myLs; have myLl := lstrip_len myLs))
local macro_rules | `(tactic| walk_at "call builtin:bytes.rstrip") => `(tactic| (k_here; k_dflt (refine' rstrip_K ?sa1 ?sa2 ?sa3 ?_; (case sa1 => kba_ints2); (case sa2 => assumption); (case sa3 => kba_size)); intro _ _ _ myRs))
local macro_rules | `(tactic| walk_at "binaryOp Mult bytes int") => `(tactic| (k_here; k_dflt (refine' mul_K ?sa1 ?sa2 ?sa3 ?_; (case sa1 => walk_at "my_one"); (case sa2 => kba_size); (case sa3 => kba_size)); intro _ _ _ myMu myMl))
local macro_rules | `(tactic| walk_at "callWith ref") => `(tactic| (k_here; kfb_any; k_dflt (refine' callWith_boundKW ?sa1 ?sa2 ?sa3 ?_; (case sa1 => k_asm); (case sa2 => k_mem); (case sa3 => exact rfl); k_whole)))
local macro_rules | `(tactic| walk_at "call ref") => `(tactic| (k_here; (with_reducible show wpAny _ _ (call (Value.ref _) [Value.bytes _ _] _) _ _ _); kfb_any; k_dflt (refine fb_call (by k_asm) (by k_mem) (by kba_ints2) (by kba_size) ?_); intro _ _ myV0 myV1))

local macro_rules | `(tactic| walk_at "my_use") => `(tactic| (
  (case ua1 => k_asm); (case ua2 => k_asm); (case ua3 => k_asm); (case ua4 => k_asm); (case ua5 => k_asm); (case ua6 => exact rfl); (case ua7 => exact rfl); (case ua8 => omega); (case ua9 => omega)))
local macro_rules | `(tactic| walk_at "my_after") => `(tactic| ((try dsimp only); (try k_fold); (try k_sweep)))


local macro_rules | `(tactic| walk_at "my_openC") => `(tactic| (
  (case k1 => k_is)
  (case k2 => k_is)
  (case k3 => (intro sX XX; first | exact BindsTo.of_eq rfl | exact binds_K XX rfl (by k_is) rfl rfl rfl))
  (case k4 => exact kinds_of' rfl)
  (case k5 => decide +kernel)
  (case k6 => exact rfl)
  (case k7 => exact rfl)
  (case k8 => exact rfl)))
local macro_rules | `(tactic| walk_at "my_at") => `(tactic| first | (refine' News.get ?mya1 ?mya2; (case mya1 => k_asm); (case mya2 => k_mem)) | (refine' Fr.keep ?mya1 _ _ ?mya2; (case mya1 => k_asm); (case mya2 => assumption)))
local macro_rules | `(tactic| walk_at "my_lo") => `(tactic| assumption)
local macro_rules | `(tactic| walk_at "my_in") => `(tactic| assumption)
local macro_rules | `(tactic| walk_at "compareOp In int ref") => `(tactic| (k_here; k_dflt (refine' inD ?xa2 ?xa3 ?xa1 ?_; (case xa1 => walk_at "my_at"); (case xa2 => assumption); (case xa3 => assumption))))
local macro_rules | `(tactic| walk_at "compareOp NotIn int ref") => `(tactic| (k_here; k_dflt (refine' notinD ?xa2 ?xa3 ?xa1 ?_; (case xa1 => walk_at "my_at"); (case xa2 => assumption); (case xa3 => assumption))))
local macro_rules | `(tactic| walk_at "subscriptTail") => `(tactic| (k_here; (with_reducible show wpAny _ _ (subscriptTail _ _ (Value.ref _) (Value.int _ _)) _ _ _); k_dflt (refine' itemD ?xc2 ?xc3 ?xc1 ?xc4 ?_; (case xc1 => walk_at "my_at"); (case xc2 => assumption); (case xc3 => assumption); (case xc4 => assumption)); intro _))
local macro_rules | `(tactic| walk_at "subscriptTail") => `(tactic| (k_here; (with_reducible show wpAny _ _ (subscriptTail _ _ (Value.ref _) (Value.int 0 _)) _ _ _); k_dflt (refine' itemL1 ?xc1 ?_; (case xc1 => walk_at "my_at"))))
local macro_rules | `(tactic| walk_at "setItem ref int") => `(tactic| (k_here; k_dflt (refine' setD ?xb5 ?xb1 ?xb2 ?xb3 ?xb4 ?_; (case xb1 => k_asm); (case xb2 => k_asm); (case xb3 => k_updF); (case xb5 => assumption); (case xb4 => omega)); intro h' o' F' N' hd'; (try dsimp only at N'); (try k_sweep)))
local macro_rules | `(tactic| walk_at "my_id") => `(tactic| (intro myQ hmyQ; k_steps; exact hmyQ))
local macro_rules | `(tactic| walk_at "my_ne") => `(tactic| skip)
local macro_rules | `(tactic| walk_at "call builtin:len") => `(tactic| (k_here; k_dflt (refine' kst_len ?xd1 ?xd2 ?xd3 ?xd4 ?_; (case xd1 => k_asm); (case xd2 => k_mem); (case xd3 => exact rfl); (case xd4 => omega))))
local macro_rules | `(tactic| walk_at "ite") => `(tactic| (refine' ite_not ?nn ?_; (case nn => ((first | refine beq_eq_false_iff_ne.mpr ?_ | refine decide_eq_false ?_); omega))))
local macro_rules | `(tactic| walk_at "AltEnd") => `(tactic| (refine' alt_end ?xe1 ?xe2 ?xe3 ?xe4 ?xe5 ?xe6; (case xe1 => assumption); (case xe2 => k_asm); (case xe3 => k_asm); (case xe4 => (intro z hz; simp [hz])); (case xe5 => (intro p hp; simp at hp ⊢; simp [hp])); (case xe6 => (intro p hp; simp [hp]))))


local macro_rules | `(tactic| walk_at "my_src") => `(tactic| (intro myQ hmyQ; k_steps; refine' hmyQ _ _ _ ?mys1 ?mys2 ?mys3; (case mys1 => k_asm); (case mys2 => k_asm); (case mys3 => (refine' src_rangeI ?mys4 ?mys5 ?mys6 ?mys7; (case mys4 => assumption); (case mys5 => rfl); (case mys6 => omega); (case mys7 => rfl)))))

local macro_rules | `(tactic| walk_at "call ref") => `(tactic| (k_here; (with_reducible show wpAny _ _ (call (Value.ref 21) _ _) _ _ _); k_dflt (refine' use_call (b_scrub _ _ _ _ _ _) ?ua1 ?ua2 ?ua3 ?ua4 ?ua5 ?ua6 ?ua7 ?ua8 ?ua9 ?uap ?_; walk_at "my_use"; (case uap => trivial)); intro _ _ _ F' N' kK' hP'; subst hP'; walk_at "my_after"))

local macro_rules | `(tactic| walk_at "compareOp NotIn bytes bytes") => `(tactic| (k_here; k_dflt (refine' notin_K ?ni1 ?ni2 ?ni3 ?ni4 ?ni5 ?_; (case ni1 => k_asm); (case ni2 => k_asm); (case ni3 => assumption); (case ni4 => assumption); (case ni5 => rfl)); intro h' tk' F' N'; (try k_fold); (try k_sweep)))
local macro_rules | `(tactic| walk_at "call ref") => `(tactic| (k_here; (with_reducible show wpAny _ _ (call (Value.ref 42) [_] _) _ _ _); k_dflt (refine' use_callD (c_map _ _ _ _ _ _ ?uh1 ?uh2 _ _) ?ua1 ?ua2 ?ua3 ?ua4 ?ua5 ?ua6 ?ua7 ?ua8 ?ua9 ?uap ?_; walk_at "my_use"; (case uap => trivial); (case uh1 => assumption); (case uh2 => assumption)); intro myD myo h' tk' F' N' myNe myR; obtain ⟨myLow, myDI⟩ := myR; (simp only [List.forall_mem_cons, List.not_mem_nil, false_implies, implies_true, and_true] at myNe); walk_at "my_after"))
theorem all_at {ks pre post : List Int} {n : Int} {f : Int → Option Int} {g : Int → Int} (h : ∀ c ∈ ks, f c = some (g c)) (e : ks = pre ++ n :: post) : f n = some (g n) := h n (by rw [e]; simp)
def rkOf (f : Int → Option Int) (c : Int) : Int := (f c).getD 0
theorem c_dec_int (v b : Array UInt8) (ks al : List Int) (hv : KBw.bInts v = ks) (hk : KBw.bInts b = al) (hal : al.length = 58) (h33 : ∀ k ∈ al, 33 ≤ k) (hv33 : ∀ k ∈ ks, 33 ≤ k) (t t1 : Tok) (hlen : ks.length ≤ 15) (fix : Bool) (hgood : ∀ c ∈ ks, mapOf al fix c = some (rkOf (mapOf al fix) c)) :
    Call w mean mg mb 51 2 16 [.bytes v t1, .bytes b t] [(Str.ofString "autofix", .bool fix)] (fun h => True) (fun g h v => ∃ u, v = .int (num 58 (ks.map (rkOf (mapOf al fix)))) u) := by
  refine' call_of (binds := [(Str.ofString "v", .bytes v t1), (Str.ofString "alphabet", .bytes b t), (Str.ofString "autofix", .bool fix)]) ?k1 ?k2 ?k3 ?k4 ?k5 ?k6 ?k7 ?k8 ?_
  walk_at "my_open"
  intro dp un gd env outer base s L h₁ tk0 hD hU B X T hl F N
  k_with_none
  (k_with "pyIter bytes" => k_dflt (refine' loop_b_acc (y := Str.ofString "decimal") (fun pre a => a = num 58 (pre.map (rkOf (mapOf al fix)))) ?la1 ?la2 ?la3 ?la4 ?la5 ?la6 ?la7 ?_ ?_; (case la3 => k_asm); (case la4 => k_asm); (case la1 => assumption); (case la2 => rfl); (case la5 => decide); (case la6 => rfl); (case la7 => rfl); rotate_left; (intro a1 ta1 u1 h' tk' hP F' N'; (try dsimp only at N'); (try k_fold); (try k_sweep)); rotate_left; (intro a1 ta1 pre1 post1 n1 t1' h' tk' own' e1 e2 hP F' N'; have hvn := all_at hgood e1; (try dsimp only at N'); (try simp only [List.cons_append, List.nil_append] at N'); (try k_fold); (try k_sweep))))
  w_top off
  k_steps
  all_goals (try dsimp only)
  all_goals first
    | (refine' acc_end ?xe1 ?xe2 ?xe3 ?xe4 ?xe5 ?xe6 ?xe7; (case xe1 => k_asm); (case xe2 => k_asm); (case xe3 => rfl); (case xe4 => (intro z hz1 hz2; simp [hz1, hz2])); (case xe5 => exact fun p hp => List.mem_append_left _ hp); (case xe6 => (intro p hp; simp [hp])); (case xe7 => (rw [List.map_append, List.map_cons, List.map_nil, num_snoc, ← hP, hal]; rfl)))
    | (refine back_of (by assumption) ?_; exact ⟨_, by rw [hP]⟩)
theorem c_dec_int_kw (v b : Array UInt8) (ks al : List Int) (hv : KBw.bInts v = ks) (hk : KBw.bInts b = al) (hal : al.length = 58) (h33 : ∀ k ∈ al, 33 ≤ k) (hv33 : ∀ k ∈ ks, 33 ≤ k) (t t1 : Tok) (hlen : ks.length ≤ 15) (fix : Bool) (hgood : ∀ c ∈ ks, mapOf al fix c = some (rkOf (mapOf al fix) c)) :
    Call w mean mg mb 51 2 16 [.bytes v t1] [(Str.ofString "alphabet", .bytes b t), (Str.ofString "autofix", .bool fix)] (fun h => True) (fun g h v => ∃ u, v = .int (num 58 (ks.map (rkOf (mapOf al fix)))) u) := by
  refine' call_of (binds := [(Str.ofString "v", .bytes v t1), (Str.ofString "alphabet", .bytes b t), (Str.ofString "autofix", .bool fix)]) ?k1 ?k2 ?k3 ?k4 ?k5 ?k6 ?k7 ?k8 ?_
  walk_at "my_open"
  intro dp un gd env outer base s L h₁ tk0 hD hU B X T hl F N
  k_with_none
  (k_with "pyIter bytes" => k_dflt (refine' loop_b_acc (y := Str.ofString "decimal") (fun pre a => a = num 58 (pre.map (rkOf (mapOf al fix)))) ?la1 ?la2 ?la3 ?la4 ?la5 ?la6 ?la7 ?_ ?_; (case la3 => k_asm); (case la4 => k_asm); (case la1 => assumption); (case la2 => rfl); (case la5 => decide); (case la6 => rfl); (case la7 => rfl); rotate_left; (intro a1 ta1 u1 h' tk' hP F' N'; (try dsimp only at N'); (try k_fold); (try k_sweep)); rotate_left; (intro a1 ta1 pre1 post1 n1 t1' h' tk' own' e1 e2 hP F' N'; have hvn := all_at hgood e1; (try dsimp only at N'); (try simp only [List.cons_append, List.nil_append] at N'); (try k_fold); (try k_sweep))))
  w_top off
  k_steps
  all_goals (try dsimp only)
  all_goals first
    | (refine' acc_end ?xe1 ?xe2 ?xe3 ?xe4 ?xe5 ?xe6 ?xe7; (case xe1 => k_asm); (case xe2 => k_asm); (case xe3 => rfl); (case xe4 => (intro z hz1 hz2; simp [hz1, hz2])); (case xe5 => exact fun p hp => List.mem_append_left _ hp); (case xe6 => (intro p hp; simp [hp])); (case xe7 => (rw [List.map_append, List.map_cons, List.map_nil, num_snoc, ← hP, hal]; rfl)))
    | (refine back_of (by assumption) ?_; exact ⟨_, by rw [hP]⟩)
end Mine
end

section
open PySem PySem.W PySem.Calls PyProof.Rows
namespace Mine
structure DecInv (N acc : Int) (out : List Int) : Prop where
  all : WhInv 256 N acc out ∧ 0 ≤ acc ∧ acc * 2 ^ out.length ≤ N ∧ N < 2 ^ 100 ∧ out.length ≤ 100
theorem dec_start {N : Int} (h0 : 0 ≤ N) (h1 : N < 2 ^ 100) : DecInv N N [] := ⟨⟨⟨.nil, by simp [le], fun _ => by simp⟩, h0, by simp, h1, by simp⟩⟩
theorem dec_start2 {n N : Int} (e : n = N) (h0 : 0 ≤ N) (h1 : N < 2 ^ 100) : DecInv n n [] := by subst e; exact dec_start h0 h1
theorem dec_turn {N acc : Int} {out : List Int} (h : DecInv N acc out) (hc : 0 < acc) : DecInv N (acc.fdiv 256) (out ++ [acc.fmod 256]) := by
  obtain ⟨hw, h0, hm, hN, hl⟩ := h.all
  have h1 : (1 : Int) * 2 ^ out.length ≤ acc * 2 ^ out.length := Int.mul_le_mul_of_nonneg_right (by omega) (Int.le_of_lt (pow_pos' (by decide) _))
  have hlen : out.length < 100 := by
    have h2 : (2 : Int) ^ out.length < 2 ^ 100 := by omega
    have h3 : (2 : Nat) ^ out.length < 2 ^ 100 := by exact_mod_cast h2
    exact (Nat.pow_lt_pow_iff_right (by decide)).mp h3
  obtain ⟨hw', hl', hq⟩ := wh_turn (b := (out.length : Int) + acc) hw (by decide) hc (Int.le_refl _)
  refine ⟨hw', hq, ?_, hN, by simp only [List.length_append, List.length_singleton]; omega⟩
  rw [Int.fdiv_eq_ediv_of_nonneg _ (by omega)]
  have hq2 : acc / 256 * 2 ≤ acc := by omega
  have h4 : acc / 256 * 2 * 2 ^ out.length ≤ acc * 2 ^ out.length := Int.mul_le_mul_of_nonneg_right hq2 (Int.le_of_lt (pow_pos' (by decide) _))
  rw [List.length_append, List.length_singleton, Int.pow_succ]
  have : acc / 256 * (2 ^ out.length * 2) = acc / 256 * 2 * 2 ^ out.length := by grind
  omega
theorem dec_less {acc : Int} (hc : 0 < acc) : (acc.fdiv 256).toNat < acc.toNat := by
  rw [Int.fdiv_eq_ediv_of_nonneg _ (by omega)]; omega
theorem num_acc {b : Int} (hb : 0 < b) : ∀ {l : List Int} {a : Int}, 0 ≤ a → (∀ d ∈ l, 0 ≤ d ∧ d < b) → 0 ≤ l.foldl (fun a k => a * b + k) a ∧ l.foldl (fun a k => a * b + k) a < (a + 1) * b ^ l.length
  | [], a, h0, _ => by simp; omega
  | k :: l, a, h0, h => by
    obtain ⟨d0, d1⟩ := h k (.head _)
    have h3 : 0 ≤ a * b := Int.mul_nonneg h0 (by omega)
    obtain ⟨i0, i1⟩ := num_acc hb (l := l) (a := a * b + k) (by omega) fun x hx => h x (.tail _ hx)
    refine ⟨i0, Int.lt_of_lt_of_le i1 ?_⟩
    have h5 : (a * b + k + 1) * b ^ l.length ≤ (a * b + b) * b ^ l.length := Int.mul_le_mul_of_nonneg_right (by omega) (Int.le_of_lt (pow_pos' hb _))
    rw [List.length_cons, Int.pow_succ]
    have : (a * b + b) * b ^ l.length = (a + 1) * (b ^ l.length * b) := by grind
    omega
theorem num_lt {b : Int} (hb : 0 < b) {l : List Int} (h : ∀ d ∈ l, 0 ≤ d ∧ d < b) : 0 ≤ num b l ∧ num b l < b ^ l.length := by
  have := num_acc hb (l := l) (Int.le_refl 0) h
  simpa [num] using this
theorem num_small {l : List Int} (hl : l.length ≤ 15) (h : ∀ d ∈ l, 0 ≤ d ∧ d < 58) : 0 ≤ num 58 l ∧ num 58 l < 2 ^ 100 := by
  obtain ⟨a, b⟩ := num_lt (by decide) h
  refine ⟨a, Int.lt_of_lt_of_le b ?_⟩
  have h1 : (58 : Nat) ^ l.length ≤ 58 ^ 15 := Nat.pow_le_pow_right (by decide) hl
  have h2 : (58 : Nat) ^ l.length ≤ 2 ^ 100 := Nat.le_trans h1 (by decide)
  exact_mod_cast h2
def DecodeIs (f : Int → Int) (a0 : Int) (ks out : List Int) : Prop :=
  ∃ r : List Int, Canon 256 r.reverse (num 58 ((ks.dropWhile fun x => decide (x = a0)).map f)) ∧ out = List.replicate ((ks.length : Int) - ((ks.dropWhile fun x => decide (x = a0)).length : Int)).toNat 0 ++ r
end Mine
end

section
open PySem PySem.W PySem.Calls PyProof.Rows PyProof.V PySem.Spec
namespace Mine
def WEnd (h₀ : Heap) (L : Addr) (y : PySem.Str) (stored : List PySem.Str) (m₀ : PySem.Str → Option Value) (g : Obj → List (Addr × Obj)) (P : Int → List Int → Prop) (a : Int) (s : Shared) (fl : Flow) (s' : Shared) : Prop :=
  fl = .next ∧ ∃ h' tk a' ta vs out c m' news', s' = { s with heap := h', toks := tk } ∧ Fr h₀ L h' m' ∧ m' y = some (.int a' ta) ∧ (∀ z, z ≠ y → stored.contains z = false → m' z = m₀ z) ∧ News h₀ L h' news' ∧ (∀ p ∈ g (PySem.W.listOf (List.toArray vs) c), p ∈ news') ∧ IntsAre vs out ∧ P a' out ∧ a'.toNat < a.toNat
theorem w_end {h₀ h' : Heap} {L : Addr} {y : PySem.Str} {stored : List PySem.Str} {m₀ m' : PySem.Str → Option Value} {g : Obj → List (Addr × Obj)} {news' : List (Addr × Obj)} {P : Int → List Int → Prop} {s : Shared} {tk : Nat} {a a' : Int} {ta : Tok} {vs : List Value} {out : List Int} {c : Nat}
    (F : Fr h₀ L h' m') (N : News h₀ L h' news') (hy : m' y = some (.int a' ta)) (hm : ∀ z, z ≠ y → stored.contains z = false → m' z = m₀ z) (h1 : ∀ p ∈ g (PySem.W.listOf (List.toArray vs) c), p ∈ news') (hi : IntsAre vs out) (hp : P a' out) (hl : a'.toNat < a.toNat) :
    WEnd h₀ L y stored m₀ g P a s .next { s with heap := h', toks := tk } := ⟨rfl, h', tk, a', ta, vs, out, c, m', news', rfl, F, hy, hm, N, h1, hi, hp, hl⟩
section
variable {prog : Program} {w : World} {A : Around} {E : Value → Shared → Prop} {s : Shared} {h₀ : Heap} {L : Addr} {env : Env} {Q : Flow → Shared → Prop}
theorem while_out {test : Expr} {body : List Stmt} {pos : Pos} {m₀ : PySem.Str → Option Value} {news : List (Addr × Obj)} {g : Obj → List (Addr × Obj)} {lo : Addr} {y : PySem.Str} {a0 : Int} {t0 : Tok} (stored : List PySem.Str) (P : Int → List Int → Prop)
    (hL : env.locals = L) (F : Fr h₀ L s.heap m₀) (N : News h₀ L s.heap news) (U : UpdF lo (PySem.W.listOf #[] 0) news g) (hy : m₀ y = some (.int a0 t0)) (hp : P a0 [])
    (turn : ∀ (a : Int) (ta : Tok) (vs : List Value) (out : List Int) (c : Nat) (u : PySem.Str → Option Value) h tk, P a out → IntsAre vs out → Fr h₀ L h (fun z => if z = y then some (.int a ta) else if stored.contains z then u z else m₀ z) → News h₀ L h (g (PySem.W.listOf (List.toArray vs) c)) →
      wpAny (model prog w) A (isTrue test env (eval test env)) (fun b s₂ => if b = true then wpAny (model prog w) A (execs body env) (WEnd h₀ L y stored m₀ g P a s) E s₂ else Q .next s₂) E { s with heap := h, toks := tk })
    (hE : PassesOwn (model prog w) A env E := by passes_own) :
    wpAny (model prog w) A (exec (.While test body [] pos) env) Q E s := by
  subst hL
  refine ksw_while (σ := Int × Tok × List Value × List Int × Nat) (fun c => g (PySem.W.listOf (List.toArray c.2.2.1) c.2.2.2.2)) (fun c => [(y, .int c.1 c.2.1)]) (fun c => IntsAre c.2.2.1 c.2.2.2.1) stored (fun c => P c.1 c.2.2.2.1) (fun c => c.1.toNat) (a0, t0, [], [], 0) F (by
    have e := updF_self U
    exact e ▸ N) .nil (fun p hp => by rw [List.mem_singleton.mp hp]; exact hy) hp ?_ hE
  intro c u h tk hf hP F' N'
  refine wpAny_mono (turn c.1 c.2.1 c.2.2.1 c.2.2.2.1 c.2.2.2.2 u h tk hP hf ?_ N') (fun b s₂ hb => ?_) fun _ _ e => e
  · refine Eq.mp (congrArg (fun z => Fr h₀ env.locals h z) ?_) F'
    funext z; rfl
  · cases b with
    | false => simpa using hb
    | true =>
      simp only [if_true] at hb ⊢
      refine wpAny_mono hb (fun fl s' hl => ?_) fun _ _ e => e
      obtain ⟨rfl, h', tk', a', ta', vs', out', c', m', news', rfl, F2, hy', hm, N2, a1, a2, a3, a4⟩ := hl
      exact ⟨(a', ta', vs', out', c'), h', tk', m', news', rfl, F2, N2, a1, a2, (fun p hp => by rw [List.mem_singleton.mp hp]; exact hy'), fun z hz hz2 => hm z (hz _ (.head _)) hz2, a3, a4⟩
end
end Mine
end

section
open PySem PySem.W PySem.Calls PyProof.Rows PyProof.V PySem.Spec
namespace Mine
theorem lri_no_bytes : typeLookup (.type "list_reverseiterator") "__bytes__" = pure none := by rw [typeLookup_type, builtinLookup_eq_fast]; kernel_rfl
theorem lri_no_index : typeLookup (.type "list_reverseiterator") "__index__" = pure none := by rw [typeLookup_type, builtinLookup_eq_fast]; kernel_rfl
theorem lri_no_buffer : typeLookup (.type "list_reverseiterator") "__buffer__" = pure none := by rw [typeLookup_type, builtinLookup_eq_fast]; kernel_rfl
theorem lri_no_len : typeLookup (.type "list_reverseiterator") "__len__" = pure none := by rw [typeLookup_type, builtinLookup_eq_fast]; kernel_rfl
theorem lri_hint : typeLookup (.type "list_reverseiterator") "__length_hint__" = pure (some (.builtin "list_reverseiterator.__length_hint__")) := by rw [typeLookup_type, builtinLookup_eq_fast]; kernel_rfl
theorem lri_split : splitId "list_reverseiterator.__length_hint__" = some ("list_reverseiterator", "__length_hint__") := by decide +kernel
theorem lri_sub : isSubtype (.type "list_reverseiterator") (.type "list_reverseiterator") = pure true := by rw [isSubtype_type]; kernel_rfl
section
variable {prog : Program} {w : World} {A : Around} {E : Value → Shared → Prop} {s : Shared}
theorem rv_loop {R : Result → Shared → Prop} {l I S : Addr} {vs : List Value} {ns : List Int} (hh : A.handled = none) (hi : IntsAre vs ns) (hr : ∀ n ∈ ns, 0 ≤ n ∧ n < 256) (hz : ns.length ≤ sizeLine) (hIS : I ≠ S) (hlI : l ≠ I) (hlS : l ≠ S) :
    ∀ (k i : Nat) (s : Shared), ns.length - i = k → i ≤ ns.length → s.heap.IsList l vs.toArray → s.heap.IsRevIter I l ((ns.length : Int) - 1 - (i : Int)) → s.heap.get? S = some { cls := .type "bytearray", data := .bytearray (byteArr (ns.reverse.take i)) } →
      (∀ h' t k', (∀ b o, b ≠ I → b ≠ S → s.heap.get? b = some o → h'.get? b = some o) → R (.ok (.ret (.bytes (byteArr ns.reverse) t))) { s with heap := h', toks := k' }) →
      codeAny (model prog w) A (.builtin "bytes.__new__.loop" ⟨[.type "bytes", .ref I, .ref S], []⟩) R s := by
  have hlen : vs.length = ns.length := hi.length
  intro k
  induction k with
  | zero =>
    intro i s hk hle hl hit hS hR
    have hin : i = ns.length := by omega
    subst hin
    refine codeAny_builtin F.bm_entry_loop ?_
    rw [Around.under_plainId F.bm_plain_loop _]
    show wpAny _ A.in1 (pyNext (.ref I) >>= _) _ _ s
    have hit' : s.heap.IsRevIter I l (-1) := by
      have e : (ns.length : Int) - 1 - (ns.length : Int) = -1 := by omega
      rwa [e] at hit
    refine wpAny_bind (wpAny_pyNext_rev_end hh hit' fun h' he => ?_)
    have hS' : h'.get? S = some { cls := .type "bytearray", data := .bytearray (byteArr (ns.reverse.take ns.length)) } := he S _ (Ne.symm hIS) hS
    refine wpAny_bind ?_
    unfold Builtin.Bytes.payload Builtin.Bytes.payload?
    refine wpAny_bind (wpAny_bind (wpAny_load hS' ?_))
    refine wpAny_pure (wpAny_pure ?_)
    rw [List.take_of_length_le (by rw [List.length_reverse]; exact Nat.le_refl _)]
    refine wpAny_bind (wpAny_mkBytes ?_ (by rw [byteArr_size, List.length_reverse]; exact hz))
    show wpAny _ _ (if (Value.type "bytes" == Value.type "bytes") = true then _ else _) _ _ _
    refine bm_if_true (by decide) ?_
    first
      | exact wpAny_pure (hR h' _ _ fun b o hb _ e => he b o hb e)
      | exact wpAny_bind (wpAny_pure (wpAny_pure (hR h' _ _ fun b o hb _ e => he b o hb e)))
  | succ k ih =>
    intro i s hk hle hl hit hS hR
    have hlt : i < ns.length := by omega
    have hj : ns.length - 1 - i < vs.length := by omega
    obtain ⟨x, hx⟩ : ∃ x, vs[ns.length - 1 - i]? = some x := ⟨vs[ns.length - 1 - i]'hj, List.getElem?_eq_getElem hj⟩
    obtain ⟨n, t, rfl, hn⟩ := IntsAre.at hi _ x hx
    have hn' : ns.reverse[i]? = some n := by rw [List.getElem?_reverse hlt]; exact hn
    obtain ⟨h0, h1⟩ := hr n (List.mem_of_getElem? hn)
    have e1 : (ns.length : Int) - 1 - (i : Int) = ((ns.length - 1 - i : Nat) : Int) := by omega
    rw [e1] at hit
    refine codeAny_builtin F.bm_entry_loop ?_
    rw [Around.under_plainId F.bm_plain_loop _]
    show wpAny _ A.in1 (pyNext (.ref I) >>= _) _ _ s
    refine wpAny_bind (wpAny_pyNext_rev_item (x := .int n t) hit hl (by simpa using hx) fun h' hit' hs => ?_)
    have hS' : h'.get? S = some { cls := .type "bytearray", data := .bytearray (byteArr (ns.reverse.take i)) } := (hs.2 S (Ne.symm hIS)).trans hS
    refine wpAny_bind (wpAny_holding (wpAny_of_eq (rfl : asIndex (.int n t) = pure n) ?_))
    refine wpAny_bind (wpAny_letGo ?_)
    refine bm_if_false (by simp only [Bool.or_eq_false_iff, decide_eq_false_iff_not]; omega) ?_
    refine wpAny_bind ?_
    show wpAny _ _ (updateBytearray S (·.push n.toNat.toUInt8)) _ _ _
    unfold updateBytearray
    refine wpAny_bind (wpAny_load hS' ?_)
    show wpAny _ _ (update S (Obj.mapBytearray (·.push n.toNat.toUInt8)) >>= fun _ => lookBehind S) _ _ _
    refine wpAny_bind (wpAny_update hS' ?_)
    have hS₂ : (h'.update S (Obj.mapBytearray (·.push n.toNat.toUInt8))).get? S = some { cls := .type "bytearray", data := .bytearray (byteArr (ns.reverse.take (i + 1))) } := by
      rw [byteArr_take hn']
      exact Heap.get?_update_self (Obj.mapBytearray (·.push n.toNat.toUInt8)) hS' rfl
    refine wpAny_lookBehind hS₂ ?_ ?_
    · show (if (byteArr (ns.reverse.take (i + 1))).size > sizeLine then some "bytearray:memory" else none) = none
      rw [if_neg]
      rw [byteArr_size, List.length_take, List.length_reverse]
      omega
    · have e2 : ((ns.length - 1 - i : Nat) : Int) - 1 = (ns.length : Int) - 1 - ((i + 1 : Nat) : Int) := by omega
      rw [e2] at hit'
      refine wpAny_pure ⟨plainId_quiet F.bm_plain_loop _, ih (i + 1) { s with heap := h'.update S (Obj.mapBytearray (·.push n.toNat.toUInt8)) } (by omega) hlt ?_ ?_ hS₂ fun h3 t' k' hk3 => ?_⟩
      · exact (hl.extBut hs.extBut hlI).extBut (Heap.SameBut.update ..).extBut hlS
      · exact hit'.at fun o eo => (Heap.SameBut.update ..).extBut I o hIS eo
      · exact hR h3 t' k' fun b o hbI hbS e => hk3 b o hbI hbS ((Heap.get?_update_other _ _ (Ne.symm hbS)).trans (hs.extBut b o hbI e))
theorem rv_new {l I : Addr} {vs : List Value} {ns : List Int} {Q : Value → Shared → Prop} (hh : A.handled = none) (hl : s.heap.IsList l vs.toArray) (hit : s.heap.IsRevIter I l ((vs.length : Int) - 1)) (hlI : l ≠ I) (hi : IntsAre vs ns) (hr : ∀ n ∈ ns, 0 ≤ n ∧ n < 256) (hz : ns.length ≤ sizeLine)
    (hQ : ∀ h' t k, (∀ b o, b ≠ I → s.heap.get? b = some o → h'.get? b = some o) → Q (.bytes (byteArr ns.reverse) t) { s with heap := h', toks := k }) :
    codeAny (model prog w) A (.call (.builtin "bytes.__new__") ⟨[.type "bytes", .ref I], []⟩) (wants Q E) s := by
  refine codeAny_of_tree ?_
  show wpAny _ A.in1 (do checkBuiltinCall "bytes.__new__" ⟨[.type "bytes", .ref I], []⟩; again (.builtin "bytes.__new__" ⟨[.type "bytes", .ref I], []⟩)) _ _ s
  refine wpAny_bind (wpAny_of_eq (F.bm_newCall _) (wpAny_pure ⟨plainId_quiet F.bm_plain _, codeAny_builtin F.bm_entry ?_⟩))
  rw [Around.under_plainId F.bm_plain _]
  have hT : s.TypeIs (.ref I) "list_reverseiterator" := hit.typeIs
  obtain ⟨oi, hoi, hic, hid⟩ := id hit
  unfold Builtin.«bytes.__new__»
  refine wpAny_bind (wpAny_of_eq (a := true) rfl ?_)
  refine bm_if_false rfl ?_
  refine wpAny_bind (wpAny_of_eq F.bm_sub ?_)
  refine bm_if_false rfl ?_
  refine wpAny_bind (wpAny_of_eq (F.bm_bind _) ?_)
  refine wpAny_bind (wpAny_of_eq (a := ()) rfl ?_)
  refine wpAny_bind (wpAny_of_eq (a := ()) rfl ?_)
  refine bm_if_false rfl ?_
  refine wpAny_bind (wpAny_specialOf hT lri_no_bytes ?_)
  refine wpAny_bind (wpAny_bind ?_)
  show wpAny _ _ (load I >>= _) _ _ _
  refine wpAny_bind (wpAny_load hoi ?_)
  rw [hid]
  refine wpAny_pure (wpAny_pure ?_)
  refine bm_if_false rfl ?_
  refine wpAny_bind (wpAny_specialOf hT lri_no_index ?_)
  refine bm_if_true rfl ?_
  first
    | show wpAny _ _ (Builtin.Bytes.buffer? "bytes.__new__" (.ref I) true >>= _) _ _ _
    | (refine wpAny_bind ?_; show wpAny _ _ (Builtin.Bytes.buffer? "bytes.__new__" (.ref I) true >>= _) _ _ _)
  refine wpAny_bind ?_
  unfold Builtin.Bytes.buffer?
  refine wpAny_bind (wpAny_specialOf hT lri_no_buffer ?_)
  refine wpAny_bind (wpAny_specialOf hT lri_no_buffer ?_)
  refine wpAny_pure ?_
  refine wpAny_bind (wpAny_tryCatch (wpAny_pyIter_revIter hit ?_))
  refine wpAny_bind (wpAny_holding ?_)
  unfold Builtin.Bytes.lengthHint
  refine wpAny_bind (wpAny_specialOf hT lri_no_len ?_)
  dsimp only
  refine bm_if_false (by decide +kernel) ?_
  refine bm_if_false rfl ?_
  refine wpAny_bind (wpAny_specialOf hT lri_hint ?_)
  dsimp only
  rw [lri_split]
  dsimp only
  refine wpAny_bind (wpAny_isInstance hT lri_sub ?_)
  refine bm_if_false rfl ?_
  refine bm_if_true (by decide +kernel) ?_
  refine bm_if_false (by decide +kernel) ?_
  refine wpAny_pure ?_
  refine wpAny_bind ?_
  unfold Builtin.Bytes.newBytearray
  refine wpAny_newObj_type ?_ (Nat.zero_le _)
  obtain ⟨ol, hol, hoc, nl, hod⟩ := id hl
  have hlt : l < s.heap.objs.size := Heap.lt_size hol
  have hIt : I < s.heap.objs.size := Heap.lt_size hoi
  have hlen : vs.length = ns.length := hi.length
  have hit0 : s.heap.IsRevIter I l ((ns.length : Int) - 1 - ((0 : Nat) : Int)) := by
    have e : (ns.length : Int) - 1 - ((0 : Nat) : Int) = (vs.length : Int) - 1 := by omega
    rw [e]; exact hit
  have main := rv_loop (prog := prog) (w := w) (A := A) (R := wants Q E) (l := l) (I := I) (S := s.heap.objs.size) hh hi hr hz (Nat.ne_of_lt hIt) hlI (Nat.ne_of_lt hlt)
    ns.length 0 { s with heap := s.heap.push { cls := .type "bytearray", data := .bytearray #[] } } rfl (Nat.zero_le _) (hl.push _) (hit0.at fun o eo => Heap.get?_push_of_some _ eo) (Heap.get?_push_size _ rfl)
    fun h' t k hk => hQ h' t k fun b o hb e => hk b o hb (Nat.ne_of_lt (Heap.lt_size e)) (Heap.get?_push_of_some _ e)
  first
    | exact wpAny_pure ⟨plainId_quiet F.bm_plain_loop _, main⟩
    | exact wpAny_pure (wpAny_pure ⟨plainId_quiet F.bm_plain_loop _, main⟩)
theorem call_bytes_rev {l I : Addr} {vs : List Value} {ns : List Int} {Q : Value → Shared → Prop} (hl : s.heap.IsList l vs.toArray) (hit : s.heap.IsRevIter I l ((vs.length : Int) - 1)) (hlI : l ≠ I) (hi : IntsAre vs ns) (hr : ∀ n ∈ ns, 0 ≤ n ∧ n < 256) (hz : ns.length ≤ sizeLine) (hh : A.handled = none)
    (hQ : ∀ h' t k, (∀ b o, b ≠ I → s.heap.get? b = some o → h'.get? b = some o) → Q (.bytes (byteArr ns.reverse) t) { s with heap := h', toks := k }) : wpAny (model prog w) A (call (.type "bytes") [.ref I]) Q E s := by
  refine callType_codes (Q₁ := fun obj s₁ => s₁.TypeIs obj "bytes" ∧ Q obj s₁) F.bm_called (F.bm_typeCall _) F.entry_object_init
    (rv_new hh hl hit hlI hi hr hz fun h' t k hk => ⟨PySem.W.typeIs_bytes _ _ _, hQ h' t k hk⟩) fun obj s₁ h₁ => ?_
  exact ⟨h₁.1, F.args_object_init_2 obj _, object_init_meets F.bm_called.init.lookup F.bm_called.made (by decide) prog w A.in1 _ s₁ ⟨h₁.1, rfl, h₁.2⟩⟩
theorem revbytes_K {l I L : Addr} {h₀ : Heap} {m : PySem.Str → Option Value} {news : List (Addr × Obj)} {lo : Obj} {n : Nat} {vs : List Value} {ns : List Int} {Q : Value → Shared → Prop} (F : Fr h₀ L s.heap m) (N : News h₀ L s.heap ((I, revObj l ((vs.length : Int) - 1)) :: news)) (hm : (l, lo) ∈ news) (hc : lo.cls = .type "list") (hd : lo.data = .seq vs.toArray n) (hcl : ∀ p ∈ news, p.2.cls ≠ .type "list_reverseiterator") (hh : A.handled = none) (hi : IntsAre vs ns) (hr : ∀ n ∈ ns, 0 ≤ n ∧ n < 256) (hz : ns.length ≤ 1000)
    (h : ∀ b h' t k, KBw.bInts b = ns.reverse → ns.reverse.length ≤ 1000 → Fr h₀ L h' m → News h₀ L h' news → Q (.bytes b t) { s with heap := h', toks := k }) : wpAny (model prog w) A (call (.type "bytes") [.ref I]) Q E s := by
  have hI := N _ (List.mem_cons_self ..)
  have hoff : ∀ p ∈ news, p.1 ≠ I := fun p hp e => by
    have h1 := (N _ (List.mem_cons_of_mem _ hp)).1
    rw [e, hI.1] at h1
    exact hcl p hp (congrArg Obj.cls (Option.some.inj h1)).symm
  refine call_bytes_rev (l := l) (I := I) ⟨lo, (N _ (List.mem_cons_of_mem _ hm)).1, hc, n, hd⟩ ⟨_, hI.1, rfl, rfl⟩ (hoff _ hm) hi hr (by rw [sizeLine_eq]; omega) hh fun h' t k hk => ?_
  refine h _ h' t k (KBa.ints_make fun x hx => hr x (List.mem_reverse.mp hx)) (by rw [List.length_reverse]; exact hz) ?_ ?_
  · obtain ⟨oL, a1, a2, hL, a3⟩ := F.ns
    refine ⟨⟨oL, a1, a2, hk _ _ (fun e => hI.2.1 e.symm) hL, a3⟩, fun b o e => hk b o (fun q => ?_) (F.keep b o e), F.above⟩
    rw [q, hI.2.2] at e; cases e
  · exact fun p hp => ⟨hk _ _ (hoff p hp) (N _ (List.mem_cons_of_mem _ hp)).1, (N _ (List.mem_cons_of_mem _ hp)).2⟩
end
end Mine
end

section
open PySem PySem.W PySem.Calls PyProof.Rows PyProof.V PySem.Spec
namespace Mine
theorem filled_decode (w : World) : Challenge.rw_eg5004_01.row.prog = Challenge.rw_eg5004_01.row.prog ∧ hd.heap_39 w.params = hd.heap_39 w.params := by
  k_fill
  exact ⟨rfl, rfl⟩
variable (w : World) (mean : ExcName → Option Value) (mg mb : PySem.Str → Option Value)
local macro_rules | `(tactic| walk_at "my_open") => `(tactic| (
  (case k1 => k_is)
  (case k2 => k_is)
  (case k3 => (intro sX XX; first | exact BindsTo.of_eq rfl | exact binds_K XX rfl (by k_is) rfl rfl rfl))
  (case k4 => exact locs rfl)
  (case k5 => exact rfl)
  (case k6 => exact rfl)
  (case k7 => exact rfl)
  (case k8 => decide)))
local macro_rules | `(tactic| walk_at "my_one") => `(tactic| first | exact ints_zero | exact first_cut (by assumption) (by assumption) | rfl)
local macro_rules | `(tactic| walk_at "getMethod bytes") => `(tactic| (k_here; first | (with_reducible refine method_lstrip ?_) | (with_reducible refine method_rstrip ?_)))
local macro_rules | `(tactic| walk_at "call builtin:bytes.lstrip") => `(tactic| (k_here; k_dflt (refine' lstrip_K ?sa1 ?sa2 ?sa3 ?_; (case sa1 => kba_ints2); (case sa2 => walk_at "my_one"); (case sa3 => kba_size)); intro _ _ _ myLs; have myLl := lstrip_len myLs))
local macro_rules | `(tactic| walk_at "call builtin:bytes.rstrip") => `(tactic| (k_here; k_dflt (refine' rstrip_K ?sa1 ?sa2 ?sa3 ?_; (case sa1 => kba_ints2); (case sa2 => assumption); (case sa3 => kba_size)); intro _ _ _ myRs))
local macro_rules | `(tactic| walk_at "binaryOp Mult bytes int") => `(tactic| (k_here; k_dflt (refine' mul_K ?sa1 ?sa2 ?sa3 ?_; (case sa1 => walk_at "my_one"); (case sa2 => kba_size); (case sa3 => kba_size)); intro _ _ _ myMu myMl))
local macro_rules | `(tactic| walk_at "callWith ref") => `(tactic| (k_here; kfb_any; k_dflt (refine' callWith_boundKW ?sa1 ?sa2 ?sa3 ?_; (case sa1 => k_asm); (case sa2 => k_mem); (case sa3 => exact rfl); k_whole)))
local macro_rules | `(tactic| walk_at "call ref") => `(tactic| (k_here; (with_reducible show wpAny _ _ (call (Value.ref _) [Value.bytes _ _] _) _ _ _); kfb_any; k_dflt (refine fb_call (by k_asm) (by k_mem) (by kba_ints2) (by kba_size) ?_); intro _ _ myV0 myV1))

local macro_rules | `(tactic| walk_at "my_use") => `(tactic| (
  (case ua1 => k_asm); (case ua2 => k_asm); (case ua3 => k_asm); (case ua4 => k_asm); (case ua5 => k_asm); (case ua6 => exact rfl); (case ua7 => exact rfl); (case ua8 => omega); (case ua9 => omega)))
local macro_rules | `(tactic| walk_at "my_after") => `(tactic| ((try dsimp only); (try k_fold); (try k_sweep)))


local macro_rules | `(tactic| walk_at "my_openC") => `(tactic| (
  (case k1 => k_is)
  (case k2 => k_is)
  (case k3 => (intro sX XX; first | exact BindsTo.of_eq rfl | exact binds_K XX rfl (by k_is) rfl rfl rfl))
  (case k4 => exact kinds_of' rfl)
  (case k5 => decide +kernel)
  (case k6 => exact rfl)
  (case k7 => exact rfl)
  (case k8 => exact rfl)))
local macro_rules | `(tactic| walk_at "my_at") => `(tactic| first | (refine' News.get ?mya1 ?mya2; (case mya1 => k_asm); (case mya2 => k_mem)) | (refine' Fr.keep ?mya1 _ _ ?mya2; (case mya1 => k_asm); (case mya2 => assumption)))
local macro_rules | `(tactic| walk_at "my_lo") => `(tactic| assumption)
local macro_rules | `(tactic| walk_at "my_in") => `(tactic| assumption)
local macro_rules | `(tactic| walk_at "compareOp In int ref") => `(tactic| (k_here; k_dflt (refine' inD ?xa2 ?xa3 ?xa1 ?_; (case xa1 => walk_at "my_at"); (case xa2 => assumption); (case xa3 => assumption))))
local macro_rules | `(tactic| walk_at "compareOp NotIn int ref") => `(tactic| (k_here; k_dflt (refine' notinD ?xa2 ?xa3 ?xa1 ?_; (case xa1 => walk_at "my_at"); (case xa2 => assumption); (case xa3 => assumption))))
local macro_rules | `(tactic| walk_at "subscriptTail") => `(tactic| (k_here; (with_reducible show wpAny _ _ (subscriptTail _ _ (Value.ref _) (Value.int _ _)) _ _ _); k_dflt (refine' itemD ?xc2 ?xc3 ?xc1 ?xc4 ?_; (case xc1 => walk_at "my_at"); (case xc2 => assumption); (case xc3 => assumption); (case xc4 => assumption)); intro _))
local macro_rules | `(tactic| walk_at "subscriptTail") => `(tactic| (k_here; (with_reducible show wpAny _ _ (subscriptTail _ _ (Value.ref _) (Value.int 0 _)) _ _ _); k_dflt (refine' itemL1 ?xc1 ?_; (case xc1 => walk_at "my_at"))))
local macro_rules | `(tactic| walk_at "setItem ref int") => `(tactic| (k_here; k_dflt (refine' setD ?xb5 ?xb1 ?xb2 ?xb3 ?xb4 ?_; (case xb1 => k_asm); (case xb2 => k_asm); (case xb3 => k_updF); (case xb5 => assumption); (case xb4 => omega)); intro h' o' F' N' hd'; (try dsimp only at N'); (try k_sweep)))
local macro_rules | `(tactic| walk_at "my_id") => `(tactic| (intro myQ hmyQ; k_steps; exact hmyQ))
local macro_rules | `(tactic| walk_at "my_ne") => `(tactic| skip)
local macro_rules | `(tactic| walk_at "call builtin:len") => `(tactic| (k_here; k_dflt (refine' kst_len ?xd1 ?xd2 ?xd3 ?xd4 ?_; (case xd1 => k_asm); (case xd2 => k_mem); (case xd3 => exact rfl); (case xd4 => omega))))
local macro_rules | `(tactic| walk_at "ite") => `(tactic| (refine' ite_not ?nn ?_; (case nn => ((first | refine beq_eq_false_iff_ne.mpr ?_ | refine decide_eq_false ?_); omega))))
local macro_rules | `(tactic| walk_at "AltEnd") => `(tactic| (refine' alt_end ?xe1 ?xe2 ?xe3 ?xe4 ?xe5 ?xe6; (case xe1 => assumption); (case xe2 => k_asm); (case xe3 => k_asm); (case xe4 => (intro z hz; simp [hz])); (case xe5 => (intro p hp; simp at hp ⊢; simp [hp])); (case xe6 => (intro p hp; simp [hp]))))


local macro_rules | `(tactic| walk_at "my_src") => `(tactic| (intro myQ hmyQ; k_steps; refine' hmyQ _ _ _ ?mys1 ?mys2 ?mys3; (case mys1 => k_asm); (case mys2 => k_asm); (case mys3 => (refine' src_rangeI ?mys4 ?mys5 ?mys6 ?mys7; (case mys4 => assumption); (case mys5 => rfl); (case mys6 => omega); (case mys7 => rfl)))))

local macro_rules | `(tactic| walk_at "call ref") => `(tactic| (k_here; (with_reducible show wpAny _ _ (call (Value.ref 21) _ _) _ _ _); k_dflt (refine' use_call (b_scrub _ _ _ _ _ _) ?ua1 ?ua2 ?ua3 ?ua4 ?ua5 ?ua6 ?ua7 ?ua8 ?ua9 ?uap ?_; walk_at "my_use"; (case uap => trivial)); intro _ _ _ F' N' kK' hP'; subst hP'; walk_at "my_after"))

local macro_rules | `(tactic| walk_at "compareOp NotIn bytes bytes") => `(tactic| (k_here; k_dflt (refine' notin_K ?ni1 ?ni2 ?ni3 ?ni4 ?ni5 ?_; (case ni1 => k_asm); (case ni2 => k_asm); (case ni3 => assumption); (case ni4 => assumption); (case ni5 => rfl)); intro h' tk' F' N'; (try k_fold); (try k_sweep)))
local macro_rules | `(tactic| walk_at "call ref") => `(tactic| (k_here; (with_reducible show wpAny _ _ (call (Value.ref 42) [_] _) _ _ _); k_dflt (refine' use_callD (c_map _ _ _ _ _ _ ?uh1 ?uh2 _ _) ?ua1 ?ua2 ?ua3 ?ua4 ?ua5 ?ua6 ?ua7 ?ua8 ?ua9 ?uap ?_; walk_at "my_use"; (case uap => trivial); (case uh1 => assumption); (case uh2 => assumption)); intro myD myo h' tk' F' N' myNe myR; obtain ⟨myLow, myDI⟩ := myR; (simp only [List.forall_mem_cons, List.not_mem_nil, false_implies, implies_true, and_true] at myNe); walk_at "my_after"))
theorem c_dec_n (v b : Array UInt8) (ks al : List Int) (hv : KBw.bInts v = ks) (hk : KBw.bInts b = al) (hal : al.length = 58) (h33 : ∀ k ∈ al, 33 ≤ k) (hv33 : ∀ k ∈ ks, 33 ≤ k) (t t1 : Tok) (hlen : ks.length ≤ 15) (fix : Bool) (hgood : ∀ c ∈ ks, mapOf al fix c = some (rkOf (mapOf al fix) c)) :
    Call w mean mg mb 51 2 16 [.bytes v t1] [(Str.ofString "alphabet", .bytes b t), (Str.ofString "autofix", .bool fix)] (fun h => True) (fun g h v => ∃ n u, v = .int n u ∧ n = num 58 (ks.map (rkOf (mapOf al fix)))) := by
  intro dp un gd env outer base s Q E hD hU B X T hp hQ
  exact c_dec_int_kw w mean mg mb v b ks al hv hk hal h33 hv33 t t1 hlen fix hgood dp un gd env outer base s Q E hD hU B X T hp fun v' h' tk' hk' ⟨u, e⟩ => hQ v' h' tk' hk' ⟨_, u, e, rfl⟩
theorem all_drop {p : Int → Prop} {q : Int → Bool} {ks ls : List Int} (e : ls = ks.dropWhile q) (h : ∀ c ∈ ks, p c) : ∀ c ∈ ls, p c := fun c hc => h c (by rw [e] at hc; exact List.dropWhile_subset _ hc)
local macro_rules | `(tactic| walk_at "my_sub") => `(tactic| first | assumption | (refine' all_drop ?mz1 ?mz2; (case mz1 => exact rfl); (case mz2 => assumption)))
local macro_rules | `(tactic| walk_at "my_len") => `(tactic| omega)
local macro_rules | `(tactic| walk_at "call ref") => `(tactic| (k_here; (with_reducible show wpAny _ _ (call (Value.ref 51) [_] _) _ _ _); k_dflt (refine' use_call (c_dec_n _ _ _ _ _ _ _ _ ?uh1 ?uh2 ?uh3 ?uh4 ?uh5 _ _ ?uh6 _ ?uh7) ?ua1 ?ua2 ?ua3 ?ua4 ?ua5 ?ua6 ?ua7 ?ua8 ?ua9 ?uap ?_; walk_at "my_use"; (case uap => trivial); (case uh1 => assumption); (case uh2 => assumption); (case uh3 => assumption); (case uh4 => assumption); (case uh5 => walk_at "my_sub"); (case uh6 => walk_at "my_len"); (case uh7 => walk_at "my_sub")); intro _ _ _ F' N' kK' hP'; obtain ⟨myN, u', hP', myEq⟩ := hP'; subst hP'; walk_at "my_after"))
local macro_rules | `(tactic| walk_at "exec") => `(tactic| ((with_reducible show wpAny _ _ (exec (Stmt.While _ _ _ _) _) _ _ _); k_extra "my while"))
theorem dec_digs {N acc : Int} {out : List Int} (h : DecInv N acc out) : ∀ n ∈ out, 0 ≤ n ∧ n < 256 := h.all.1.1
theorem decode_end {N acc a0 : Int} {f : Int → Int} {ks out : List Int} {p : Array UInt8} {t : Tok} (h : DecInv N acc out) (ha : ¬ 0 < acc) (hlen : ks.length ≤ 15) (e : N = num 58 ((ks.dropWhile fun x => decide (x = a0)).map f))
    (hp : KBw.bInts p = List.replicate ((ks.length : Int) - ((ks.dropWhile fun x => decide (x = a0)).length : Int)).toNat 0 ++ out.reverse) :
    ∃ b' t' o, Value.bytes p t = .bytes b' t' ∧ KBw.bInts b' = o ∧ o.length ≤ 200 ∧ DecodeIs f a0 ks o := by
  obtain ⟨hw, h0, hm, hN, hl⟩ := h.all
  obtain rfl : acc = 0 := by omega
  obtain ⟨hd, hv, ht⟩ := hw
  refine ⟨p, t, _, rfl, rfl, ?_, out.reverse, ⟨by rw [List.reverse_reverse]; exact hd, ?_, by rw [List.reverse_reverse]; exact ht rfl⟩, hp⟩
  · rw [hp, List.length_append, List.length_replicate, List.length_reverse]; omega
  · rw [List.reverse_reverse, ← e, ← hv]; simp
theorem append_dropK {prog : Program} {w : World} {A : Around} {E : Value → Shared → Prop} {s : Shared} {h₀ : Heap} {L D : Addr} {m : PySem.Str → Option Value} {p : Addr × Obj} {vs : List Value} {c : Nat} {x : Value} {Q : Value → Shared → Prop}
    (F : Fr h₀ L s.heap m) (N : News h₀ L s.heap [p, (D, PySem.W.listOf (List.toArray vs) c)]) (hz : vs.length ≤ 1000)
    (h : ∀ h', Fr h₀ L h' m → News h₀ L h' [(D, PySem.W.listOf (List.toArray (vs ++ [x])) (c + 1))] → Q .none { s with heap := h' }) : wpAny (model prog w) A (call (.builtin "list.append") [.ref D, x]) Q E s := by
  refine append_K (its := List.toArray vs) (n := c) F (fun q hq => N q (.tail _ hq)) (.head fun _ h => nomatch h) (fun h' F' N' => h h' F' ?_) (by rw [sizeLine_eq, List.size_toArray]; omega)
  have e : (List.toArray vs).push x = List.toArray (vs ++ [x]) := by simp
  rw [e] at N'; exact N'
local macro_rules | `(tactic| walk_at "call builtin:list.append") => `(tactic| (k_here; (with_reducible show wpAny _ _ (call (Value.builtin _) [Value.ref _, _]) _ _ _); k_dflt (refine' append_dropK ?k1 ?k2 ?k3 ?_; (case k1 => k_asm); (case k2 => k_asm); (case k3 => omega)); intro h' F' N'; (try k_sweep)))
local macro_rules | `(tactic| walk_at "call type:bytes") => `(tactic| (k_here; (with_reducible show wpAny _ _ (call (Value.type _) [Value.ref _]) _ _ _); k_dflt (refine' revbytes_K ?k1 ?k2 ?k3 ?k4 ?k5 ?k6 ?k7 ?k8 ?k9 ?k10 ?_; (case k1 => k_asm); (case k2 => k_asm); (case k3 => exact .head _); (case k4 => exact rfl); (case k5 => exact rfl); (case k6 => (intro p hp; rw [List.mem_singleton.mp hp]; exact (by decide : Value.type "list" ≠ Value.type "list_reverseiterator"))); (case k7 => exact rfl); (case k8 => assumption); (case k9 => exact dec_digs (by assumption)); (case k10 => omega)); intro b' h' t' k' eb el F' N'; (try k_sweep)))
theorem c_decode (v b : Array UInt8) (ks al : List Int) (hv : KBw.bInts v = ks) (hk : KBw.bInts b = al) (hal : al.length = 58) (h33 : ∀ k ∈ al, 33 ≤ k) (hv33 : ∀ k ∈ ks, 33 ≤ k) (t t1 : Tok) (hlen : ks.length ≤ 15) (fix : Bool) (hgood : ∀ c ∈ ks, mapOf al fix c = some (rkOf (mapOf al fix) c)) (hrk : ∀ c ∈ ks, 0 ≤ rkOf (mapOf al fix) c ∧ rkOf (mapOf al fix) c < 58) :
    Call w mean mg mb 60 4 32 [.bytes v t1, .bytes b t] [(Str.ofString "autofix", .bool fix)] (fun h => True) (fun g h v => ∃ b' t' o, v = .bytes b' t' ∧ KBw.bInts b' = o ∧ o.length ≤ 200 ∧ DecodeIs (rkOf (mapOf al fix)) (al.getD 0 0) ks o) := by
  refine' call_of (binds := [(Str.ofString "v", .bytes v t1), (Str.ofString "alphabet", .bytes b t), (Str.ofString "autofix", .bool fix)]) ?k1 ?k2 ?k3 ?k4 ?k5 ?k6 ?k7 ?k8 ?_
  walk_at "my_open"
  intro dp un gd env outer base s L h₁ tk0 hD hU B X T hl F N
  k_with_none
  have hN := num_small (l := (List.dropWhile (fun x => decide (x = al.getD 0 0)) ks).map (rkOf (mapOf al fix))) (by rw [List.length_map]; exact Nat.le_trans (dropWhile_len _ _) hlen) (fun d hd => by
    obtain ⟨c, hc, rfl⟩ := List.mem_map.mp hd
    exact hrk c (List.dropWhile_subset _ hc))
  (k_with "my while" => k_dflt (refine' while_out (y := Str.ofString "acc") [Str.ofString "mod"] (DecInv _) ?wa1 ?wa2 ?wa3 ?wa4 ?wa5 ?wa6 ?wa7 ?wa8; (case wa1 => rfl); (case wa2 => k_asm); (case wa3 => k_asm); (case wa4 => k_updF); (case wa5 => rfl); (case wa6 => (refine' dec_start2 ?wb1 hN.1 hN.2; (case wb1 => assumption))); (case wa8 => passes_own); (intro a1 ta1 vs1 out1 c1 u1 h' tk' hP hI F' N'; have hpl := hP.all.2.2.2.2; have hvl := hI.length; (try dsimp only at N'); (try k_fold); (try k_sweep))))
  w_top off
  k_steps
  all_goals first
    | (refine' w_end ?za1 ?za2 ?za3 ?za4 ?za5 ?za6 ?za7 ?za8; (case za1 => k_asm); (case za2 => k_asm); (case za3 => rfl); (case za4 => (intro z hz1 hz2; simp at hz2; simp [hz1, hz2])); (case za5 => exact fun p hp => hp); (case za6 => exact hI.append (.cons _ _ .nil)); (case za7 => exact dec_turn hP (by assumption)); (case za8 => exact dec_less (by assumption)))
    | (refine back_of (by k_asm) ?_; exact decode_end hP (by assumption) hlen (by assumption) (by kba_ints2))
end Mine
end

section
open PySem PySem.W PySem.Calls PyProof.Rows PyProof.V PySem.Spec
namespace Mine
section
variable {M : Model} {A : Around} {E : Value → Shared → Prop} {s : Shared}
theorem note_new {base : Heap} {env : Env} {outer : List Env} {L e : Addr} {oe : Obj} {vs : Array Value} {Q : Unit → Shared → Prop}
    (hfr : A.frames = some (env :: outer)) (hl : s.heap.FunFrames base (env :: outer)) (hf : env.frame = some L)
    (he : s.heap.get? e = some oe) (hkb : base.StaysIn s.heap) (hen : base.get? e = none) (hd : oe.data = .fields vs) (h1 : vs[1]? = some .none)
    (h : ∀ h' T oT ts, base.StaysIn h' → h'.FunFrames base (env :: outer) → base.get? T = none → T ≠ e → h'.get? e = some (oe.mapFields (·.setIfInBounds 1 (.ref T))) → h'.get? T = some oT → oT.data = .fields ts → 3 < ts.size → s.heap.UpToSlots h' → Q () { s with heap := h' }) :
    wpAny M A (noteFrame (.ref e) env) Q E s := by
  have hsz : 1 < vs.size := (Array.getElem?_eq_some_iff.mp h1).1
  have hene : e ∉ (env :: outer).filterMap (·.frame) := fun hm => by
    obtain ⟨_, o, ho, hnf⟩ := hl.mem hm
    rw [he] at ho; injection ho with ho; subst ho; exact hnf vs hd
  unfold noteFrame
  simp only [hf]
  refine wpAny_bind (wpAny_field he hd h1 ?_)
  rw [if_neg (by decide)]
  refine wpAny_bind (wpAny_frameOf_fun hfr hl hf fun h₁ hs₁ => ?_)
  refine wpAny_bind (wpAny_entryPlaceOf fun pl hpl => ?_)
  unfold EntryCells.newEntry newFields
  refine wpAny_bind (wpAny_newObj_type ?_ (hpl.sizeOk5 _ _ _ _ _))
  have he₁ : h₁.get? e = some oe := (hs₁.2.1 e hene).trans he
  have kb₁ : base.StaysIn h₁ := fun b o hbo => (hs₁.2.1 b fun hm => by rw [(hl.mem hm).1] at hbo; cases hbo).trans (hkb b o hbo)
  generalize hob : ({ cls := .type "traceback", dict := none, data := .fields ([Value.none, .ref L, .none, rawInt L, .none] ++ (if pl.isEmpty then List.replicate 6 Value.none else pl)).toArray } : Obj) = ob
  have hobd : ob.data = .fields ([Value.none, .ref L, .none, rawInt L, .none] ++ (if pl.isEmpty then List.replicate 6 Value.none else pl)).toArray := by rw [← hob]
  have hobf : ob.isFreed = false := Obj.isFreed_of_fields hobd
  have he₂ := Heap.get?_push_of_some (h := h₁) ob he₁
  refine wpAny_setField he₂ hd hsz ?_
  have hTe : h₁.objs.size ≠ e := Nat.ne_of_gt (Heap.lt_size he₁)
  have hd₃ := Obj.data_mapFields hd (·.setIfInBounds 1 (Value.ref h₁.objs.size))
  have he₃ := Heap.get?_update_self (Obj.mapFields (·.setIfInBounds 1 (Value.ref h₁.objs.size))) he₂ (Obj.isFreed_of_fields hd₃)
  have hT₃ := (Heap.get?_update_other (h₁.push ob) (Obj.mapFields (·.setIfInBounds 1 (Value.ref h₁.objs.size))) (Ne.symm hTe)).trans (Heap.get?_push_size h₁ hobf)
  have keep : ∀ b o, b ≠ e → h₁.get? b = some o → ((h₁.push ob).update e (Obj.mapFields (·.setIfInBounds 1 (Value.ref h₁.objs.size)))).get? b = some o := fun b o hbe hb => by
    rw [Heap.get?_update_other _ _ (Ne.symm hbe)]
    exact Heap.get?_push_of_some _ hb
  have noRecord : ∀ b o, s.heap.get? b = some o → (∀ vs, o.data ≠ .fields vs) → b ≠ e := fun b o hb hnf q => by
    rw [q, he] at hb; injection hb with hb; subst hb; exact hnf vs hd
  refine h _ h₁.objs.size ob _ (fun b o hbo => keep b o (fun q => by rw [q, hen] at hbo; cases hbo) (kb₁ b o hbo)) (hl.of_keeps fun b o hb hnf => ?_) kb₁.fresh hTe he₃ hT₃ hobd (by simp only [List.size_toArray, List.length_append, List.length_cons, List.length_nil]; omega) fun b o hb hnf => ?_
  · obtain ⟨sl, hs⟩ := hs₁.2.2 b o hb
    exact ⟨_, keep b _ (noRecord b o hb hnf) hs, rfl⟩
  · obtain ⟨sl, hs⟩ := hs₁.2.2 b o hb
    exact ⟨sl, keep b _ (noRecord b o hb hnf) hs⟩
theorem land_one {base : Heap} {l : List Env} {e T : Addr} {oe oT : Obj} {vs ts : Array Value} {Q : Unit → Shared → Prop}
    (hkb : base.StaysIn s.heap) (hl : s.heap.FunFrames base l) (hnT : base.get? T = none) (hTe : T ≠ e) (he : s.heap.get? e = some oe) (hd : oe.data = .fields vs) (h1 : vs[1]? = some (.ref T)) (hT : s.heap.get? T = some oT) (hdT : oT.data = .fields ts) (h3 : 3 < ts.size)
    (h : ∀ h' oT' ts', base.StaysIn h' → h'.FunFrames base l → h'.get? e = some oe → h'.get? T = some oT' → oT'.data = .fields ts' → 3 < ts'.size → s.heap.UpToSlots h' → Q () { s with heap := h' }) :
    wpAny M A (setFlight (.ref e) none) Q E s := by
  have other : ∀ b, b ≠ T → (s.heap.update T (Obj.mapFields (·.setIfInBounds 3 Value.none))).get? b = s.heap.get? b := fun b hb => Heap.get?_update_other _ _ (Ne.symm hb)
  have noRecord : ∀ b o, s.heap.get? b = some o → (∀ vs, o.data ≠ .fields vs) → b ≠ T := fun b o hb hnf q => by
    rw [q, hT] at hb; injection hb with hb; subst hb; exact hnf ts hdT
  refine wpAny_setFlight_none he hd h1 hT hdT h3 (h _ _ _ (fun b o hbo => (other b fun q => by rw [q, hnT] at hbo; cases hbo).trans (hkb b o hbo)) (hl.of_keeps fun b o hb hnf => ⟨o, (other b (noRecord b o hb hnf)).trans hb, rfl⟩)
    ((other e (Ne.symm hTe)).trans he) (Heap.get?_update_self _ hT (Obj.isFreed_of_fields (Obj.data_mapFields hdT _))) (Obj.data_mapFields hdT _) (by simpa using h3) fun b o hb hnf => ⟨o.slots, (other b (noRecord b o hb hnf)).trans hb⟩)
end
section
variable {prog : Program} {w : World} {A₀ : Around} {E : Value → Shared → Prop} {s' : Shared} {base g g₀ h : Heap} {outer : List Env} {L a e : Addr} {m : PySem.Str → Option Value} {name : PySem.Str} {scope : Scope} {cd : Value}
  {n : PySem.Str} {b₀ : Stmt} {suite : List Stmt} {pos np : Pos} {rest : List ExceptHandler} {Q : Flow → Shared → Prop} {news : List (Addr × Obj)} {KF : Frag}
  {p : Program} {loose : List PySem.Str} {mean : ExcName → Option Value} {mg mb : PySem.Str → Option Value} {x : PySem.Str} {X T' : String}
theorem caught_own (hx : Heap.NewExc h s'.heap e X) (F : Fr g L h m) (N : News g L h news) (K : Below A₀ base outer g) (XB : KF.In base) (TB : Top p loose mean mg mb base)
    (D : KtsDicts (outer.filterMap (·.frame)) g)
    (ex : nsIn KF mainGlobals x = some none) (hv : bootBuiltins x = some (.type T')) (hn' : x ≠ "__name__")
    (hexc : isSubtype (.type T') (.type "BaseException") = pure true) (hnt : isSubtype (.type ((Manifest.find? T').elim "type" fun y => y.metatype)) (.type "tuple") = pure false) (hsub : isSubtype (.type X) (.type T') = pure true)
    (k : ∀ h' g' tk oe vs, KtsTurn (outer.filterMap (·.frame)) g g' → Fr g' L h' (fun y => if y = n then some (.ref e) else m y) → News g' L h' ((e, oe) :: news) → oe.data = .fields vs → vs[2]? = some .none → Below A₀ base outer g' → KF.In g' → Top p loose mean mg mb g' → KtsDicts (outer.filterMap (·.frame)) g' →
      wpAny (model prog w) ((A₀.deeper (envOf name scope L a cd)).mark (some (.ref e))) (execs (b₀ :: suite) (envOf name scope L a cd))
        (fun f s₄ => wpAny (model prog w) (A₀.deeper (envOf name scope L a cd)) (do bindName (envOf name scope L a cd) n .none; unbindBehindTheSuite (envOf name scope L a cd) n pos) (fun _ s₅ => Q f s₅) E s₄)
        (AsSuiteRaised (model prog w) ((A₀.deeper (envOf name scope L a cd)).mark (some (.ref e))) (envOf name scope L a cd) n pos (notedBy (model prog w) ((A₀.deeper (envOf name scope L a cd)).mark (some (.ref e))) (envOf name scope L a cd) (cameBackBy (model prog w) (A₀.deeper (envOf name scope L a cd)) (envOf name scope L a cd) E)))
        { s' with heap := h', toks := tk })
    (hk : scope.kind = .function := by rfl) (hlo : (envOf name scope L a cd).kindOf n = some .local := by rfl) (hxk : (envOf name scope L a cd).kindOf x = some .globalImplicit := by rfl) (hd : (x == ("__debug__" : PySem.Str)) = false := by decide) :
    wpAny (model prog w) (A₀.deeper (envOf name scope L a cd)) (noteFrame (.ref e) (envOf name scope L a cd))
      (fun _ s₂ => wpAny (model prog w) (A₀.deeper (envOf name scope L a cd)) (setFlight (.ref e) none) (fun _ s₃ =>
        wpAny (model prog w) (A₀.deeper (envOf name scope L a cd)) (handleBy (.ref e) (envOf name scope L a cd) (.ExceptHandler (some (.Name x np)) (some n) (b₀ :: suite) pos :: rest)) Q E s₃) E s₂) E s' := by
  have K' := K.push (name := name) (a := a) (cd := cd) F hk
  have hin : ∀ env ∈ (envOf name scope L a cd :: outer), ∀ b, env.frame = some b → b ∈ (envOf name scope L a cd :: outer).filterMap (·.frame) := fun env he b hb => List.mem_filterMap.mpr ⟨env, he, hb⟩
  generalize hB : hideAll h ((envOf name scope L a cd :: outer).filterMap (·.frame)) = B
  have ofB : ∀ {b o}, B.get? b = some o → h.get? b = some o := fun q => of_hideAll _ (by rw [hB]; exact q)
  have sg : ∀ b o, h.get? b = some o → b ∉ (envOf name scope L a cd :: outer).filterMap (·.frame) → B.get? b = some o := fun b o q nm => by rw [← hB]; exact hideAll_get _ q nm
  have hff : h.FunFrames B (envOf name scope L a cd :: outer) := by rw [← hB]; exact funFrames_hide K'.frames hin
  obtain ⟨ob, tp, he, hcls, hdt⟩ := hx.there
  have hen : B.get? e = none := by
    cases q : B.get? e with
    | none => rfl
    | some o => have := ofB q; rw [hx.new] at this; cases this
  have hLB : B.get? L = none := by rw [← hB]; exact hideAll_none _ (List.mem_filterMap.mpr ⟨_, .head _, rfl⟩)
  refine note_new (Around.frames_deeper K.stack) (hff.of_keeps fun b o hb _ => ⟨o, hx.keeps b o hb, rfl⟩) rfl he (fun b o hb => hx.keeps b o (ofB hb)) hen hdt rfl fun h₁ T oT ts st₁ ff₁ hnT hTe he₁ hT₁ hdT₁ h3₁ up₁ => ?_
  have hd₁ : (ob.mapFields (·.setIfInBounds 1 (.ref T))).data = .fields #[tp, .ref T, .none, .none, .bool false, .none] := Obj.data_mapFields hdt _
  have hc₁ : (ob.mapFields (·.setIfInBounds 1 (.ref T))).cls = .type X := (Obj.cls_mapFields _ _).trans hcls
  generalize hoe : ob.mapFields (·.setIfInBounds 1 (.ref T)) = oe at *
  have u₁ : h.UpToSlots h₁ := (Heap.UpToSlots.of_keeps hx.keeps).trans up₁
  refine land_one st₁ ff₁ hnT hTe he₁ hd₁ rfl hT₁ hdT₁ h3₁ fun h₂ oT₂ ts₂ st₂ ff₂ he₂ hT₂ hdT₂ h3₂ up₂ => ?_
  have u₂ := u₁.trans up₂
  obtain ⟨g₂, T₂, F₂, K₂⟩ := kts_ground K F sg st₂ u₂
  have X₂ : KF.In g₂ := XB.keeps K₂.stays
  have P₂ : TopRead p loose mg mb g₂ := topRead_of (TB.keeps K₂.stays)
  refine wpAny_handleBy_builtin_as (X := X) (T := T') (b := true) hexc hnt hsub (name_B F₂ X₂ P₂ ex hv hn' ⟨rfl, ⟨oe, he₂, hc₁⟩, ?_⟩ hk hxk hd)
  rw [if_pos rfl]
  refine land_one st₂ ff₂ hnT hTe he₂ hd₁ rfl hT₂ hdT₂ h3₂ fun h₃ oT₃ ts₃ st₃ ff₃ he₃ hT₃ hdT₃ h3₃ up₃ => ?_
  obtain ⟨g₃, T₃, F₃, K₃⟩ := kts_ground K F sg st₃ (u₂.trans up₃)
  have X₃ : KF.In g₃ := XB.keeps K₃.stays
  have P₃ : Top p loose mean mg mb g₃ := TB.keeps K₃.stays
  have ge : g₃.get? e = none := T₃.none_ _ (kts_none F.keep hx.new)
  have N₃ : News g₃ L h₃ ((e, oe) :: news) := News.more F₃ (fun q hq => by
      have hqB : B.get? q.1 = some q.2 := sg _ _ (N q hq).1 fun hm => by
        obtain ⟨env, he', hf⟩ := List.mem_filterMap.mp hm
        rcases List.mem_cons.mp he' with rfl | he'
        · exact (N q hq).2.1 (Option.some.inj hf).symm
        · obtain ⟨o, ho, _⟩ := (K.frames.mem (List.mem_filterMap.mpr ⟨env, he', hf⟩)).2
          rw [(N q hq).2.2] at ho; cases ho
      exact ⟨st₃ _ _ hqB, (N q hq).2.1, T₃.none_ _ (N q hq).2.2⟩) he₃ (fun es n q => by rw [hd₁] at q; cases q) ge
  exact stN F₃ N₃ (fun h₄ F₄ N₄ => k h₄ g₃ _ oe _ T₃ F₄ N₄ hd₁ rfl K₃ X₃ P₃ (D.turn T₃)) hk hlo
end
end Mine
end

section
open PySem PySem.W PySem.Calls PyProof.Rows PyProof.V PySem.Spec
namespace Mine
section
variable {prog : Program} {w : World} {A : Around} {E : Value → Shared → Prop} {s : Shared} {env : Env}
theorem plain_unchain : plainId "proto.unchain" = true := by decide +kernel
theorem entry_unchain : entryFor table "proto.unchain" = some Builtin.«proto.unchain» := by first | exact entryFor_of_fast (by kernel_rfl) | exact entryFor_of_tree (by kernel_rfl)
theorem unchain_none {x e : Addr} {oe : Obj} {vs : Array Value} {Q : Value → Shared → Prop} (hoe : s.heap.get? e = some oe) (hd : oe.data = .fields vs) (h2 : vs[2]? = some .none) (hQ : Q .none s) :
    wpAny (model prog w) A (runValue (.builtin "proto.unchain" ⟨[.ref x, .ref e, .ref e, .bool false], []⟩)) Q E s := by
  refine wpAny_runValue (codeAny_builtin entry_unchain ?_)
  rw [Around.under_plainId plain_unchain _]
  unfold Builtin.«proto.unchain»
  refine wpAny_bind (wpAny_field hoe hd h2 ?_)
  rw [if_pos (by decide)]
  exact wpAny_pure hQ
theorem raise_none {x : PySem.Str} {np cpos cp pos : Pos} {kk : Nat} {e : Addr} {oe : Obj} {vs : Array Value} {Q : Flow → Shared → Prop} (hh : A.handled = some (.ref e)) (hoe : s.heap.get? e = some oe) (hd : oe.data = .fields vs) (h2 : vs[2]? = some .none)
    (hx : wpAny (model prog w) A (eval (.Name x np) env) (fun v s₁ => v = .type "ValueError" ∧ s₁ = s) E s)
    (h : ∀ h' y t, (∀ b o, s.heap.get? b = some o → h'.get? b = some o) → s.heap.get? y = none → h'.get? y = some { cls := .type "ValueError", data := .fields #[.ref t, .none, .ref e, .none, .bool true, .none] } → E (.ref y) { s with heap := h' }) :
    wpAny (model prog w) A (exec (.Raise (some (.Call (.Name x np) [] [] cpos)) (some (.Constant .none kk cp)) pos) env) Q E s := by
  show wpAny (model prog w) A (do standAt pos; raiseStmt env (some (do let v ← eval (.Call (.Name x np) [] [] cpos) env; standAt pos; pure v)) (some (do let v ← eval (.Constant .none kk cp) env; standAt pos; pure v))) Q E s
  refine wpAny_bind (wpAny_standAt ?_)
  unfold raiseStmt
  dsimp only
  refine wpAny_bind (wpAny_bind (Call_Name0 (wpAny_mono hx (fun f s₁ h₁ => ?_) fun _ _ z => z)))
  obtain ⟨rfl, rfl⟩ := h₁
  obtain ⟨hp, gn, dr, tk, os⟩ := s₁
  refine PyProof.Rows.callWith_type rfl (evalArgs_nil3 (wpAny_call_exc PySem.F.excCall_ValueError (fun h' y hm => ?_)))
  obtain ⟨t, hy, _, _⟩ := hm.there
  refine wpAny_bind (wpAny_standAt (wpAny_pure ?_))
  refine wpAny_bind (wpAny_holding (wpAny_bind (wpAny_Constant_none (wpAny_bind (wpAny_standAt (wpAny_pure ?_)))))) 
  refine wpAny_bind (wpAny_pure ?_)
  have hT : (⟨h', gn, dr, tk, os⟩ : Shared).TypeIs (.ref y) "ValueError" := ⟨_, hy, rfl⟩
  have hnt : ∀ {s₁ : Shared} {ob : Obj} {us : Array Value} {Q' : Bool → Shared → Prop}, s₁.heap.get? y = some ob → ob.data = .fields us → Q' false s₁ → wpAny (model prog w) A (isType (.ref y)) Q' E s₁ := by
    intro s₁ ob us Q' hg hu hq
    simp only [isType, loadHead]
    refine wpAny_bind (wpAny_loadPart hg ?_)
    rw [hu]; exact wpAny_pure hq
  refine wpAny_bind (wpAny_holding ?_)
  unfold excFromValue isExcClass
  refine wpAny_bind (wpAny_bind (hnt hy rfl ?_))
  simp only [Bool.false_eq_true, if_false]
  refine wpAny_pure ?_
  simp only [Bool.false_eq_true, if_false]
  refine wpAny_bind (wpAny_isInstance hT PySem.F.excRaise_ValueError.isExc ?_)
  simp only [if_true]
  refine wpAny_pure ?_
  rw [if_pos (show (Value.none == Value.none) = true from rfl)]
  refine wpAny_bind (wpAny_pure ?_)
  refine wpAny_bind (wpAny_setField hy rfl (by simp) ?_)
  have hy₁ := Heap.get?_update_self (Obj.mapFields (·.setIfInBounds 3 Value.none)) hy rfl
  refine wpAny_bind (wpAny_setField hy₁ rfl (by simp) ?_)
  have hy₂ := Heap.get?_update_self (Obj.mapFields (·.setIfInBounds 4 (Value.bool true))) hy₁ rfl
  refine wpAny_bind (hnt hy₂ rfl ?_)
  simp only [Bool.false_eq_true, if_false]
  unfold raisedInstance
  refine wpAny_bind (wpAny_bind (wpAny_typeOf (T := "ValueError") ⟨_, hy₂, rfl⟩ (wpAny_bind (m := typeOf (.type "ValueError")) (wpAny_pure ?_))))
  rw [if_pos PySem.F.excRaise_ValueError.plainMeta]
  refine wpAny_pure ?_
  have hne : ∀ b o, hp.get? b = some o → y ≠ b := fun b o hb q => by rw [← q, hm.new] at hb; cases hb
  have keep2 : ∀ b o, hp.get? b = some o → ((h'.update y (Obj.mapFields (·.setIfInBounds 3 Value.none))).update y (Obj.mapFields (·.setIfInBounds 4 (Value.bool true)))).get? b = some o := fun b o hb => by
    rw [Heap.get?_update_other _ _ (hne b o hb), Heap.get?_update_other _ _ (hne b o hb)]; exact hm.keeps b o hb
  unfold setFlight raiseNew
  refine wpAny_bind (wpAny_bind (wpAny_field (x := Value.none) hy₂ rfl rfl ?_))
  rw [if_neg (by decide)]
  refine wpAny_pure (wpAny_bind (wpAny_handled ?_))
  rw [hh]
  dsimp only
  rw [if_pos (show (Value.ref e != Value.ref y) = true from by simp; exact fun q => hne _ _ hoe q.symm)]
  refine wpAny_bind (wpAny_holding (unchain_none (keep2 _ _ hoe) hd h2 ?_))
  refine wpAny_bind (m := updateField y 2 (.ref e)) (show wpAny _ _ (setField (.ref y) 2 (.ref e)) _ _ _ from wpAny_setField hy₂ rfl (by simp) ?_)
  have hy₃ := Heap.get?_update_self (Obj.mapFields (·.setIfInBounds 2 (Value.ref e))) hy₂ rfl
  refine wpAny_throw (h _ y t (fun b o hb => ?_) hm.new hy₃)
  rw [Heap.get?_update_other _ _ (hne b o hb)]; exact keep2 b o hb
end
end Mine
end

section
open PySem PySem.W PySem.Calls PyProof.Rows PyProof.V PySem.Spec
namespace Mine
theorem frames_same {B h h' : Heap} {L : Addr} (x : Heap.SameBut L h h') (hL : ∃ o, h'.get? L = some o ∧ ∀ vs, o.data ≠ .fields vs) : ∀ {l : List Env}, h.FunFrames B l → h'.FunFrames B l
  | [], _ => trivial
  | env :: r, ⟨hk, ⟨L', o, hf, hn, ho, hd⟩, hr⟩ => by
    refine ⟨hk, ?_, frames_same x hL hr⟩
    by_cases q : L' = L
    · subst q
      obtain ⟨o', ho', hd'⟩ := hL
      exact ⟨L', o', hf, hn, ho', hd'⟩
    · exact ⟨L', o, hf, hn, (x.2 L' q).trans ho, hd⟩
def Hot (base g : Heap) (env : Env) (outer : List Env) (L y : Addr) (cls : Value) (h : Heap) : Prop :=
  ∃ B a0, base.StaysIn B ∧ (∀ b o, g.get? b = some o → b ∉ outer.filterMap (·.frame) → B.get? b = some o) ∧ Heap.HeldW B (env :: outer) y cls a0 L h ∧ g.UpToSlots h
section
variable {prog : Program} {w : World} {A₀ : Around} {E : Value → Shared → Prop} {s' : Shared} {base g h : Heap} {outer : List Env} {L a y : Addr} {m : PySem.Str → Option Value} {name : PySem.Str} {scope : Scope} {cd : Value} {n : PySem.Str} {pos : Pos} {hdl : Option Value}
theorem as_raised {oy : Obj} {cls a0 : Value} {vs : Array Value} (K : Below A₀ base outer g) (F : Fr g L h m) (keep : ∀ b o, h.get? b = some o → s'.heap.get? b = some o) (new : h.get? y = none) (hy : s'.heap.get? y = some oy) (hc : oy.cls = cls) (hd : oy.data = .fields vs) (h1 : vs[1]? = some .none) (h0 : vs[0]? = some a0)
    (k : ∀ h' tk, Hot base g (envOf name scope L a cd) outer L y cls h' → E (.ref y) { s' with heap := h', toks := tk })
    (hE : PassesOwnAt (model prog w) ((A₀.deeper (envOf name scope L a cd)).mark hdl) (A₀.deeper (envOf name scope L a cd)) (envOf name scope L a cd) E := by passes_own)
    (hk : scope.kind = .function := by rfl) (hlo : (envOf name scope L a cd).kindOf n = some .local := by rfl) :
    AsSuiteRaised (model prog w) ((A₀.deeper (envOf name scope L a cd)).mark hdl) (envOf name scope L a cd) n pos (notedBy (model prog w) ((A₀.deeper (envOf name scope L a cd)).mark hdl) (envOf name scope L a cd) (cameBackBy (model prog w) (A₀.deeper (envOf name scope L a cd)) (envOf name scope L a cd) E)) (.ref y) s' := by
  have K' := K.push (name := name) (a := a) (cd := cd) F hk
  have hin : ∀ env ∈ (envOf name scope L a cd :: outer), ∀ b, env.frame = some b → b ∈ (envOf name scope L a cd :: outer).filterMap (·.frame) := fun env he b hb => List.mem_filterMap.mpr ⟨env, he, hb⟩
  have hst : base.StaysIn (hideAll h ((envOf name scope L a cd :: outer).filterMap (·.frame))) := fun b o q => hideAll_get _ (K'.stays b o q) fun hm => by
    rw [(K'.frames.mem hm).1] at q; cases q
  have sg : ∀ b o, g.get? b = some o → b ∉ outer.filterMap (·.frame) → (hideAll h ((envOf name scope L a cd :: outer).filterMap (·.frame))).get? b = some o := fun b o q nm => hideAll_get _ (F.keep b o q) fun hm => by
    rcases kts_mem hm with z | z
    · rw [z, kts_self F] at q
      cases q
    · exact nm z
  have hff := funFrames_hide K'.frames hin
  have ofB : ∀ {b o}, (hideAll h ((envOf name scope L a cd :: outer).filterMap (·.frame))).get? b = some o → h.get? b = some o := fun q => of_hideAll _ q
  have hLB : (hideAll h ((envOf name scope L a cd :: outer).filterMap (·.frame))).get? L = none := hideAll_none _ (List.mem_filterMap.mpr ⟨_, .head _, rfl⟩)
  generalize hideAll h ((envOf name scope L a cd :: outer).filterMap (·.frame)) = B at *
  have hyB : B.get? y = none := by
    cases q : B.get? y with
    | none => rfl
    | some o => have := ofB q; rw [new] at this; cases this
  have hsz : 1 < vs.size := (Array.getElem?_eq_some_iff.mp h1).1
  show wpAny _ _ (noteFrame _ _) _ _ _
  unfold noteFrame
  simp only [show (envOf name scope L a cd).frame = some L from rfl]
  refine wpAny_bind (wpAny_field hy hd h1 ?_)
  rw [if_neg (by decide)]
  refine wpAny_entryW (base := B) (env := envOf name scope L a cd) (outer := outer) (L := L) (Around.frames_deeper K.stack) (hff.of_keeps fun b o hb _ => ⟨o, keep b o hb, rfl⟩) rfl hy (fun b o hb => keep b o (ofB hb)) hyB hd hsz h0 fun h₁ hN => ?_
  obtain ⟨k1, k2, k3, k4⟩ := hN
  obtain ⟨oe, ws, T, oT, ts, he, ⟨hcl, hw0⟩, hde, hw1, hnT, hTe, hT, hdT, h3⟩ := k3
  have hNs : h₁.Ns L m := ((Heap.UpToSlots.of_keeps keep).trans k4).ns F.ns
  refine wpAny_nameGoes hlo hNs (by show (scope.kind == .class || (scope.kind == .module && L != mainGlobals)) = false; rw [hk]; rfl) fun h₂ m' hNs₂ hs₂ => ?_
  have hs₂' : Heap.SameBut L h₁ h₂ := hs₂
  have hNs₂' : h₂.Ns L m' := hNs₂
  obtain ⟨oL, esL, epL, hL, hLd, _⟩ := hNs
  obtain ⟨oL₂, esL₂, epL₂, hL₂, hLd₂, _⟩ := hNs₂'
  have hyL : y ≠ L := fun q => by
    rw [q, hL] at he; cases he; rw [hLd] at hde; cases hde
  have hTL : T ≠ L := fun q => by
    rw [q, hL] at hT; cases hT; rw [hLd] at hdT; cases hdT
  have he₂ := (hs₂'.2 y hyL).trans he
  have hT₂ := (hs₂'.2 T hTL).trans hT
  have st₂ : B.StaysIn h₂ := fun b o q => (hs₂'.2 b fun z => by rw [z, hLB] at q; cases q).trans (k1 b o q)
  have ff₂ := frames_same hs₂' ⟨oL₂, hL₂, fun vs z => by rw [hLd₂] at z; cases z⟩ k2
  unfold PySem.passOn
  refine wpAny_bind (wpAny_field he₂ hde hw1 ?_)
  rw [if_neg (show ¬ ((Value.ref T == Value.none) = true) from by simp)]
  have hsz3 : 3 < ts.size := (Array.getElem?_eq_some_iff.mp h3).1
  have other : ∀ b, b ≠ T → (h₂.update T (Obj.mapFields (·.setIfInBounds 3 (rawInt L)))).get? b = h₂.get? b := fun b hb => Heap.get?_update_other _ _ (Ne.symm hb)
  have noRecord : ∀ b o, h₂.get? b = some o → (∀ vs, o.data ≠ .fields vs) → b ≠ T := fun b o hb hnf q => by
    rw [q, hT₂] at hb; injection hb with hb; subst hb; exact hnf ts hdT
  have hfin : Hot base g (envOf name scope L a cd) outer L y cls (h₂.update T (Obj.mapFields (·.setIfInBounds 3 (rawInt L)))) := by
    refine ⟨B, a0, hst, sg, ⟨fun b o q => (other b fun z => by rw [z, hnT] at q; cases q).trans (st₂ b o q), hyB, ff₂.of_keeps fun b o hb hnf => ⟨o, (other b (noRecord b o hb hnf)).trans hb, rfl⟩,
      oe, ws, T, _, _, (other y (Ne.symm hTe)).trans he₂, ⟨hcl.trans hc, hw0⟩, hde, hw1, hnT, hTe, Heap.get?_update_self _ hT₂ (Obj.isFreed_of_fields (Obj.data_mapFields hdT _)), Obj.data_mapFields hdT _, by simp [hsz3]⟩, fun b o hb hnf => ?_⟩
    have hbL : b ≠ L := fun z => by rw [z, kts_self F] at hb; cases hb
    obtain ⟨sl, hs⟩ := k4 b o (keep b o (F.keep b o hb)) hnf
    have hs2 := (hs₂'.2 b hbL).trans hs
    exact ⟨sl, (other b (noRecord b _ hs2 hnf)).trans hs2⟩
  refine wpAny_bind ?_
  show wpAny _ _ (setFlight (.ref y) (some L)) _ _ _
  unfold setFlight
  refine wpAny_bind (wpAny_field he₂ hde hw1 ?_)
  rw [if_pos (show (Value.ref T != Value.none) = true from by simp)]
  exact wpAny_setField hT₂ hdT hsz3 (wpAny_throw (hE _ _ (k _ _ hfin)))
theorem leave_hot {M : Model} {cls : Value} {Q : Unit → Shared → Prop} (R : Hot base g (envOf name scope L a cd) outer L y cls s'.heap)
    (hQ : ∀ h', RaisedSN base g outer y cls [] h' → g.UpToSlots h' → Q () { s' with heap := h' }) :
    wpAny M (A₀.deeper (envOf name scope L a cd)) (leaving (envOf name scope L a cd) (.ref y)) Q E s' := by
  obtain ⟨B, a0, hB, hBG, hh, hup⟩ := R
  unfold leaving
  refine wpAny_bind (wpAny_noteFrame_againW rfl hh.2.2.2 ?_)
  refine wpAny_landsW hh fun h' hfl hs => ?_
  obtain ⟨k1, k2, ⟨_, _, k3⟩, k4⟩ := hfl
  exact hQ h' ⟨B, a0, hB, hBG, (fun q hq => nomatch hq), k1, k2, k3, k4⟩ (hup.trans hs)
theorem RaisedSN.back {g' : Heap} {cls : Value} {h' : Heap} (T : KtsTurn (outer.filterMap (·.frame)) g g') (R : RaisedSN base g' outer y cls [] h') : RaisedSN base g outer y cls [] h' := by
  obtain ⟨B, a0, hB, hBG, hl, hfl⟩ := R
  exact ⟨B, a0, hB, fun b o e nm => hBG b o (T.other b o e nm) nm, (fun q hq => nomatch hq), hfl⟩
theorem up_back {g' h' : Heap} {fs : List Addr} (T : KtsTurn fs g g') (u : g'.UpToSlots h') : g.UpToSlots h' := fun b o e hn => by
  obtain ⟨sl, hs⟩ := T.up e
  obtain ⟨sl', hs'⟩ := u b _ hs hn
  exact ⟨sl', hs'⟩
end
end Mine
end

section
open PySem PySem.W PySem.Calls PyProof.Rows PyProof.V PySem.Spec
namespace Mine
def CallE (w : World) (mean : ExcName → Option Value) (mg mb : PySem.Str → Option Value) (f : Addr) (D U : Nat) (pos : List Value) (kw : List (PySem.Str × Value)) : Prop :=
  ∀ (dp un : Nat) (gd : Option (List Code)) (env : Env) (outer : List Env) (base : Heap) (s : Shared) (Q E : Value → Shared → Prop),
    dp + D < recursionLimit → un + U < cLine → Below (Ard dp un gd env outer) base (env :: outer) s.heap → (hd.heap_39 w.params).In base → Top hd.view_39 (looseW hd.view_39 LS) mean mg mb base → (hd.heap_39 w.params).In s.heap → Top hd.view_39 (looseW hd.view_39 LS) mean mg mb s.heap → KtsDicts ((env :: outer).filterMap (·.frame)) s.heap →
    (∀ y h' tk', RaisedSN base s.heap (env :: outer) y (.type "ValueError") [] h' → s.heap.UpToSlots h' → E (.ref y) { s with heap := h', toks := tk' }) →
    wpAny (model PP w) (Ard dp un gd env outer) (call (.ref f) pos kw) Q E s
def LeftE (base : Heap) (l : List Env) (s : Shared) (v : Value) (s' : Shared) : Prop :=
  ∃ y h' tk, v = .ref y ∧ s' = { s with heap := h', toks := tk } ∧ RaisedSN base s.heap l y (.type "ValueError") [] h' ∧ s.heap.UpToSlots h'
theorem leftE {base h' : Heap} {l : List Env} {s : Shared} {y : Addr} {tk : Nat} (R : RaisedSN base s.heap l y (.type "ValueError") [] h') (u : s.heap.UpToSlots h') : LeftE base l s (.ref y) { s with heap := h', toks := tk } := ⟨y, h', tk, rfl, rfl, R, u⟩
theorem call_ofE {w : World} {mean : ExcName → Option Value} {mg mb : PySem.Str → Option Value}
    {name qual : PySem.Str} {params : Arguments} {body : List Stmt} {scope : Scope} {dV kV doc pm cdv ct oc : Value} {an od : Option Addr} {osl : Array (Option Value)} {f : Addr} {D U : Nat} {pos : List Value} {kw : List (PySem.Str × Value)} {binds : List (PySem.Str × Value)}
    (ho : (hd.heap_39 w.params).lookup f = some ⟨oc, od, .func (fnOf name qual params body scope dV kV doc pm an cdv ct), osl⟩) (hcd : codeIn (hd.heap_39 w.params) cdv qual = true)
    (hbind : ∀ s : Shared, (hd.heap_39 w.params).In s.heap → BindsTo s (fnOf name qual params body scope dV kV doc pm an cdv ct) ⟨pos, kw⟩ binds) (hloc : ∀ y ∈ binds, scope.names.lookup y.1 = some .local)
    (hco : scope.isCoroutine = false) (hgen : scope.isGenerator = false) (hk : scope.kind = .function) (hcell : ∀ x ∈ scope.names, x.2 ≠ .cell)
    (h : ∀ (dp un : Nat) (gd : Option (List Code)) (env : Env) (outer : List Env) (base : Heap) (s : Shared) (L : Addr) (h₁ : Heap) (tk : Nat),
      dp + D < recursionLimit → un + U < cLine → Below (Ard dp un gd env outer) base (env :: outer) s.heap → (hd.heap_39 w.params).In base → Top hd.view_39 (looseW hd.view_39 LS) mean mg mb base → (hd.heap_39 w.params).In s.heap → Top hd.view_39 (looseW hd.view_39 LS) mean mg mb s.heap → KtsDicts ((env :: outer).filterMap (·.frame)) s.heap →
      Fr s.heap L h₁ (fun y => binds.reverse.lookup y) → News s.heap L h₁ [] →
      wpAny (model PP w) ((Ard dp un gd env outer).deeper (envOf qual scope L f cdv)) (execs body (envOf qual scope L f cdv))
        (fun _ _ => False) (fun e s' => wpAny (model PP w) ((Ard dp un gd env outer).deeper (envOf qual scope L f cdv)) (leaving (envOf qual scope L f cdv) e) (fun _ s'' => LeftE base (env :: outer) s e s'') (fun _ _ => False) s') { s with heap := h₁, toks := tk }) : CallE w mean mg mb f D U pos kw := by
  intro dp un gd env outer base s Q E hD hU B XB TB X T KD hQ
  refine wpAny_call ?_
  refine codeAny_call_def (fd := fnOf name qual params body scope dV kV doc pm an cdv ct) (body := body) (binds := binds) (Nat.lt_of_le_of_lt (Nat.le_add_right _ _) hD) (X _ _ ho) rfl T.nolimit (codeRec_of X hcd) rfl (hbind s X) hcell hloc (fun h₁ hns hk₁ => ?_) hco hgen hk
  refine wpAny_mono (h dp un gd env outer base s _ h₁ _ hD hU B XB TB X T KD ⟨hns, hk₁, Nat.le_refl _⟩ News.nil) (fun fl s' hl => hl.elim) fun e s' he => ?_
  refine wpAny_mono he (fun _ s'' hl => ?_) fun _ _ y => y.elim
  obtain ⟨y, h', tk, rfl, rfl, R, u⟩ := hl
  exact hQ y h' tk R u
theorem dicts_push {h₀ h : Heap} {env' env : Env} {outer : List Env} {L : Addr} {m : PySem.Str → Option Value} (D : KtsDicts ((env :: outer).filterMap (·.frame)) h₀) (F : Fr h₀ L h m) (hf : env'.frame = some L) : KtsDicts ((env' :: env :: outer).filterMap (·.frame)) h := fun b hb => by
  rw [List.filterMap_cons, hf] at hb
  rcases List.mem_cons.mp hb with e | hb
  · obtain ⟨o, es, n, ho, hd, _⟩ := F.ns
    exact ⟨o, es, n, e ▸ ho, hd⟩
  · obtain ⟨o, es, n, ho, hd⟩ := D b hb
    exact ⟨o, es, n, F.keep _ _ ho, hd⟩
section
variable {w : World} {mean : ExcName → Option Value} {mg mb : PySem.Str → Option Value}
theorem use_callE {f : Addr} {D U : Nat} {pos : List Value} {kw : List (PySem.Str × Value)} (C : CallE w mean mg mb f D U pos kw)
    {dp un : Nat} {gd : Option (List Code)} {env env' : Env} {outer : List Env} {base h₀ : Heap} {L : Addr} {m : PySem.Str → Option Value} {s : Shared} {Q E : Value → Shared → Prop}
    (B : Below (Ard dp un gd env outer) base (env :: outer) h₀) (F : Fr h₀ L s.heap m) (XB : (hd.heap_39 w.params).In base) (TB : Top hd.view_39 (looseW hd.view_39 LS) mean mg mb base) (X : (hd.heap_39 w.params).In h₀) (T : Top hd.view_39 (looseW hd.view_39 LS) mean mg mb h₀) (KD : KtsDicts ((env :: outer).filterMap (·.frame)) h₀)
    (hf : env'.frame = some L) (hke : env'.scope.kind = .function) (hD : dp + (D + 1) < recursionLimit) (hU : un + (U + 3) < cLine)
    (h : ∀ y h' tk', RaisedSN base s.heap (env' :: env :: outer) y (.type "ValueError") [] h' → s.heap.UpToSlots h' → E (.ref y) { s with heap := h', toks := tk' }) :
    wpAny (model PP w) ((Ard dp un gd env outer).deeper env') (call (.ref f) pos kw) Q E s :=
  C (dp + 1) (un + 3) gd env' (env :: outer) base s Q E (by omega) (by omega) (pushX B F hf hke) XB TB (X.keeps F.keep) (T.keeps F.keep) (dicts_push KD F hf) h
end
end Mine
end

section
open PySem PySem.W PySem.Calls PyProof.Rows PyProof.V PySem.Spec
namespace Mine
local macro_rules | `(tactic| walk_at "pad C_decE 0") => `(tactic| skip)
local macro_rules | `(tactic| walk_at "pad C_decE 1") => `(tactic| skip)
local macro_rules | `(tactic| walk_at "pad C_decE 2") => `(tactic| skip)
theorem filled_decE (w : World) : Challenge.rw_eg5004_01.row.prog = Challenge.rw_eg5004_01.row.prog ∧ hd.heap_39 w.params = hd.heap_39 w.params := by
  k_fill
  exact ⟨rfl, rfl⟩
variable (w : World) (mean : ExcName → Option Value) (mg mb : PySem.Str → Option Value)
local macro_rules | `(tactic| walk_at "my_open") => `(tactic| (
  (case k1 => k_is)
  (case k2 => k_is)
  (case k3 => (intro sX XX; first | exact BindsTo.of_eq rfl | exact binds_K XX rfl (by k_is) rfl rfl rfl))
  (case k4 => exact locs rfl)
  (case k5 => exact rfl)
  (case k6 => exact rfl)
  (case k7 => exact rfl)
  (case k8 => decide)))
local macro_rules | `(tactic| walk_at "my_one") => `(tactic| first | exact ints_zero | exact first_cut (by assumption) (by assumption) | rfl)
local macro_rules | `(tactic| walk_at "getMethod bytes") => `(tactic| (k_here; first | (with_reducible refine method_lstrip ?_) | (with_reducible refine method_rstrip ?_)))
local macro_rules | `(tactic| walk_at "call builtin:bytes.lstrip") => `(tactic| (k_here; k_dflt (refine' lstrip_K ?sa1 ?sa2 ?sa3 ?_; (case sa1 => kba_ints2); (case sa2 => walk_at "my_one"); (case sa3 => kba_size)); intro _ _ _ myLs; have myLl := lstrip_len myLs))
local macro_rules | `(tactic| walk_at "call builtin:bytes.rstrip") => `(tactic| (k_here; k_dflt (refine' rstrip_K ?sa1 ?sa2 ?sa3 ?_; (case sa1 => kba_ints2); (case sa2 => assumption); (case sa3 => kba_size)); intro _ _ _ myRs))
local macro_rules | `(tactic| walk_at "binaryOp Mult bytes int") => `(tactic| (k_here; k_dflt (refine' mul_K ?sa1 ?sa2 ?sa3 ?_; (case sa1 => walk_at "my_one"); (case sa2 => kba_size); (case sa3 => kba_size)); intro _ _ _ myMu myMl))
local macro_rules | `(tactic| walk_at "callWith ref") => `(tactic| (k_here; kfb_any; k_dflt (refine' callWith_boundKW ?sa1 ?sa2 ?sa3 ?_; (case sa1 => k_asm); (case sa2 => k_mem); (case sa3 => exact rfl); k_whole)))
local macro_rules | `(tactic| walk_at "call ref") => `(tactic| (k_here; (with_reducible show wpAny _ _ (call (Value.ref _) [Value.bytes _ _] _) _ _ _); kfb_any; k_dflt (refine fb_call (by k_asm) (by k_mem) (by kba_ints2) (by kba_size) ?_); intro _ _ myV0 myV1))

local macro_rules | `(tactic| walk_at "my_use") => `(tactic| (
  (case ua1 => k_asm); (case ua2 => k_asm); (case ua3 => k_asm); (case ua4 => k_asm); (case ua5 => k_asm); (case ua6 => exact rfl); (case ua7 => exact rfl); (case ua8 => omega); (case ua9 => omega)))
local macro_rules | `(tactic| walk_at "my_after") => `(tactic| ((try dsimp only); (try k_fold); (try k_sweep)))


local macro_rules | `(tactic| walk_at "my_openC") => `(tactic| (
  (case k1 => k_is)
  (case k2 => k_is)
  (case k3 => (intro sX XX; first | exact BindsTo.of_eq rfl | exact binds_K XX rfl (by k_is) rfl rfl rfl))
  (case k4 => exact kinds_of' rfl)
  (case k5 => decide +kernel)
  (case k6 => exact rfl)
  (case k7 => exact rfl)
  (case k8 => exact rfl)))
local macro_rules | `(tactic| walk_at "my_at") => `(tactic| first | (refine' News.get ?mya1 ?mya2; (case mya1 => k_asm); (case mya2 => k_mem)) | (refine' Fr.keep ?mya1 _ _ ?mya2; (case mya1 => k_asm); (case mya2 => assumption)))
local macro_rules | `(tactic| walk_at "my_lo") => `(tactic| assumption)
local macro_rules | `(tactic| walk_at "my_in") => `(tactic| assumption)
local macro_rules | `(tactic| walk_at "compareOp In int ref") => `(tactic| (k_here; k_dflt (refine' inD ?xa2 ?xa3 ?xa1 ?_; (case xa1 => walk_at "my_at"); (case xa2 => assumption); (case xa3 => assumption))))
local macro_rules | `(tactic| walk_at "compareOp NotIn int ref") => `(tactic| (k_here; k_dflt (refine' notinD ?xa2 ?xa3 ?xa1 ?_; (case xa1 => walk_at "my_at"); (case xa2 => assumption); (case xa3 => assumption))))
local macro_rules | `(tactic| walk_at "subscriptTail") => `(tactic| (k_here; (with_reducible show wpAny _ _ (subscriptTail _ _ (Value.ref _) (Value.int _ _)) _ _ _); k_dflt (refine' itemD ?xc2 ?xc3 ?xc1 ?xc4 ?_; (case xc1 => walk_at "my_at"); (case xc2 => assumption); (case xc3 => assumption); (case xc4 => assumption)); intro _))
local macro_rules | `(tactic| walk_at "subscriptTail") => `(tactic| (k_here; (with_reducible show wpAny _ _ (subscriptTail _ _ (Value.ref _) (Value.int 0 _)) _ _ _); k_dflt (refine' itemL1 ?xc1 ?_; (case xc1 => walk_at "my_at"))))
local macro_rules | `(tactic| walk_at "setItem ref int") => `(tactic| (k_here; k_dflt (refine' setD ?xb5 ?xb1 ?xb2 ?xb3 ?xb4 ?_; (case xb1 => k_asm); (case xb2 => k_asm); (case xb3 => k_updF); (case xb5 => assumption); (case xb4 => omega)); intro h' o' F' N' hd'; (try dsimp only at N'); (try k_sweep)))
local macro_rules | `(tactic| walk_at "my_id") => `(tactic| (intro myQ hmyQ; k_steps; exact hmyQ))
local macro_rules | `(tactic| walk_at "my_ne") => `(tactic| skip)
local macro_rules | `(tactic| walk_at "call builtin:len") => `(tactic| (k_here; k_dflt (refine' kst_len ?xd1 ?xd2 ?xd3 ?xd4 ?_; (case xd1 => k_asm); (case xd2 => k_mem); (case xd3 => exact rfl); (case xd4 => omega))))
local macro_rules | `(tactic| walk_at "ite") => `(tactic| (refine' ite_not ?nn ?_; (case nn => ((first | refine beq_eq_false_iff_ne.mpr ?_ | refine decide_eq_false ?_); omega))))
local macro_rules | `(tactic| walk_at "AltEnd") => `(tactic| (refine' alt_end ?xe1 ?xe2 ?xe3 ?xe4 ?xe5 ?xe6; (case xe1 => assumption); (case xe2 => k_asm); (case xe3 => k_asm); (case xe4 => (intro z hz; simp [hz])); (case xe5 => (intro p hp; simp at hp ⊢; simp [hp])); (case xe6 => (intro p hp; simp [hp]))))


local macro_rules | `(tactic| walk_at "my_src") => `(tactic| (intro myQ hmyQ; k_steps; refine' hmyQ _ _ _ ?mys1 ?mys2 ?mys3; (case mys1 => k_asm); (case mys2 => k_asm); (case mys3 => (refine' src_rangeI ?mys4 ?mys5 ?mys6 ?mys7; (case mys4 => assumption); (case mys5 => rfl); (case mys6 => omega); (case mys7 => rfl)))))

local macro_rules | `(tactic| walk_at "call ref") => `(tactic| (k_here; (with_reducible show wpAny _ _ (call (Value.ref 21) _ _) _ _ _); k_dflt (refine' use_call (b_scrub _ _ _ _ _ _) ?ua1 ?ua2 ?ua3 ?ua4 ?ua5 ?ua6 ?ua7 ?ua8 ?ua9 ?uap ?_; walk_at "my_use"; (case uap => trivial)); intro _ _ _ F' N' kK' hP'; subst hP'; walk_at "my_after"))

local macro_rules | `(tactic| walk_at "compareOp NotIn bytes bytes") => `(tactic| (k_here; k_dflt (refine' notin_K ?ni1 ?ni2 ?ni3 ?ni4 ?ni5 ?_; (case ni1 => k_asm); (case ni2 => k_asm); (case ni3 => assumption); (case ni4 => assumption); (case ni5 => rfl)); intro h' tk' F' N'; (try k_fold); (try k_sweep)))
local macro_rules | `(tactic| walk_at "call ref") => `(tactic| (k_here; (with_reducible show wpAny _ _ (call (Value.ref 42) [_] _) _ _ _); k_dflt (refine' use_callD (c_map _ _ _ _ _ _ ?uh1 ?uh2 _ _) ?ua1 ?ua2 ?ua3 ?ua4 ?ua5 ?ua6 ?ua7 ?ua8 ?ua9 ?uap ?_; walk_at "my_use"; (case uap => trivial); (case uh1 => assumption); (case uh2 => assumption)); intro myD myo h' tk' F' N' myNe myR; obtain ⟨myLow, myDI⟩ := myR; (simp only [List.forall_mem_cons, List.not_mem_nil, false_implies, implies_true, and_true] at myNe); walk_at "my_after"))

local macro_rules | `(tactic| walk_at "subscriptTail") => `(tactic| (k_here; (with_reducible show wpAny _ _ (subscriptTail _ _ (Value.ref _) (Value.int _ _)) _ _ _); k_dflt (refine' missD ?xc2 ?xc3 ?xc1 ?xc4 ?xc5 ?_; (case xc1 => walk_at "my_at"); (case xc2 => assumption); (case xc3 => assumption); (case xc4 => assumption); (case xc5 => with_unfolding_all rfl)); intro h' e' nx'))
local macro_rules | `(tactic| walk_at "my_asm") => `(tactic| assumption)
local macro_rules | `(tactic| walk_at "noteFrame ref") => `(tactic| (k_here; (with_reducible rename Heap.NewExc _ _ _ _ => nxX); k_dflt (refine' caught_own (T' := "KeyError") nxX ?F ?N ?K ?XB ?TB ?D ?ex PyProof.Rows.Boot.«KeyError» ?hn kr_isExc_KeyError kr_notTuple_KeyError ?hs ?_; (case F => assumption); (case N => k_asm); (case K => assumption); (case XB => assumption); (case TB => assumption); (case D => assumption); (case hs => kts_sub); (case ex => k_is); (case hn => decide)); clear nxX; intro h' g' tk' oe' vs' T' F' N' hd' h2' K' X' P' D'; (try k_lift K'); (try k_sweep)))
local macro_rules | `(tactic| walk_at "exec Raise some some") => `(tactic| (k_here; (with_reducible rename Fr _ _ _ _ => kF); (with_reducible rename News _ _ _ _ => kN); (with_reducible rename KtsTurn _ _ _ => kT); k_dflt (refine' raise_none ?hh ?hoe ?hd ?h2 ?hx ?_; (case hh => exact rfl); (case hoe => exact News.get kN (.head _)); (case hd => assumption); (case h2 => assumption); (case hx => (refine' name_B kF ?k1 ?k2 ?k3 ?k4 ?k5 ?_; (case k1 => k_asm); (case k2 => exact topRead_of (by assumption)); (case k3 => k_is); (case k4 => boot_by_name); (case k5 => decide); exact ⟨rfl, rfl⟩))); intro h' y' t' keep' new' hy'; k_dflt (refine' as_raised (by assumption) kF keep' new' hy' rfl rfl rfl rfl ?_; intro h3 tk3 hot3; refine' leave_hot hot3 ?_; intro h4 R4 u4; exact leftE (RaisedSN.back kT R4) (up_back kT u4))))
theorem keep_all {pre : List Int} {f : Int → Option Int} {n : Int} (h : ∀ c ∈ pre, f c ≠ none) (hv : f n ≠ none) : ∀ c ∈ pre ++ [n], f c ≠ none := fun c hc => by
  rcases List.mem_append.mp hc with hc | hc
  · exact h c hc
  · rw [List.mem_singleton.mp hc]; exact hv
theorem c_dec_intE (v b : Array UInt8) (ks al : List Int) (hv : KBw.bInts v = ks) (hk : KBw.bInts b = al) (hal : al.length = 58) (h33 : ∀ k ∈ al, 33 ≤ k) (hv33 : ∀ k ∈ ks, 33 ≤ k) (t t1 : Tok) (hlen : ks.length ≤ 15) (fix : Bool) (hbad : ¬ ∀ c ∈ ks, mapOf al fix c ≠ none) :
    CallE w mean mg mb 51 2 16 [.bytes v t1, .bytes b t] [(Str.ofString "autofix", .bool fix)] := by
  refine' call_ofE (binds := [(Str.ofString "v", .bytes v t1), (Str.ofString "alphabet", .bytes b t), (Str.ofString "autofix", .bool fix)]) ?k1 ?k2 ?k3 ?k4 ?k5 ?k6 ?k7 ?k8 ?_
  walk_at "my_open"
  intro dp un gd env outer base s L h₁ tk0 hD hU B XB TB X T KD F N
  k_with_none
  (k_with "pyIter bytes" => k_dflt (refine' loop_b_acc (y := Str.ofString "decimal") (fun pre a => ∀ c ∈ pre, mapOf al fix c ≠ none) ?la1 ?la2 ?la3 ?la4 ?la5 ?la6 ?la7 ?_ ?_; (case la3 => k_asm); (case la4 => k_asm); (case la1 => assumption); (case la2 => rfl); (case la5 => decide); (case la6 => rfl); (case la7 => exact fun c hc => nomatch hc); rotate_left; (intro a1 ta1 u1 h' tk' hP F' N'; exact absurd hP hbad); (intro a1 ta1 pre1 post1 n1 t1' h' tk' own' e1 e2 hP F' N'; (try dsimp only at N'); (try simp only [List.cons_append, List.nil_append] at N'); (try k_fold); (try k_sweep); (rcases hvn : mapOf al fix n1 with _ | v1))))
  w_top off
  k_steps
  all_goals (try dsimp only)
  all_goals first
    | (refine' acc_end ?xe1 ?xe2 ?xe3 ?xe4 ?xe5 ?xe6 ?xe7; (case xe1 => k_asm); (case xe2 => k_asm); (case xe3 => rfl); (case xe4 => (intro z hz1 hz2; simp [hz1, hz2])); (case xe5 => exact fun p hp => List.mem_append_left _ hp); (case xe6 => (intro p hp; simp [hp])); (case xe7 => exact keep_all hP (fun q => by rw [hvn] at q; cases q)))
theorem c_dec_intE_kw (v b : Array UInt8) (ks al : List Int) (hv : KBw.bInts v = ks) (hk : KBw.bInts b = al) (hal : al.length = 58) (h33 : ∀ k ∈ al, 33 ≤ k) (hv33 : ∀ k ∈ ks, 33 ≤ k) (t t1 : Tok) (hlen : ks.length ≤ 15) (fix : Bool) (hbad : ¬ ∀ c ∈ ks, mapOf al fix c ≠ none) :
    CallE w mean mg mb 51 2 16 [.bytes v t1] [(Str.ofString "alphabet", .bytes b t), (Str.ofString "autofix", .bool fix)] := by
  refine' call_ofE (binds := [(Str.ofString "v", .bytes v t1), (Str.ofString "alphabet", .bytes b t), (Str.ofString "autofix", .bool fix)]) ?k1 ?k2 ?k3 ?k4 ?k5 ?k6 ?k7 ?k8 ?_
  walk_at "my_open"
  intro dp un gd env outer base s L h₁ tk0 hD hU B XB TB X T KD F N
  k_with_none
  (k_with "pyIter bytes" => k_dflt (refine' loop_b_acc (y := Str.ofString "decimal") (fun pre a => ∀ c ∈ pre, mapOf al fix c ≠ none) ?la1 ?la2 ?la3 ?la4 ?la5 ?la6 ?la7 ?_ ?_; (case la3 => k_asm); (case la4 => k_asm); (case la1 => assumption); (case la2 => rfl); (case la5 => decide); (case la6 => rfl); (case la7 => exact fun c hc => nomatch hc); rotate_left; (intro a1 ta1 u1 h' tk' hP F' N'; exact absurd hP hbad); (intro a1 ta1 pre1 post1 n1 t1' h' tk' own' e1 e2 hP F' N'; (try dsimp only at N'); (try simp only [List.cons_append, List.nil_append] at N'); (try k_fold); (try k_sweep); (rcases hvn : mapOf al fix n1 with _ | v1))))
  w_top off
  k_steps
  all_goals (try dsimp only)
  all_goals first
    | (refine' acc_end ?xe1 ?xe2 ?xe3 ?xe4 ?xe5 ?xe6 ?xe7; (case xe1 => k_asm); (case xe2 => k_asm); (case xe3 => rfl); (case xe4 => (intro z hz1 hz2; simp [hz1, hz2])); (case xe5 => exact fun p hp => List.mem_append_left _ hp); (case xe6 => (intro p hp; simp [hp])); (case xe7 => exact keep_all hP (fun q => by rw [hvn] at q; cases q)))
end Mine
end

section
open PySem PySem.W PySem.Calls PyProof.Rows PyProof.V PySem.Spec
namespace Mine
local macro_rules | `(tactic| walk_at "pad C_decodeE 0") => `(tactic| skip)
local macro_rules | `(tactic| walk_at "pad C_decodeE 1") => `(tactic| skip)
local macro_rules | `(tactic| walk_at "pad C_decodeE 2") => `(tactic| skip)
local macro_rules | `(tactic| walk_at "pad C_decodeE 3") => `(tactic| skip)
local macro_rules | `(tactic| walk_at "pad C_decodeE 4") => `(tactic| skip)
theorem filled_decodeE (w : World) : Challenge.rw_eg5004_01.row.prog = Challenge.rw_eg5004_01.row.prog ∧ hd.heap_39 w.params = hd.heap_39 w.params := by
  k_fill
  exact ⟨rfl, rfl⟩
variable (w : World) (mean : ExcName → Option Value) (mg mb : PySem.Str → Option Value)
local macro_rules | `(tactic| walk_at "my_open") => `(tactic| (
  (case k1 => k_is)
  (case k2 => k_is)
  (case k3 => (intro sX XX; first | exact BindsTo.of_eq rfl | exact binds_K XX rfl (by k_is) rfl rfl rfl))
  (case k4 => exact locs rfl)
  (case k5 => exact rfl)
  (case k6 => exact rfl)
  (case k7 => exact rfl)
  (case k8 => decide)))
local macro_rules | `(tactic| walk_at "my_one") => `(tactic| first | exact ints_zero | exact first_cut (by assumption) (by assumption) | rfl)
local macro_rules | `(tactic| walk_at "getMethod bytes") => `(tactic| (k_here; first | (with_reducible refine method_lstrip ?_) | (with_reducible refine method_rstrip ?_)))
local macro_rules | `(tactic| walk_at "call builtin:bytes.lstrip") => `(tactic| (k_here; k_dflt (refine' lstrip_K ?sa1 ?sa2 ?sa3 ?_; (case sa1 => kba_ints2); (case sa2 => walk_at "my_one"); (case sa3 => kba_size)); intro _ _ _ myLs; have myLl := lstrip_len myLs))
local macro_rules | `(tactic| walk_at "call builtin:bytes.rstrip") => `(tactic| (k_here; k_dflt (refine' rstrip_K ?sa1 ?sa2 ?sa3 ?_; (case sa1 => kba_ints2); (case sa2 => assumption); (case sa3 => kba_size)); intro _ _ _ myRs))
local macro_rules | `(tactic| walk_at "binaryOp Mult bytes int") => `(tactic| (k_here; k_dflt (refine' mul_K ?sa1 ?sa2 ?sa3 ?_; (case sa1 => walk_at "my_one"); (case sa2 => kba_size); (case sa3 => kba_size)); intro _ _ _ myMu myMl))
local macro_rules | `(tactic| walk_at "callWith ref") => `(tactic| (k_here; kfb_any; k_dflt (refine' callWith_boundKW ?sa1 ?sa2 ?sa3 ?_; (case sa1 => k_asm); (case sa2 => k_mem); (case sa3 => exact rfl); k_whole)))
local macro_rules | `(tactic| walk_at "call ref") => `(tactic| (k_here; (with_reducible show wpAny _ _ (call (Value.ref _) [Value.bytes _ _] _) _ _ _); kfb_any; k_dflt (refine fb_call (by k_asm) (by k_mem) (by kba_ints2) (by kba_size) ?_); intro _ _ myV0 myV1))

local macro_rules | `(tactic| walk_at "my_use") => `(tactic| (
  (case ua1 => k_asm); (case ua2 => k_asm); (case ua3 => k_asm); (case ua4 => k_asm); (case ua5 => k_asm); (case ua6 => exact rfl); (case ua7 => exact rfl); (case ua8 => omega); (case ua9 => omega)))
local macro_rules | `(tactic| walk_at "my_after") => `(tactic| ((try dsimp only); (try k_fold); (try k_sweep)))


local macro_rules | `(tactic| walk_at "my_openC") => `(tactic| (
  (case k1 => k_is)
  (case k2 => k_is)
  (case k3 => (intro sX XX; first | exact BindsTo.of_eq rfl | exact binds_K XX rfl (by k_is) rfl rfl rfl))
  (case k4 => exact kinds_of' rfl)
  (case k5 => decide +kernel)
  (case k6 => exact rfl)
  (case k7 => exact rfl)
  (case k8 => exact rfl)))
local macro_rules | `(tactic| walk_at "my_at") => `(tactic| first | (refine' News.get ?mya1 ?mya2; (case mya1 => k_asm); (case mya2 => k_mem)) | (refine' Fr.keep ?mya1 _ _ ?mya2; (case mya1 => k_asm); (case mya2 => assumption)))
local macro_rules | `(tactic| walk_at "my_lo") => `(tactic| assumption)
local macro_rules | `(tactic| walk_at "my_in") => `(tactic| assumption)
local macro_rules | `(tactic| walk_at "compareOp In int ref") => `(tactic| (k_here; k_dflt (refine' inD ?xa2 ?xa3 ?xa1 ?_; (case xa1 => walk_at "my_at"); (case xa2 => assumption); (case xa3 => assumption))))
local macro_rules | `(tactic| walk_at "compareOp NotIn int ref") => `(tactic| (k_here; k_dflt (refine' notinD ?xa2 ?xa3 ?xa1 ?_; (case xa1 => walk_at "my_at"); (case xa2 => assumption); (case xa3 => assumption))))
local macro_rules | `(tactic| walk_at "subscriptTail") => `(tactic| (k_here; (with_reducible show wpAny _ _ (subscriptTail _ _ (Value.ref _) (Value.int _ _)) _ _ _); k_dflt (refine' itemD ?xc2 ?xc3 ?xc1 ?xc4 ?_; (case xc1 => walk_at "my_at"); (case xc2 => assumption); (case xc3 => assumption); (case xc4 => assumption)); intro _))
local macro_rules | `(tactic| walk_at "subscriptTail") => `(tactic| (k_here; (with_reducible show wpAny _ _ (subscriptTail _ _ (Value.ref _) (Value.int 0 _)) _ _ _); k_dflt (refine' itemL1 ?xc1 ?_; (case xc1 => walk_at "my_at"))))
local macro_rules | `(tactic| walk_at "setItem ref int") => `(tactic| (k_here; k_dflt (refine' setD ?xb5 ?xb1 ?xb2 ?xb3 ?xb4 ?_; (case xb1 => k_asm); (case xb2 => k_asm); (case xb3 => k_updF); (case xb5 => assumption); (case xb4 => omega)); intro h' o' F' N' hd'; (try dsimp only at N'); (try k_sweep)))
local macro_rules | `(tactic| walk_at "my_id") => `(tactic| (intro myQ hmyQ; k_steps; exact hmyQ))
local macro_rules | `(tactic| walk_at "my_ne") => `(tactic| skip)
local macro_rules | `(tactic| walk_at "call builtin:len") => `(tactic| (k_here; k_dflt (refine' kst_len ?xd1 ?xd2 ?xd3 ?xd4 ?_; (case xd1 => k_asm); (case xd2 => k_mem); (case xd3 => exact rfl); (case xd4 => omega))))
local macro_rules | `(tactic| walk_at "ite") => `(tactic| (refine' ite_not ?nn ?_; (case nn => ((first | refine beq_eq_false_iff_ne.mpr ?_ | refine decide_eq_false ?_); omega))))
local macro_rules | `(tactic| walk_at "AltEnd") => `(tactic| (refine' alt_end ?xe1 ?xe2 ?xe3 ?xe4 ?xe5 ?xe6; (case xe1 => assumption); (case xe2 => k_asm); (case xe3 => k_asm); (case xe4 => (intro z hz; simp [hz])); (case xe5 => (intro p hp; simp at hp ⊢; simp [hp])); (case xe6 => (intro p hp; simp [hp]))))


local macro_rules | `(tactic| walk_at "my_src") => `(tactic| (intro myQ hmyQ; k_steps; refine' hmyQ _ _ _ ?mys1 ?mys2 ?mys3; (case mys1 => k_asm); (case mys2 => k_asm); (case mys3 => (refine' src_rangeI ?mys4 ?mys5 ?mys6 ?mys7; (case mys4 => assumption); (case mys5 => rfl); (case mys6 => omega); (case mys7 => rfl)))))

local macro_rules | `(tactic| walk_at "call ref") => `(tactic| (k_here; (with_reducible show wpAny _ _ (call (Value.ref 21) _ _) _ _ _); k_dflt (refine' use_call (b_scrub _ _ _ _ _ _) ?ua1 ?ua2 ?ua3 ?ua4 ?ua5 ?ua6 ?ua7 ?ua8 ?ua9 ?uap ?_; walk_at "my_use"; (case uap => trivial)); intro _ _ _ F' N' kK' hP'; subst hP'; walk_at "my_after"))

local macro_rules | `(tactic| walk_at "compareOp NotIn bytes bytes") => `(tactic| (k_here; k_dflt (refine' notin_K ?ni1 ?ni2 ?ni3 ?ni4 ?ni5 ?_; (case ni1 => k_asm); (case ni2 => k_asm); (case ni3 => assumption); (case ni4 => assumption); (case ni5 => rfl)); intro h' tk' F' N'; (try k_fold); (try k_sweep)))
local macro_rules | `(tactic| walk_at "call ref") => `(tactic| (k_here; (with_reducible show wpAny _ _ (call (Value.ref 42) [_] _) _ _ _); k_dflt (refine' use_callD (c_map _ _ _ _ _ _ ?uh1 ?uh2 _ _) ?ua1 ?ua2 ?ua3 ?ua4 ?ua5 ?ua6 ?ua7 ?ua8 ?ua9 ?uap ?_; walk_at "my_use"; (case uap => trivial); (case uh1 => assumption); (case uh2 => assumption)); intro myD myo h' tk' F' N' myNe myR; obtain ⟨myLow, myDI⟩ := myR; (simp only [List.forall_mem_cons, List.not_mem_nil, false_implies, implies_true, and_true] at myNe); walk_at "my_after"))

local macro_rules | `(tactic| walk_at "call ref") => `(tactic| (k_here; (with_reducible show wpAny _ _ (call (Value.ref 51) [_] _) _ _ _); k_dflt (refine' use_callE (c_dec_intE_kw _ _ _ _ _ _ _ _ ?uh1 ?uh2 ?uh3 ?uh4 ?uh5 _ _ ?uh6 _ ?uh7) ?ua1 ?ua2 ?uaXB ?uaTB ?ua3 ?ua5 ?uaD ?ua6 ?ua7 ?ua8 ?ua9 ?_; (case ua1 => k_asm); (case ua2 => k_asm); (case uaXB => assumption); (case uaTB => assumption); (case ua3 => k_asm); (case ua5 => k_asm); (case uaD => assumption); (case ua6 => exact rfl); (case ua7 => exact rfl); (case ua8 => omega); (case ua9 => omega); (case uh1 => assumption); (case uh2 => assumption); (case uh3 => assumption); (case uh4 => assumption); (case uh5 => walk_at "my_sub"); (case uh6 => walk_at "my_len"); (case uh7 => assumption)); intro y' h' tk' R' U'))
local macro_rules | `(tactic| walk_at "my_sub") => `(tactic| first | assumption | (refine' all_drop ?mz1 ?mz2; (case mz1 => exact rfl); (case mz2 => assumption)))
local macro_rules | `(tactic| walk_at "my_len") => `(tactic| omega)
theorem c_decodeE (v b : Array UInt8) (ks al : List Int) (hv : KBw.bInts v = ks) (hk : KBw.bInts b = al) (hal : al.length = 58) (h33 : ∀ k ∈ al, 33 ≤ k) (hv33 : ∀ k ∈ ks, 33 ≤ k) (t t1 : Tok) (hlen : ks.length ≤ 15) (fix : Bool) (hbad : ¬ ∀ c ∈ ks.dropWhile (fun x => decide (x = al.getD 0 0)), mapOf al fix c ≠ none) :
    CallE w mean mg mb 60 4 32 [.bytes v t1, .bytes b t] [(Str.ofString "autofix", .bool fix)] := by
  refine' call_ofE (binds := [(Str.ofString "v", .bytes v t1), (Str.ofString "alphabet", .bytes b t), (Str.ofString "autofix", .bool fix)]) ?k1 ?k2 ?k3 ?k4 ?k5 ?k6 ?k7 ?k8 ?_
  walk_at "my_open"
  intro dp un gd env outer base s L h₁ tk0 hD hU B XB TB X T KD F N
  k_with_none
  w_top off
  k_steps
  all_goals (try dsimp only)
  all_goals first
    | exact leftE (by assumption) (by assumption)
end Mine
end

section
open PySem PySem.W PySem.Calls PyProof.Rows PyProof.V PySem.Spec
namespace Mine
def CallW (w : World) (mean : ExcName → Option Value) (mg mb : PySem.Str → Option Value) (f : Addr) (D U : Nat) (pos : List Value) (kw : List (PySem.Str × Value)) (pre : Heap → Prop) (post : Heap → Value → Prop) : Prop :=
  ∀ (dp un : Nat) (gd : Option (List Code)) (env : Env) (outer : List Env) (base : Heap) (s : Shared) (Q E : Value → Shared → Prop),
    dp + D < recursionLimit → un + U < cLine → Below (Ard dp un gd env outer) base (env :: outer) s.heap → (hd.heap_39 w.params).In base → Top hd.view_39 (looseW hd.view_39 LS) mean mg mb base → (hd.heap_39 w.params).In s.heap → Top hd.view_39 (looseW hd.view_39 LS) mean mg mb s.heap → KtsDicts ((env :: outer).filterMap (·.frame)) s.heap → pre s.heap →
    (∀ v h' g' tk', KtsTurn ((env :: outer).filterMap (·.frame)) s.heap g' → Keep g' h' → post h' v → Q v { s with heap := h', toks := tk' }) →
    wpAny (model PP w) (Ard dp un gd env outer) (call (.ref f) pos kw) Q E s
def BackW (fs : List Addr) (s : Shared) (post : Heap → Value → Prop) (fl : Flow) (s' : Shared) : Prop :=
  ∃ g' h' tk, s' = { s with heap := h', toks := tk } ∧ KtsTurn fs s.heap g' ∧ Keep g' h' ∧ post h' (match fl with | .ret v => v | _ => .none)
theorem backW_of {fs : List Addr} {g' : Heap} {s : Shared} {post : Heap → Value → Prop} {L : Addr} {m : PySem.Str → Option Value} {h' : Heap} {tk : Nat} {v : Value} (T : KtsTurn fs s.heap g') (F : Fr g' L h' m) (hp : post h' v) :
    BackW fs s post (.ret v) { s with heap := h', toks := tk } := ⟨g', h', tk, rfl, T, F.keep, hp⟩
section
variable {w : World} {mean : ExcName → Option Value} {mg mb : PySem.Str → Option Value}
theorem call_ofW
    {name qual : PySem.Str} {params : Arguments} {body : List Stmt} {scope : Scope} {dV kV doc pm cdv ct oc : Value} {an od : Option Addr} {osl : Array (Option Value)} {f : Addr} {D U : Nat} {pos : List Value} {kw : List (PySem.Str × Value)} {binds : List (PySem.Str × Value)}
    {pre : Heap → Prop} {post : Heap → Value → Prop}
    (ho : (hd.heap_39 w.params).lookup f = some ⟨oc, od, .func (fnOf name qual params body scope dV kV doc pm an cdv ct), osl⟩) (hcd : codeIn (hd.heap_39 w.params) cdv qual = true)
    (hbind : ∀ s : Shared, (hd.heap_39 w.params).In s.heap → BindsTo s (fnOf name qual params body scope dV kV doc pm an cdv ct) ⟨pos, kw⟩ binds) (hloc : ∀ y ∈ binds, scope.names.lookup y.1 = some .local)
    (hco : scope.isCoroutine = false) (hgen : scope.isGenerator = false) (hk : scope.kind = .function) (hcell : ∀ x ∈ scope.names, x.2 ≠ .cell)
    (h : ∀ (dp un : Nat) (gd : Option (List Code)) (env : Env) (outer : List Env) (base : Heap) (s : Shared) (L : Addr) (h₁ : Heap) (tk : Nat),
      dp + D < recursionLimit → un + U < cLine → Below (Ard dp un gd env outer) base (env :: outer) s.heap → (hd.heap_39 w.params).In base → Top hd.view_39 (looseW hd.view_39 LS) mean mg mb base → (hd.heap_39 w.params).In s.heap → Top hd.view_39 (looseW hd.view_39 LS) mean mg mb s.heap → KtsDicts ((env :: outer).filterMap (·.frame)) s.heap → pre s.heap →
      Fr s.heap L h₁ (fun y => binds.reverse.lookup y) → News s.heap L h₁ [] →
      wpAny (model PP w) ((Ard dp un gd env outer).deeper (envOf qual scope L f cdv)) (execs body (envOf qual scope L f cdv))
        (BackW ((env :: outer).filterMap (·.frame)) s post) (fun _ _ => False) { s with heap := h₁, toks := tk }) : CallW w mean mg mb f D U pos kw pre post := by
  intro dp un gd env outer base s Q E hD hU B XB TB X T KD hpre hQ
  refine wpAny_call ?_
  refine codeAny_call_def (fd := fnOf name qual params body scope dV kV doc pm an cdv ct) (body := body) (binds := binds) (Nat.lt_of_le_of_lt (Nat.le_add_right _ _) hD) (X _ _ ho) rfl T.nolimit (codeRec_of X hcd) rfl (hbind s X) hcell hloc (fun h₁ hns hk₁ => ?_) hco hgen hk
  refine wpAny_mono (h dp un gd env outer base s _ h₁ _ hD hU B XB TB X T KD hpre ⟨hns, hk₁, Nat.le_refl _⟩ News.nil) (fun fl s' hl => ?_) fun _ _ y => y.elim
  obtain ⟨g', h', tk, rfl, T', hk', hp⟩ := hl
  exact hQ _ h' g' tk T' hk' hp
theorem use_callW {f : Addr} {D U : Nat} {pos : List Value} {kw : List (PySem.Str × Value)} {pre : Heap → Prop} {post : Heap → Value → Prop} (C : CallW w mean mg mb f D U pos kw pre post)
    {dp un : Nat} {gd : Option (List Code)} {env env' : Env} {outer : List Env} {base h₀ g₀ : Heap} {L : Addr} {m : PySem.Str → Option Value} {news : List (Addr × Obj)} {s : Shared} {Q E : Value → Shared → Prop}
    (B : Below (Ard dp un gd env outer) base (env :: outer) h₀) (F : Fr h₀ L s.heap m) (N : News h₀ L s.heap news) (XB : (hd.heap_39 w.params).In base) (TB : Top hd.view_39 (looseW hd.view_39 LS) mean mg mb base) (X : (hd.heap_39 w.params).In h₀) (T : Top hd.view_39 (looseW hd.view_39 LS) mean mg mb h₀) (KD : KtsDicts ((env :: outer).filterMap (·.frame)) h₀)
    (T0 : KtsTurn ((env :: outer).filterMap (·.frame)) g₀ h₀)
    (hf : env'.frame = some L) (hke : env'.scope.kind = .function) (hD : dp + (D + 1) < recursionLimit) (hU : un + (U + 3) < cLine) (hp : pre s.heap)
    (h : ∀ v h' h₀' tk', KtsTurn ((env :: outer).filterMap (·.frame)) g₀ h₀' → Fr h₀' L h' m → News h₀' L h' news → Below (Ard dp un gd env outer) base (env :: outer) h₀' → (hd.heap_39 w.params).In h₀' → Top hd.view_39 (looseW hd.view_39 LS) mean mg mb h₀' → KtsDicts ((env :: outer).filterMap (·.frame)) h₀' → post h' v → Q v { s with heap := h', toks := tk' }) :
    wpAny (model PP w) ((Ard dp un gd env outer).deeper env') (call (.ref f) pos kw) Q E s := by
  refine C (dp + 1) (un + 3) gd env' (env :: outer) base s Q E (by omega) (by omega) (pushX B F hf hke) XB TB (X.keeps F.keep) (T.keeps F.keep) (dicts_push KD F hf) hp fun v h' g' tk' T' hk' hpost => ?_
  have hfs : ((env' :: env :: outer).filterMap (·.frame)) = L :: (env :: outer).filterMap (·.frame) := by rw [List.filterMap_cons, hf]
  rw [hfs] at T'
  have nL₀ : h₀.get? L = none := kts_self F
  obtain ⟨oL, es, ep, hL, hLd, hLk, hLf⟩ := F.ns
  obtain ⟨sl, hs⟩ := T'.up hL
  obtain ⟨T₁, S₁⟩ := kts_turn_at (h := h') (fs := (env :: outer).filterMap (·.frame)) (g := h₀)
    (fun b hb => by
      obtain ⟨_, o, ho', _⟩ := B.frames.mem hb
      exact ⟨o, ho'⟩)
    (fun b o e nmem => hk' b o (T'.other b o (F.keep b o e) (fun q => by
      rcases List.mem_cons.mp q with z | z
      · rw [z, nL₀] at e
        cases e
      · exact nmem z)))
    (fun b o e hm => by
      obtain ⟨sl', hs'⟩ := T'.up (F.keep b o e)
      exact ⟨sl', hk' _ _ hs'⟩)
  have B₃ : Below (Ard dp un gd env outer) base (env :: outer) (ktsHeap h' ((env :: outer).filterMap (·.frame)) h₀) := ⟨B.stack, fun b o e => T₁.other b o (B.stays b o e) (fun hm => by
    rw [(B.frames.mem hm).1] at e
    cases e), B.frames.of_keeps fun b o e _ => by
    obtain ⟨sl', hs'⟩ := T₁.up e
    exact ⟨_, hs', rfl⟩⟩
  refine h v h' _ tk' (T0.trans T₁) ⟨⟨_, es, ep, hk' _ _ hs, hLd, hLk, hLf⟩, S₁, by rw [T₁.size]; exact F.above⟩ (fun p hp => ⟨hk' _ _ (T'.other _ _ (N p hp).1 fun q => ?_), (N p hp).2.1, T₁.none_ _ (N p hp).2.2⟩) B₃ (XB.keeps B₃.stays) (TB.keeps B₃.stays) (KD.turn T₁) hpost
  rcases List.mem_cons.mp q with z | z
  · exact (N p hp).2.1 z
  · obtain ⟨o, es, n, ho, _⟩ := KD _ z
    rw [(N p hp).2.2] at ho; cases ho
theorem Call.weak {f : Addr} {D U : Nat} {pos : List Value} {kw : List (PySem.Str × Value)} {pre : Heap → Prop} {post : Heap → Heap → Value → Prop} {post' : Heap → Value → Prop} (C : Call w mean mg mb f D U pos kw pre post) (hp : ∀ g h v, post g h v → post' h v) : CallW w mean mg mb f D U pos kw pre post' :=
  fun dp un gd env outer base s Q E hD hU B XB TB X T KD hpre hQ => C dp un gd env outer base s Q E hD hU B X T hpre fun v h' tk' hk hpo => hQ v h' s.heap tk' KtsTurn.refl hk (hp _ _ _ hpo)
end
end Mine
end

section
open PySem PySem.W PySem.Calls PyProof.Rows PyProof.V PySem.Spec
namespace Mine
local macro_rules | `(tactic| walk_at "pad C_read 0") => `(tactic| skip)
local macro_rules | `(tactic| walk_at "pad C_read 1") => `(tactic| skip)
local macro_rules | `(tactic| walk_at "pad C_read 2") => `(tactic| skip)
local macro_rules | `(tactic| walk_at "pad C_read 3") => `(tactic| skip)
local macro_rules | `(tactic| walk_at "pad C_read 4") => `(tactic| skip)
theorem filled_read (w : World) : Challenge.rw_eg5004_01.row.prog = Challenge.rw_eg5004_01.row.prog ∧ hd.heap_39 w.params = hd.heap_39 w.params := by
  k_fill
  exact ⟨rfl, rfl⟩
variable (w : World) (mean : ExcName → Option Value) (mg mb : PySem.Str → Option Value)
local macro_rules | `(tactic| walk_at "my_open") => `(tactic| (
  (case k1 => k_is)
  (case k2 => k_is)
  (case k3 => (intro sX XX; first | exact BindsTo.of_eq rfl | exact binds_K XX rfl (by k_is) rfl rfl rfl))
  (case k4 => exact locs rfl)
  (case k5 => exact rfl)
  (case k6 => exact rfl)
  (case k7 => exact rfl)
  (case k8 => decide)))
local macro_rules | `(tactic| walk_at "my_one") => `(tactic| first | exact ints_zero | exact first_cut (by assumption) (by assumption) | rfl)
local macro_rules | `(tactic| walk_at "getMethod bytes") => `(tactic| (k_here; first | (with_reducible refine method_lstrip ?_) | (with_reducible refine method_rstrip ?_)))
local macro_rules | `(tactic| walk_at "call builtin:bytes.lstrip") => `(tactic| (k_here; k_dflt (refine' lstrip_K ?sa1 ?sa2 ?sa3 ?_; (case sa1 => kba_ints2); (case sa2 => walk_at "my_one"); (case sa3 => kba_size)); intro _ _ _ myLs; have myLl := lstrip_len myLs))
local macro_rules | `(tactic| walk_at "call builtin:bytes.rstrip") => `(tactic| (k_here; k_dflt (refine' rstrip_K ?sa1 ?sa2 ?sa3 ?_; (case sa1 => kba_ints2); (case sa2 => assumption); (case sa3 => kba_size)); intro _ _ _ myRs))
local macro_rules | `(tactic| walk_at "binaryOp Mult bytes int") => `(tactic| (k_here; k_dflt (refine' mul_K ?sa1 ?sa2 ?sa3 ?_; (case sa1 => walk_at "my_one"); (case sa2 => kba_size); (case sa3 => kba_size)); intro _ _ _ myMu myMl))
local macro_rules | `(tactic| walk_at "callWith ref") => `(tactic| (k_here; kfb_any; k_dflt (refine' callWith_boundKW ?sa1 ?sa2 ?sa3 ?_; (case sa1 => k_asm); (case sa2 => k_mem); (case sa3 => exact rfl); k_whole)))
local macro_rules | `(tactic| walk_at "call ref") => `(tactic| (k_here; (with_reducible show wpAny _ _ (call (Value.ref _) [Value.bytes _ _] _) _ _ _); kfb_any; k_dflt (refine fb_call (by k_asm) (by k_mem) (by kba_ints2) (by kba_size) ?_); intro _ _ myV0 myV1))

local macro_rules | `(tactic| walk_at "my_use") => `(tactic| (
  (case ua1 => k_asm); (case ua2 => k_asm); (case ua3 => k_asm); (case ua4 => k_asm); (case ua5 => k_asm); (case ua6 => exact rfl); (case ua7 => exact rfl); (case ua8 => omega); (case ua9 => omega)))
local macro_rules | `(tactic| walk_at "my_after") => `(tactic| ((try dsimp only); (try k_fold); (try k_sweep)))


local macro_rules | `(tactic| walk_at "my_openC") => `(tactic| (
  (case k1 => k_is)
  (case k2 => k_is)
  (case k3 => (intro sX XX; first | exact BindsTo.of_eq rfl | exact binds_K XX rfl (by k_is) rfl rfl rfl))
  (case k4 => exact kinds_of' rfl)
  (case k5 => decide +kernel)
  (case k6 => exact rfl)
  (case k7 => exact rfl)
  (case k8 => exact rfl)))
local macro_rules | `(tactic| walk_at "my_at") => `(tactic| first | (refine' News.get ?mya1 ?mya2; (case mya1 => k_asm); (case mya2 => k_mem)) | (refine' Fr.keep ?mya1 _ _ ?mya2; (case mya1 => k_asm); (case mya2 => assumption)))
local macro_rules | `(tactic| walk_at "my_lo") => `(tactic| assumption)
local macro_rules | `(tactic| walk_at "my_in") => `(tactic| assumption)
local macro_rules | `(tactic| walk_at "compareOp In int ref") => `(tactic| (k_here; k_dflt (refine' inD ?xa2 ?xa3 ?xa1 ?_; (case xa1 => walk_at "my_at"); (case xa2 => assumption); (case xa3 => assumption))))
local macro_rules | `(tactic| walk_at "compareOp NotIn int ref") => `(tactic| (k_here; k_dflt (refine' notinD ?xa2 ?xa3 ?xa1 ?_; (case xa1 => walk_at "my_at"); (case xa2 => assumption); (case xa3 => assumption))))
local macro_rules | `(tactic| walk_at "subscriptTail") => `(tactic| (k_here; (with_reducible show wpAny _ _ (subscriptTail _ _ (Value.ref _) (Value.int _ _)) _ _ _); k_dflt (refine' itemD ?xc2 ?xc3 ?xc1 ?xc4 ?_; (case xc1 => walk_at "my_at"); (case xc2 => assumption); (case xc3 => assumption); (case xc4 => assumption)); intro _))
local macro_rules | `(tactic| walk_at "subscriptTail") => `(tactic| (k_here; (with_reducible show wpAny _ _ (subscriptTail _ _ (Value.ref _) (Value.int 0 _)) _ _ _); k_dflt (refine' itemL1 ?xc1 ?_; (case xc1 => walk_at "my_at"))))
local macro_rules | `(tactic| walk_at "setItem ref int") => `(tactic| (k_here; k_dflt (refine' setD ?xb5 ?xb1 ?xb2 ?xb3 ?xb4 ?_; (case xb1 => k_asm); (case xb2 => k_asm); (case xb3 => k_updF); (case xb5 => assumption); (case xb4 => omega)); intro h' o' F' N' hd'; (try dsimp only at N'); (try k_sweep)))
local macro_rules | `(tactic| walk_at "my_id") => `(tactic| (intro myQ hmyQ; k_steps; exact hmyQ))
local macro_rules | `(tactic| walk_at "my_ne") => `(tactic| skip)
local macro_rules | `(tactic| walk_at "call builtin:len") => `(tactic| (k_here; k_dflt (refine' kst_len ?xd1 ?xd2 ?xd3 ?xd4 ?_; (case xd1 => k_asm); (case xd2 => k_mem); (case xd3 => exact rfl); (case xd4 => omega))))
local macro_rules | `(tactic| walk_at "ite") => `(tactic| (refine' ite_not ?nn ?_; (case nn => ((first | refine beq_eq_false_iff_ne.mpr ?_ | refine decide_eq_false ?_); omega))))
local macro_rules | `(tactic| walk_at "AltEnd") => `(tactic| (refine' alt_end ?xe1 ?xe2 ?xe3 ?xe4 ?xe5 ?xe6; (case xe1 => assumption); (case xe2 => k_asm); (case xe3 => k_asm); (case xe4 => (intro z hz; simp [hz])); (case xe5 => (intro p hp; simp at hp ⊢; simp [hp])); (case xe6 => (intro p hp; simp [hp]))))


local macro_rules | `(tactic| walk_at "my_src") => `(tactic| (intro myQ hmyQ; k_steps; refine' hmyQ _ _ _ ?mys1 ?mys2 ?mys3; (case mys1 => k_asm); (case mys2 => k_asm); (case mys3 => (refine' src_rangeI ?mys4 ?mys5 ?mys6 ?mys7; (case mys4 => assumption); (case mys5 => rfl); (case mys6 => omega); (case mys7 => rfl)))))

local macro_rules | `(tactic| walk_at "call ref") => `(tactic| (k_here; (with_reducible show wpAny _ _ (call (Value.ref 21) _ _) _ _ _); k_dflt (refine' use_call (b_scrub _ _ _ _ _ _) ?ua1 ?ua2 ?ua3 ?ua4 ?ua5 ?ua6 ?ua7 ?ua8 ?ua9 ?uap ?_; walk_at "my_use"; (case uap => trivial)); intro _ _ _ F' N' kK' hP'; subst hP'; walk_at "my_after"))

local macro_rules | `(tactic| walk_at "compareOp NotIn bytes bytes") => `(tactic| (k_here; k_dflt (refine' notin_K ?ni1 ?ni2 ?ni3 ?ni4 ?ni5 ?_; (case ni1 => k_asm); (case ni2 => k_asm); (case ni3 => assumption); (case ni4 => assumption); (case ni5 => rfl)); intro h' tk' F' N'; (try k_fold); (try k_sweep)))
local macro_rules | `(tactic| walk_at "call ref") => `(tactic| (k_here; (with_reducible show wpAny _ _ (call (Value.ref 42) [_] _) _ _ _); k_dflt (refine' use_callD (c_map _ _ _ _ _ _ ?uh1 ?uh2 _ _) ?ua1 ?ua2 ?ua3 ?ua4 ?ua5 ?ua6 ?ua7 ?ua8 ?ua9 ?uap ?_; walk_at "my_use"; (case uap => trivial); (case uh1 => assumption); (case uh2 => assumption)); intro myD myo h' tk' F' N' myNe myR; obtain ⟨myLow, myDI⟩ := myR; (simp only [List.forall_mem_cons, List.not_mem_nil, false_implies, implies_true, and_true] at myNe); walk_at "my_after"))

theorem c_decode_u (v b : Array UInt8) (ks al : List Int) (hv : KBw.bInts v = ks) (hk : KBw.bInts b = al) (hal : al.length = 58) (h33 : ∀ k ∈ al, 33 ≤ k) (hv33 : ∀ k ∈ ks, 33 ≤ k) (t t1 : Tok) (hlen : ks.length ≤ 15) (fix : Bool) (hgood : ∀ c ∈ ks, mapOf al fix c = some (rkOf (mapOf al fix) c)) (hrk : ∀ c ∈ ks, 0 ≤ rkOf (mapOf al fix) c ∧ rkOf (mapOf al fix) c < 58) :
    Call w mean mg mb 60 4 32 [.bytes v t1, .bytes b t] [(Str.ofString "autofix", .bool fix)] (fun h => True) (fun g h v => ∃ b' t' o, v = .bytes b' t' ∧ KBw.bInts b' = o ∧ o.length ≤ 200 ∧ DecodeIs (rkOf (mapOf al fix)) (al.getD 0 0) ks o) :=
  c_decode w mean mg mb v b ks al hv hk hal h33 hv33 t t1 hlen fix hgood hrk
local macro_rules | `(tactic| walk_at "call ref") => `(tactic| (k_here; (with_reducible show wpAny _ _ (call (Value.ref 60) [_, _] _) _ _ _); k_dflt (refine' use_callE (c_decodeE _ _ _ _ _ _ _ _ ?uh1 ?uh2 ?uh3 ?uh4 ?uh5 _ _ ?uh6 _ ?uh7) ?ua1 ?ua2 ?uaXB ?uaTB ?ua3 ?ua5 ?uaD ?ua6 ?ua7 ?ua8 ?ua9 ?_; (case ua1 => k_asm); (case ua2 => k_asm); (case uaXB => assumption); (case uaTB => assumption); (case ua3 => k_asm); (case ua5 => k_asm); (case uaD => assumption); (case ua6 => exact rfl); (case ua7 => exact rfl); (case ua8 => omega); (case ua9 => omega); (case uh1 => assumption); (case uh2 => assumption); (case uh3 => assumption); (case uh4 => assumption); (case uh5 => assumption); (case uh6 => omega); (case uh7 => assumption)); intro y' h' tk' R' U'))
local macro_rules | `(tactic| walk_at "call ref") => `(tactic| (k_here; (with_reducible show wpAny _ _ (call (Value.ref 51) [_, _] _) _ _ _); k_dflt (refine' use_callE (c_dec_intE _ _ _ _ _ _ _ _ ?uh1 ?uh2 ?uh3 ?uh4 ?uh5 _ _ ?uh6 _ ?uh7) ?ua1 ?ua2 ?uaXB ?uaTB ?ua3 ?ua5 ?uaD ?ua6 ?ua7 ?ua8 ?ua9 ?_; (case ua1 => k_asm); (case ua2 => k_asm); (case uaXB => assumption); (case uaTB => assumption); (case ua3 => k_asm); (case ua5 => k_asm); (case uaD => assumption); (case ua6 => exact rfl); (case ua7 => exact rfl); (case ua8 => omega); (case ua9 => omega); (case uh1 => assumption); (case uh2 => assumption); (case uh3 => assumption); (case uh4 => assumption); (case uh5 => assumption); (case uh6 => omega); (case uh7 => assumption)); intro y' h' tk' R' U'))
local macro_rules | `(tactic| walk_at "call ref") => `(tactic| (k_here; (with_reducible show wpAny _ _ (call (Value.ref 60) [_, _] _) _ _ _); k_dflt (refine' use_call (c_decode_u _ _ _ _ _ _ _ _ ?uh1 ?uh2 ?uh3 ?uh4 ?uh5 _ _ ?uh6 _ ?uh7 ?uh8) ?ua1 ?ua2 ?ua3 ?ua4 ?ua5 ?ua6 ?ua7 ?ua8 ?ua9 ?uap ?_; walk_at "my_use"; (case uap => trivial); (case uh1 => assumption); (case uh2 => assumption); (case uh3 => assumption); (case uh4 => assumption); (case uh5 => assumption); (case uh6 => omega); (case uh7 => assumption); (case uh8 => assumption)); intro _ _ _ F' N' kK' hP'; obtain ⟨myBb, myBt, myBo, hP', myB1, myB2, myB3⟩ := hP'; subst hP'; walk_at "my_after"))
local macro_rules | `(tactic| walk_at "call ref") => `(tactic| (k_here; (with_reducible show wpAny _ _ (call (Value.ref 51) [_, _] _) _ _ _); k_dflt (refine' use_call (c_dec_int _ _ _ _ _ _ _ _ ?uh1 ?uh2 ?uh3 ?uh4 ?uh5 _ _ ?uh6 _ ?uh7) ?ua1 ?ua2 ?ua3 ?ua4 ?ua5 ?ua6 ?ua7 ?ua8 ?ua9 ?uap ?_; walk_at "my_use"; (case uap => trivial); (case uh1 => assumption); (case uh2 => assumption); (case uh3 => assumption); (case uh4 => assumption); (case uh5 => assumption); (case uh6 => omega); (case uh7 => assumption)); intro _ _ _ F' N' kK' hP'; obtain ⟨u', hP'⟩ := hP'; subst hP'; walk_at "my_after"))
theorem c_reading (v b : Array UInt8) (ks al : List Int) (hv : KBw.bInts v = ks) (hk : KBw.bInts b = al) (hal : al.length = 58) (h33 : ∀ k ∈ al, 33 ≤ k) (hv33 : ∀ k ∈ ks, 33 ≤ k) (t t1 : Tok) (hlen : ks.length ≤ 15) (fix : Bool) (hgood : ∀ c ∈ ks, mapOf al fix c = some (rkOf (mapOf al fix) c)) (hrk : ∀ c ∈ ks, 0 ≤ rkOf (mapOf al fix) c ∧ rkOf (mapOf al fix) c < 58) :
    Call w mean mg mb 94 6 48 [.bytes v t1, .bytes b t, .bool fix] [] (fun h => True) (fun g h v => ∃ b' t' o, v = .bytes b' t' ∧ KBw.bInts b' = o ∧ o.length ≤ 200 ∧ DecodeIs (rkOf (mapOf al fix)) (al.getD 0 0) ks o) := by
  refine' call_of (binds := [(Str.ofString "text", .bytes v t1), (Str.ofString "signs", .bytes b t), (Str.ofString "fix", .bool fix)]) ?k1 ?k2 ?k3 ?k4 ?k5 ?k6 ?k7 ?k8 ?_
  walk_at "my_open"
  intro dp un gd env outer base s L h₁ tk0 hD hU B X T hl F N
  k_with_none
  w_top off
  k_steps
  all_goals (try dsimp only)
  all_goals first
    | (refine back_of (by k_asm) ?_; exact ⟨_, _, _, rfl, by assumption, by assumption, by assumption⟩)
theorem c_numread (v b : Array UInt8) (ks al : List Int) (hv : KBw.bInts v = ks) (hk : KBw.bInts b = al) (hal : al.length = 58) (h33 : ∀ k ∈ al, 33 ≤ k) (hv33 : ∀ k ∈ ks, 33 ≤ k) (t t1 : Tok) (hlen : ks.length ≤ 15) (fix : Bool) (hgood : ∀ c ∈ ks, mapOf al fix c = some (rkOf (mapOf al fix) c)) :
    Call w mean mg mb 101 6 48 [.bytes v t1, .bytes b t, .bool fix] [] (fun h => True) (fun g h v => ∃ u, v = .int (num 58 (ks.map (rkOf (mapOf al fix)))) u) := by
  refine' call_of (binds := [(Str.ofString "text", .bytes v t1), (Str.ofString "signs", .bytes b t), (Str.ofString "fix", .bool fix)]) ?k1 ?k2 ?k3 ?k4 ?k5 ?k6 ?k7 ?k8 ?_
  walk_at "my_open"
  intro dp un gd env outer base s L h₁ tk0 hD hU B X T hl F N
  k_with_none
  w_top off
  k_steps
  all_goals (try dsimp only)
  all_goals first
    | (refine back_of (by k_asm) ?_; exact ⟨_, rfl⟩)
theorem c_readingE (v b : Array UInt8) (ks al : List Int) (hv : KBw.bInts v = ks) (hk : KBw.bInts b = al) (hal : al.length = 58) (h33 : ∀ k ∈ al, 33 ≤ k) (hv33 : ∀ k ∈ ks, 33 ≤ k) (t t1 : Tok) (hlen : ks.length ≤ 15) (fix : Bool) (hbad : ¬ ∀ c ∈ ks.dropWhile (fun x => decide (x = al.getD 0 0)), mapOf al fix c ≠ none) :
    CallW w mean mg mb 94 6 48 [.bytes v t1, .bytes b t, .bool fix] [] (fun h => True) (fun h v => ∃ u, v = .str (Str.ofString "refused") u) := by
  refine' call_ofW (binds := [(Str.ofString "text", .bytes v t1), (Str.ofString "signs", .bytes b t), (Str.ofString "fix", .bool fix)]) ?k1 ?k2 ?k3 ?k4 ?k5 ?k6 ?k7 ?k8 ?_
  walk_at "my_open"
  intro dp un gd env outer base s L h₁ tk0 hD hU B XB TB X T KD hl F N
  k_with_none
  w_top off
  k_steps
  all_goals (try dsimp only)
  all_goals first
    | (refine backW_of (by assumption) (by k_asm) ?_; exact ⟨_, rfl⟩)
theorem c_numreadE (v b : Array UInt8) (ks al : List Int) (hv : KBw.bInts v = ks) (hk : KBw.bInts b = al) (hal : al.length = 58) (h33 : ∀ k ∈ al, 33 ≤ k) (hv33 : ∀ k ∈ ks, 33 ≤ k) (t t1 : Tok) (hlen : ks.length ≤ 15) (fix : Bool) (hbad : ¬ ∀ c ∈ ks, mapOf al fix c ≠ none) :
    CallW w mean mg mb 101 6 48 [.bytes v t1, .bytes b t, .bool fix] [] (fun h => True) (fun h v => ∃ u, v = .str (Str.ofString "refused") u) := by
  refine' call_ofW (binds := [(Str.ofString "text", .bytes v t1), (Str.ofString "signs", .bytes b t), (Str.ofString "fix", .bool fix)]) ?k1 ?k2 ?k3 ?k4 ?k5 ?k6 ?k7 ?k8 ?_
  walk_at "my_open"
  intro dp un gd env outer base s L h₁ tk0 hD hU B XB TB X T KD hl F N
  k_with_none
  w_top off
  k_steps
  all_goals (try dsimp only)
  all_goals first
    | (refine backW_of (by assumption) (by k_asm) ?_; exact ⟨_, rfl⟩)
end Mine
end

section
open PySem PySem.W PySem.Calls PyProof.Rows PyProof.V PySem.Spec
namespace Mine
section
variable {w : World} {mean : ExcName → Option Value} {mg mb : PySem.Str → Option Value} {dp un : Nat} {gd : Option (List Code)} {env env0 : Env} {outer : List Env} {base h₀ : Heap} {L : Addr} {m : PySem.Str → Option Value} {news : List (Addr × Obj)} {s : Shared} {E : Value → Shared → Prop}
  {scope : Scope} {cl : List (PySem.Str × Addr)}
theorem row_assign {f y x sx kx : PySem.Str} {p0 p1 p2 p3 p4 p5 p6 p7 p8 p9 p10 px py : Pos} {n0 n1 : Nat} {iter : Expr} {spos : Pos} {Q : Flow → Shared → Prop} {sc kc l : Addr} {so ko : Obj} {vs : List Value} {ns : List Int} {k : Int} {tk : Tok} {N : Nat}
    (hI : IntsAre vs ns) (hlen : ns.length ≤ 63) (hk0 : 0 ≤ k) (hk1 : k ≤ 11) (hN : N ≤ 7)
    (B : Below (Ard dp un gd env0 outer) base (env0 :: outer) h₀) (F : Fr h₀ L s.heap m) (Nw : News h₀ L s.heap news) (X : (hd.heap_39 w.params).In h₀) (T : Top hd.view_39 (looseW hd.view_39 LS) mean mg mb h₀) (hl : h₀.IsList l vs.toArray)
    (hD : dp + (1 + 1) < recursionLimit) (hU : un + (8 + 3) < cLine) (hf : env.frame = some L) (hke : env.scope.kind = .function) (hgl : env.globals = mainGlobals)
    (hsm : (sc, so) ∈ news) (hsd : so.data = .cell (some (.ref l))) (hkm : (kc, ko) ∈ news) (hkd : ko.data = .cell (some (.int k tk)))
    (hL : env.locals = L)
    (hsw : swapsWith (.ListComp (.Call (.Name f p0) [.Name sx p1, .BinOp (.BinOp (.BinOp (.Constant (.int 9) n0 p2) .Mult (.Name kx p3) p4) .Add (.Constant (.int 1) n1 p5) p6) .Add (.Name x p7) p8] [] p9) [⟨.Name x px, iter, [], 0⟩] scope p10) (some (.Name y py)) spos.line env = pure true)
    (hclos : closureFor scope env = pure cl) (hcell : ∀ y ∈ scope.names, y.2 ≠ .cell) (hkind : scope.kind = .function)
    (hnames : ∀ y ∈ scope.names, y.2 = .local → scope.names.lookup y.1 = some .local) (hx : scope.names.lookup x = some .local)
    (hy : env.kindOf y = some .local) (hp : (env.scope.kind == .class || (env.scope.kind == .module && env.locals != env.globals)) = false)
    (hsc : cl.lookup sx = some sc) (hsk : ∀ C, (compEnvC scope cl C env).kindOf sx = some .cell) (hkc : cl.lookup kx = some kc) (hkk : ∀ C, (compEnvC scope cl C env).kindOf kx = some .cell)
    (hfx : nsIn (hd.heap_39 w.params) mainGlobals f = some (some (.ref 68))) (hfk : ∀ C, (compEnvC scope cl C env).kindOf f = some .globalImplicit) (hkeep : keepIn (hd.heap_39 w.params) (.ref 68) = true)
    (d1 : (sx == ("__debug__" : Str)) = false) (d2 : (kx == ("__debug__" : Str)) = false) (d3 : (x == ("__debug__" : Str)) = false) (d4 : (f == ("__debug__" : Str)) = false)
    (hit : ∀ Q' : Value → Shared → Prop, (∀ h₁ tk₁ xv, Fr h₀ L h₁ m → News h₀ L h₁ news → Src PP w ((Ard dp un gd env0 outer).deeper env) E { s with heap := h₁, toks := tk₁ } xv (upTo N).length (IsI (upTo N)) → Q' xv { s with heap := h₁, toks := tk₁ }) → wpAny (model PP w) ((Ard dp un gd env0 outer).deeper env) (eval iter env) Q' E s)
    (h : ∀ D h' tk k' vs' rs, Fr h₀ L h' (fun z => if z = y then some (.ref D) else m z) → News h₀ L h' ((D, PySem.W.listOf (List.toArray vs') k') :: news) → (∀ p ∈ news, @Ne Nat p.1 D) → IntsAre vs' rs → rs.length ≤ 7 → Q .next { s with heap := h', toks := tk })
    (hs : ∀ x, foldedSetIterable iter env x = pure x := by intro _; rfl) :
    wpAny (model PP w) ((Ard dp un gd env0 outer).deeper env) (exec (.Assign [.Name y py] (.ListComp (.Call (.Name f p0) [.Name sx p1, .BinOp (.BinOp (.BinOp (.Constant (.int 9) n0 p2) .Mult (.Name kx p3) p4) .Add (.Constant (.int 1) n1 p5) p6) .Add (.Name x p7) p8] [] p9) [⟨.Name x px, iter, [], 0⟩] scope p10) spos) env) Q E s := by
  refine comp_assign (P := IsI (upTo N)) (n := (upTo N).length) (pI fun _ => true) (FI fun j => draw ns (9 * k + 1 + j)) hL hsw hclos hcell hkind hnames hx hy hp (by rw [upTo_length, sizeLine_eq]; omega) hit ?_ ?_ ?_ hs
  · intro C i v s₃ m₃ E' hP hns hm F₃ N₃
    obtain ⟨k, t, e, rfl⟩ := hP
    exact wpAny_pure ⟨rfl, s₃.heap, s₃.toks, rfl, fun _ _ e => e⟩
  · intro C i v s₃ m₃ E' hP hp hns hm F₃ N₃
    obtain ⟨j, t, e, rfl⟩ := hP
    have hj := mem_upTo (List.mem_of_getElem? e)
    refine Call_Name (ht := rfl) ?_
    refine LCgL.ld_global F₃ X T hfx ?_ hgl (by simp [compEnvC, relabel, hkind]) (hfk C) d4
    refine callWith_K X hkeep ?_
    refine spliced_more ?_
    refine c_free N₃ hsm hsd ?_ hsc hkind (hsk C) d1
    refine spliced_more ?_
    refine wpAny_BinOp (wpAny_BinOp (wpAny_BinOp (wpAny_Constant_int ?_)))
    refine c_free (s := { s₃ with toks := s₃.toks + 1 }) N₃ hkm hkd ?_ hkc hkind (hkk C) d2
    refine mul_int ?_ (IntMulOk.of_left (by decide))
    refine wpAny_Constant_int ?_
    refine add_int ?_
    refine c_loc (s := { s₃ with toks := _ }) hns hm ?_ hkind hx d3
    refine add_int ?_
    refine spliced_none ⟨X.keeps F₃.keep, ?_⟩
    refine use_call (c_draw w mean mg mb l vs ns _ _ hI hlen (by omega) (by omega)) B (s := { s₃ with toks := _ }) F₃ X N₃ T hf hke hD hU (by
      obtain ⟨o, a, b⟩ := hl
      exact ⟨o, F₃.keep _ _ a, b⟩) fun v h' tk' F' N' kk hv => ?_
    obtain ⟨u, rfl⟩ := hv
    exact ⟨⟨j, t, u, rfl, rfl⟩, h', tk', rfl, kk⟩
  · intro D h' tk k' ys vs' F' N' ne hl2 hP hF
    have hI' := ints_comp hl2 hP hF
    rw [List.filter_eq_self.mpr (fun _ _ => rfl)] at hI'
    exact h D h' tk k' ys.toList _ F' (by simpa using N') ne hI' (by rw [List.length_map, upTo_length]; exact hN)
end
end Mine
end

section
open PySem PySem.W PySem.Calls PyProof.Rows PyProof.V PySem.Spec
namespace Mine
section
variable {prog : Program} {w : World} {A : Around} {E : Value → Shared → Prop} {s : Shared} {env : Env} {h₀ : Heap} {L : Addr} {m : PySem.Str → Option Value} {news : List (Addr × Obj)}
  {scope : Scope} {cl : List (PySem.Str × Addr)}
theorem no_tests {C : Addr} {s₃ : Shared} {E' : Value → Shared → Prop} : wpAny (model prog w) A (testsOf [] (compEnvC scope cl C env)) (fun ok s₄ => ok = true ∧ Keeps s₃ s₄) E' s₃ := wpAny_pure ⟨rfl, s₃.heap, s₃.toks, rfl, fun _ _ e => e⟩
theorem all_true {ks : List Int} : ks.filter (fun _ => true) = ks := List.filter_eq_self.mpr (fun _ _ => rfl)
theorem mods_in (ks : List Int) : KBa.In (ks.map fun k => k.fmod 256) := fun n hn => by
  obtain ⟨k, _, rfl⟩ := List.mem_map.mp hn
  exact ⟨Int.fmod_nonneg_of_pos k (by decide), Int.fmod_lt_of_pos k (by decide)⟩
theorem byte_in (b : Array UInt8) : KBa.In (KBw.bInts b) := fun n hn => by
  obtain ⟨c, _, rfl⟩ := List.mem_map.mp hn
  have := c.toNat_lt
  constructor <;> omega
theorem sign_in {b : Array UInt8} {al : List Int} (hal : KBw.bInts b = al) (n : Nat) : 0 ≤ al.getD n 0 ∧ al.getD n 0 < 256 := by
  rw [List.getD_eq_getElem?_getD]
  cases h : al[n]? with
  | none => simp
  | some x => exact byte_in b x (hal ▸ List.mem_of_getElem? h)
theorem signs_in {b : Array UInt8} {al : List Int} (hal : KBw.bInts b = al) (ks : List Int) : KBa.In (ks.map fun j => al.getD j.toNat 0) := fun n hn => by
  obtain ⟨j, _, rfl⟩ := List.mem_map.mp hn
  exact sign_in hal _
theorem mod_eval {x : PySem.Str} {px p1 p2 p3 p4 : Pos} {n1 : Nat} {iter : Expr} {Q : Value → Shared → Prop} {xv : Value} {ks : List Int}
    (F : Fr h₀ L s.heap m) (N : News h₀ L s.heap news) (hsrc : Src prog w A E s xv ks.length (IsI ks)) (hn : ks.length ≤ 7)
    (hclos : closureFor scope env = pure cl) (hcell : ∀ y ∈ scope.names, y.2 ≠ .cell) (hkind : scope.kind = .function)
    (hnames : ∀ y ∈ scope.names, y.2 = .local → scope.names.lookup y.1 = some .local) (hx : scope.names.lookup x = some .local)
    (d1 : (x == ("__debug__" : Str)) = false)
    (hit : ∀ Q' : Value → Shared → Prop, Q' xv s → wpAny (model prog w) A (eval iter env) Q' E s)
    (h : ∀ D h' tk k vs os, Fr h₀ L h' m → News h₀ L h' ((D, PySem.W.listOf (List.toArray vs) k) :: news) → (∀ p ∈ news, @Ne Nat p.1 D) → IntsAre vs os → KBa.In os → os.length ≤ 7 → Q (.ref D) { s with heap := h', toks := tk })
    (hs : ∀ x, foldedSetIterable iter env x = pure x := by intro _; rfl) :
    wpAny (model prog w) A (eval (.ListComp (.BinOp (.Name x p1) .Mod (.Constant (.int 256) n1 p2) p3) [⟨.Name x px, iter, [], 0⟩] scope p4) env) Q E s := by
  refine comp_eval (pI fun _ => true) (FI fun k => k.fmod 256) hclos hcell hkind hnames hx (by rw [sizeLine_eq]; omega) (fun Q' hQ' => hit Q' (hQ' s.heap s.toks xv F N hsrc)) ?_ ?_ ?_ hs
  · intro C i v s₃ m₃ E' hP hns hm F₃ N₃
    obtain ⟨k, t, e, rfl⟩ := hP
    exact no_tests
  · intro C i v s₃ m₃ E' hP hp hns hm F₃ N₃
    obtain ⟨k, t, e, rfl⟩ := hP
    refine wpAny_BinOp ?_
    refine c_loc hns hm ?_ hkind hx d1
    refine wpAny_Constant_int ?_
    exact PyProof.Rows.mod_int (by decide) ⟨⟨k, t, _, rfl, rfl⟩, s₃.heap, _, rfl, fun _ _ e => e⟩
  · intro D h' tk k ys vs F' N' ne hl hP hF
    have hI := ints_comp hl hP hF
    rw [all_true] at hI
    exact h D h' tk k ys.toList _ F' (by simpa using N') ne hI (mods_in _) (by rw [List.length_map]; exact hn)
theorem rank_eval {x sx : PySem.Str} {px p1 p2 p3 p4 : Pos} {iter : Expr} {Q : Value → Shared → Prop} {xv : Value} {ks al : List Int} {b : Array UInt8} {tb : Tok} {sc : Addr} {so : Obj}
    (hal : KBw.bInts b = al) (hsz : al.length ≤ 1000) (hr : ∀ j ∈ ks, 0 ≤ j ∧ j < (al.length : Int))
    (F : Fr h₀ L s.heap m) (N : News h₀ L s.heap news) (hsm : (sc, so) ∈ news) (hsd : so.data = .cell (some (.bytes b tb))) (hsrc : Src prog w A E s xv ks.length (IsI ks)) (hn : ks.length ≤ 1000)
    (hclos : closureFor scope env = pure cl) (hcell : ∀ y ∈ scope.names, y.2 ≠ .cell) (hkind : scope.kind = .function)
    (hnames : ∀ y ∈ scope.names, y.2 = .local → scope.names.lookup y.1 = some .local) (hx : scope.names.lookup x = some .local)
    (hsc : cl.lookup sx = some sc) (hsk : ∀ C, (compEnvC scope cl C env).kindOf sx = some .cell) (d1 : (sx == ("__debug__" : Str)) = false) (d2 : (x == ("__debug__" : Str)) = false)
    (hit : ∀ Q' : Value → Shared → Prop, Q' xv s → wpAny (model prog w) A (eval iter env) Q' E s)
    (h : ∀ D h' tk k vs, Fr h₀ L h' m → News h₀ L h' ((D, PySem.W.listOf (List.toArray vs) k) :: news) → (∀ p ∈ news, @Ne Nat p.1 D) → IntsAre vs (ks.map fun j => al.getD j.toNat 0) → KBa.In (ks.map fun j => al.getD j.toNat 0) → (ks.map fun j => al.getD j.toNat 0).length = ks.length → Q (.ref D) { s with heap := h', toks := tk })
    (hs : ∀ x, foldedSetIterable iter env x = pure x := by intro _; rfl) :
    wpAny (model prog w) A (eval (.ListComp (.Subscript (.Name sx p1) (.Name x p2) p3) [⟨.Name x px, iter, [], 0⟩] scope p4) env) Q E s := by
  refine comp_eval (pI fun _ => true) (FI fun j => al.getD j.toNat 0) hclos hcell hkind hnames hx (by rw [sizeLine_eq]; omega) (fun Q' hQ' => hit Q' (hQ' s.heap s.toks xv F N hsrc)) ?_ ?_ ?_ hs
  · intro C i v s₃ m₃ E' hP hns hm F₃ N₃
    obtain ⟨k, t, e, rfl⟩ := hP
    exact no_tests
  · intro C i v s₃ m₃ E' hP hp hns hm F₃ N₃
    obtain ⟨k, t, e, rfl⟩ := hP
    obtain ⟨j0, j1⟩ := hr k (List.mem_of_getElem? e)
    refine Subscript_ ?_
    refine c_free N₃ hsm hsd ?_ hsc hkind (hsk C) d1
    refine c_loc hns hm ?_ hkind hx d2
    exact KBw.item_K hal (by omega) j0 (by exact_mod_cast j1) fun t' k' _ _ => ⟨⟨k, t, t', rfl, rfl⟩, s₃.heap, k', rfl, fun _ _ e => e⟩
  · intro D h' tk k ys vs F' N' ne hl hP hF
    have hI := ints_comp hl hP hF
    rw [all_true] at hI
    exact h D h' tk k ys.toList F' (by simpa using N') ne hI (signs_in hal _) (List.length_map ..)
theorem tab_assign {x y zx : PySem.Str} {p0 p1 p2 p3 p4 p5 p6 px py : Pos} {iter : Expr} {spos : Pos} {Q : Flow → Shared → Prop} {xv : Value} {ks : List Int} {n : Nat} {f : Int → Option Int} {zc d : Addr} {zo o : Obj}
    (D : DictI prog w n f o) (lo : (d == sysModules) = false) (F : Fr h₀ L s.heap m) (N : News h₀ L s.heap news) (hzm : (zc, zo) ∈ news) (hzd : zo.data = .cell (some (.ref d))) (hdm : h₀.get? d = some o)
    (hsrc : Src prog w A E s xv ks.length (IsI ks)) (hn : ks.length ≤ 1000)
    (hL : env.locals = L)
    (hsw : swapsWith (.ListComp (.Subscript (.Name zx p0) (.Name x p1) p2) [⟨.Name x px, iter, [.Compare (.Name x p3) [.In] [.Name zx p4] p5], 0⟩] scope p6) (some (.Name y py)) spos.line env = pure true)
    (hclos : closureFor scope env = pure cl) (hcell : ∀ y ∈ scope.names, y.2 ≠ .cell) (hkind : scope.kind = .function)
    (hnames : ∀ y ∈ scope.names, y.2 = .local → scope.names.lookup y.1 = some .local) (hx : scope.names.lookup x = some .local)
    (hy : env.kindOf y = some .local) (hp : (env.scope.kind == .class || (env.scope.kind == .module && env.locals != env.globals)) = false)
    (hzc : cl.lookup zx = some zc) (hzk : ∀ C, (compEnvC scope cl C env).kindOf zx = some .cell) (d1 : (x == ("__debug__" : Str)) = false) (d2 : (zx == ("__debug__" : Str)) = false)
    (hmk : behindInMarks .In (.Name zx p4) = false)
    (hit : ∀ Q' : Value → Shared → Prop, Q' xv s → wpAny (model prog w) A (eval iter env) Q' E s)
    (h : ∀ D' h' tk k vs rks, Fr h₀ L h' (fun z => if z = y then some (.ref D') else m z) → News h₀ L h' ((D', PySem.W.listOf (List.toArray vs) k) :: news) → (∀ p ∈ news, @Ne Nat p.1 D') → rks = ((ks.filter fun k => (f k).isSome).map fun k => (f k).getD 0) → IntsAre vs rks → rks.length ≤ ks.length → Q .next { s with heap := h', toks := tk })
    (hs : ∀ x, foldedSetIterable iter env x = pure x := by intro _; rfl) :
    wpAny (model prog w) A (exec (.Assign [.Name y py] (.ListComp (.Subscript (.Name zx p0) (.Name x p1) p2) [⟨.Name x px, iter, [.Compare (.Name x p3) [.In] [.Name zx p4] p5], 0⟩] scope p6) spos) env) Q E s := by
  refine comp_assign (pI fun k => (f k).isSome) (FI fun k => (f k).getD 0) hL hsw hclos hcell hkind hnames hx hy hp (by rw [sizeLine_eq]; omega) (fun Q' hQ' => hit Q' (hQ' s.heap s.toks xv F N hsrc)) ?_ ?_ ?_ hs
  · intro C i v s₃ m₃ E' hP hns hm F₃ N₃
    obtain ⟨k, t, e, rfl⟩ := hP
    refine wpAny_tests_one (wpAny_isTrue_Compare1 ?_ hmk)
    refine c_loc hns hm ?_ hkind hx d1
    refine c_free N₃ hzm hzd ?_ hzc hkind (hzk C) d2
    refine inD D lo (F₃.keep _ _ hdm) ?_
    refine wpAny_truthy_bool ?_
    exact ⟨rfl, s₃.heap, _, rfl, fun _ _ e => e⟩
  · intro C i v s₃ m₃ E' hP hp hns hm F₃ N₃
    obtain ⟨k, t, e, rfl⟩ := hP
    obtain ⟨u, hu⟩ := Option.isSome_iff_exists.mp (show (f k).isSome = true from hp)
    refine Subscript_ ?_
    refine c_free N₃ hzm hzd ?_ hzc hkind (hzk C) d2
    refine c_loc hns hm ?_ hkind hx d1
    refine itemD D lo (F₃.keep _ _ hdm) hu ?_
    intro t'
    exact ⟨⟨k, t, t', rfl, by show Value.int u t' = Value.int ((f k).getD 0) t'; rw [hu]; rfl⟩, s₃.heap, _, rfl, fun _ _ e => e⟩
  · intro D' h' tk k ys vs F' N' ne hl hP hF
    have hI := ints_comp hl hP hF
    exact h D' h' tk k ys.toList _ F' (by simpa using N') ne rfl hI (by rw [List.length_map]; exact List.length_filter_le _ _)
end
end Mine
end

section
open PySem PySem.W PySem.Calls PyProof.Rows PyProof.V PySem.Spec
namespace Mine
theorem call_ofCW {w : World} {mean : ExcName → Option Value} {mg mb : PySem.Str → Option Value}
    {name qual : PySem.Str} {params : Arguments} {body : List Stmt} {scope : Scope} {dV kV doc pm cdv ct oc : Value} {an od : Option Addr} {osl : Array (Option Value)} {f : Addr} {D U : Nat} {pos : List Value} {kw : List (PySem.Str × Value)} {binds : List (PySem.Str × Value)}
    {pre : Heap → Prop} {post : Heap → Value → Prop}
    (ho : (hd.heap_39 w.params).lookup f = some ⟨oc, od, .func (fnOf name qual params body scope dV kV doc pm an cdv ct), osl⟩) (hcd : codeIn (hd.heap_39 w.params) cdv qual = true)
    (hbind : ∀ s : Shared, (hd.heap_39 w.params).In s.heap → BindsTo s (fnOf name qual params body scope dV kV doc pm an cdv ct) ⟨pos, kw⟩ binds)
    (hkind : ∀ n, ∀ x ∈ binds, scope.names.lookup x.1 = some .local ∨ (scope.names.lookup x.1 = some .cell ∧ ((cellsFrom n scope.names []).lookup x.1).isSome = true))
    (hnd : ((cellsFrom 0 scope.names []).map (·.1)).Nodup)
    (hco : scope.isCoroutine = false) (hgen : scope.isGenerator = false) (hk : scope.kind = .function)
    (h : ∀ (dp un : Nat) (gd : Option (List Code)) (env : Env) (outer : List Env) (base : Heap) (s : Shared) (L : Addr) (h₁ : Heap) (tk : Nat) (cells : List (Addr × Obj)),
      dp + D < recursionLimit → un + U < cLine → Below (Ard dp un gd env outer) base (env :: outer) s.heap → (hd.heap_39 w.params).In base → Top hd.view_39 (looseW hd.view_39 LS) mean mg mb base → (hd.heap_39 w.params).In s.heap → Top hd.view_39 (looseW hd.view_39 LS) mean mg mb s.heap → KtsDicts ((env :: outer).filterMap (·.frame)) s.heap → pre s.heap →
      Fr s.heap L h₁ (bindL (envOfC qual scope L f cdv).kindOf binds fun _ => none) → News s.heap L h₁ cells →
      CellsAre (bindC (envOfC qual scope L f cdv).kindOf binds fun _ => none) (cellsFrom (L + 1) scope.names []) cells →
      wpAny (model PP w) ((Ard dp un gd env outer).deeper (envOfC qual scope L f cdv)) (execs body (envOfC qual scope L f cdv))
        (BackW ((env :: outer).filterMap (·.frame)) s post) (fun _ _ => False) { s with heap := h₁, toks := tk }) : CallW w mean mg mb f D U pos kw pre post := by
  intro dp un gd env outer base s Q E hD hU B XB TB X T KD hpre hQ
  refine wpAny_call ?_
  refine codeAny_call_function (fd := fnOf name qual params body scope dV kV doc pm an cdv ct) (Nat.lt_of_le_of_lt (Nat.le_add_right _ _) hD) (X _ _ ho) rfl hco hgen rfl (codeRec_of X hcd) (hbind s X _ _ _ _ ?_)
  refine wpAny_newFunctionEnv_cells hk (hkind _) fun env' he s' x => ?_
  subst he
  refine ⟨T.nolimit.keeps x.toInCall.keep, codeAny_func ?_⟩
  obtain ⟨h₁, tk, rfl, _⟩ := x.done
  have hk₁ := x.toInCall.keep
  obtain ⟨cells, NC, Y⟩ := Cl.news (h₀ := s.heap) (Nat.le_refl _) fun n c hm => ⟨x.cell n c (lookup_of_mem_nodup (cellsFrom_names scope.names 0 (s.heap.objs.size + 1) [] [] rfl ▸ hnd) hm), x.above n c hm⟩
  refine wpAny_mono (h dp un gd env outer base s _ h₁ tk cells hD hU B XB TB X T KD hpre ⟨x.toInCall.ns, hk₁, Nat.le_refl _⟩ NC Y) (fun fl s' hl => ?_) fun _ _ y => y.elim
  obtain ⟨g', h', tk', rfl, T', hk', hp⟩ := hl
  exact hQ _ h' g' tk' T' hk' hp
theorem fmod8 (x : Int) : x.fmod 8 = ((x.fmod 8).toNat : Int) := by
  have := Int.fmod_nonneg_of_pos x (b := 8) (by decide)
  omega
theorem fmod8_le (x : Int) : (x.fmod 8).toNat ≤ 7 := by
  have := Int.fmod_lt_of_pos x (b := 8) (by decide)
  omega
theorem fmod3 (x : Int) : 0 ≤ x.fmod 3 ∧ x.fmod 3 < 3 := ⟨Int.fmod_nonneg_of_pos x (by decide), Int.fmod_lt_of_pos x (by decide)⟩
theorem cases3 {i : Int} (h0 : 0 ≤ i) (h1 : i < 3) : i = 0 ∨ i = 1 ∨ i = 2 := by omega
section
variable {prog : Program} {w : World} {A : Around} {E : Value → Shared → Prop} {s : Shared}
theorem item3 {value slice : Expr} {a : Addr} {v : Int → Value} {i : Int} {t : Tok} {Q : Value → Shared → Prop} (ha : s.heap.get? a = some (tup3 (v 0) (v 1) (v 2))) (h0 : 0 ≤ i) (h1 : i < 3) (h : Q (v i) s)
    (hs : ∀ i, subscripted slice false (.ref a) (.int i t) = operate [.ref a, .int i t] (getItem (.ref a) (.int i t)) := by intro _; with_unfolding_all rfl) (hg : ∀ r, letTemporaryGo value (.ref a) r = pure () := by intro _; with_unfolding_all rfl) :
    wpAny (model prog w) A (subscriptTail value slice (.ref a) (.int i t)) Q E s := by
  have hT : IsTup s.heap a #[v 0, v 1, v 2] := ⟨_, ha, rfl, _, rfl⟩
  rcases cases3 h0 h1 with rfl | rfl | rfl
  · exact item_tuple (j := 0) hT (by decide) (by decide) (by rfl) rfl h (hs _) hg
  · exact item_tuple (j := 1) hT (by decide) (by decide) (by rfl) rfl h (hs _) hg
  · exact item_tuple (j := 2) hT (by decide) (by decide) (by rfl) rfl h (hs _) hg
theorem itemL3 {value slice : Expr} {a : Addr} {v : Int → Value} {n : Nat} {i : Int} {t : Tok} {Q : Value → Shared → Prop} (ha : s.heap.get? a = some (PySem.W.listOf #[v 0, v 1, v 2] n)) (h0 : 0 ≤ i) (h1 : i < 3) (h : Q (v i) s)
    (hs : ∀ i, subscripted slice false (.ref a) (.int i t) = operate [.ref a, .int i t] (getItem (.ref a) (.int i t)) := by intro _; with_unfolding_all rfl) (hg : ∀ r, letTemporaryGo value (.ref a) r = pure () := by intro _; with_unfolding_all rfl) :
    wpAny (model prog w) A (subscriptTail value slice (.ref a) (.int i t)) Q E s := by
  have hT : s.heap.IsList a #[v 0, v 1, v 2] := ⟨_, ha, rfl, _, rfl⟩
  rcases cases3 h0 h1 with rfl | rfl | rfl
  · exact item_list hT (by decide) (by decide) rfl h (hs _) hg
  · exact item_list hT (by decide) (by decide) rfl h (hs _) hg
  · exact item_list hT (by decide) (by decide) rfl h (hs _) hg
theorem item2 {value slice : Expr} {a : Addr} {x y : Value} {b : Bool} {t : Tok} {Q : Value → Shared → Prop} (ha : s.heap.get? a = some (tup2 x y)) (h : Q (if b = true then y else x) s)
    (hs : ∀ i, subscripted slice false (.ref a) (.int i t) = operate [.ref a, .int i t] (getItem (.ref a) (.int i t)) := by intro _; with_unfolding_all rfl) (hg : ∀ r, letTemporaryGo value (.ref a) r = pure () := by intro _; with_unfolding_all rfl) :
    wpAny (model prog w) A (subscriptTail value slice (.ref a) (.int (if b = true then 1 else 0) t)) Q E s := by
  have hT : IsTup s.heap a #[x, y] := ⟨_, ha, rfl, _, rfl⟩
  cases b with
  | true => exact item_tuple (j := 1) hT (by decide) (by decide) (by rfl) rfl h (hs _) hg
  | false => exact item_tuple (j := 0) hT (by decide) (by decide) (by rfl) rfl h (hs _) hg
theorem ints_rep (a : Int) (t : Tok) : ∀ n : Nat, IntsAre (List.replicate n [Value.int a t]).flatten (List.replicate n a)
  | 0 => .nil
  | n + 1 => by
    rw [List.replicate_succ, List.flatten_cons, List.replicate_succ]
    exact .cons a t (ints_rep a t n)
theorem rep_one {h₀ : Heap} {L l : Addr} {m : PySem.Str → Option Value} {news : List (Addr × Obj)} {a : Int} {t u : Tok} {n : Nat} {Q : Value → Shared → Prop} (F : Fr h₀ L s.heap m) (N : News h₀ L s.heap news) (hl : s.heap.IsList l [Value.int a t].toArray) (hn : n ≤ 200)
    (h : ∀ D h' ws, Fr h₀ L h' m → News h₀ L h' ((D, PySem.W.listOf (List.toArray ws) 0) :: news) → (∀ p ∈ news, p.1 < D) → IntsAre ws (List.replicate n a) → Q (.ref D) { s with heap := h' }) : wpAny (model prog w) A (binaryOp .Mult (.ref l) (.int (n : Int) u)) Q E s :=
  KMa.mul F N hl (by omega) (by omega) (by simp only [List.length_cons, List.length_nil, Int.toNat_natCast]; omega) rfl fun D h' F' N' lt => h D h' _ F' N' lt (by rw [Int.toNat_natCast]; exact ints_rep a t n)
theorem one_zero {test : Expr} {env : Env} {k1 k2 : Nat} {p1 p2 pos : Pos} {b : Bool} {Q : Value → Shared → Prop}
    (ht : wpAny (model prog w) A (isTrue test env (eval test env)) (fun r s₁ => r = b ∧ s₁ = s) E s) (h : ∀ u, Q (.int (if b = true then 1 else 0) u) { s with toks := s.toks + 1 }) :
    wpAny (model prog w) A (eval (.IfExp test (.Constant (.int 1) k1 p1) (.Constant (.int 0) k2 p2) pos) env) Q E s := by
  refine wpAny_IfExp (wpAny_mono ht (fun r s₁ hr => ?_) fun _ _ e => e)
  obtain ⟨rfl, rfl⟩ := hr
  cases r with
  | true => exact wpAny_Constant_int (h _)
  | false => exact wpAny_Constant_int (h _)
end
end Mine
end

section
open PySem PySem.W PySem.Calls PyProof.Rows PyProof.V PySem.Spec
namespace Mine
theorem in_app {a b : List Int} (h1 : KBa.In a) (h2 : KBa.In b) : KBa.In (a ++ b) := fun n hn => (List.mem_append.mp hn).elim (h1 n) (h2 n)
theorem in_rep {x : Int} {n : Nat} (h0 : 0 ≤ x) (h1 : x < 256) : KBa.In (List.replicate n x) := fun y hy => by rw [List.eq_of_mem_replicate hy]; exact ⟨h0, h1⟩
theorem bInts_inj {a b : Array UInt8} (h : KBw.bInts a = KBw.bInts b) : a.toList = b.toList := by
  have h' : a.toList.map (fun c => ((c.toNat : Nat) : Int)) = b.toList.map (fun c => ((c.toNat : Nat) : Int)) := h
  generalize a.toList = x at *
  generalize b.toList = y at *
  induction x generalizing y with
  | nil => cases y with
    | nil => rfl
    | cons _ _ => simp at h'
  | cons c r ih => cases y with
    | nil => simp at h'
    | cons d q =>
      rw [List.map_cons, List.map_cons] at h'
      injection h' with h1 h2
      rw [ih _ h2]
      congr 1
      exact UInt8.toNat_inj.mp (by exact_mod_cast h1)
theorem bytes_same {b : Array UInt8} {o ns : List Int} (h1 : KBw.bInts b = o) (hr : KBa.In ns) (e : o = ns) : Value.bool (b.toList == (byteArr ns).toList) = .bool true := by
  have h2 : KBw.bInts b = KBw.bInts (byteArr ns) := by rw [h1, e, KBa.ints_make hr]
  rw [bInts_inj h2]
  simp
theorem bytes_one {b : Array UInt8} {o : List Int} {x : Int} (h1 : KBw.bInts b = o) (h0 : 0 ≤ x) (h3 : x < 256) (e : o = [x]) : Value.bool (b.toList == [x.toNat.toUInt8]) = .bool true :=
  bytes_same (ns := [x]) h1 (fun n hn => by rw [List.mem_singleton.mp hn]; exact ⟨h0, h3⟩) e
theorem canon_rev {b v : Int} {r q : List Int} (hb : 2 ≤ b) (h1 : Canon b r.reverse v) (h2 : Canon b q.reverse v) : r = q := by
  have := congrArg List.reverse (Canon.one hb h1 h2)
  simpa using this
theorem canon_zero {b v : Int} {r : List Int} (hb : 2 ≤ b) (h : Canon b r.reverse v) : r = [] ↔ v = 0 := by
  constructor
  · rintro rfl
    have := h.2.1
    simp [le] at this
    exact this.symm
  · rintro rfl
    exact canon_rev hb h (by simpa using Canon.nil b)
theorem deed0 {al os o r : List Int} {n : Nat} (h : EncodeIs al os o) (hn : n = noughts os) (hc : Canon 58 r.reverse (num 256 os)) : o = List.replicate n (al.getD (Int.toNat 0) 0) ++ r.map fun j => al.getD j.toNat 0 := by
  obtain ⟨q, h1, h2⟩ := h
  rw [h2, hn, canon_rev (by decide) h1 hc]
  rfl
theorem deed1a {al os o r : List Int} {d : Bool} (h : EncOut al d (num 256 os) o) (hc : Canon 58 r.reverse (num 256 os)) (hr : 0 < r.length) : o = r.map fun j => al.getD j.toNat 0 := by
  obtain ⟨q, h1, h2⟩ := h
  rw [if_neg (fun x => by rw [(canon_zero (by decide) hc).mpr x.1] at hr; simp at hr)] at h2
  rw [h2, canon_rev (by decide) h1 hc]
theorem deed1b {al os o r : List Int} {x : Int} (h58 : al.length = 58) (h : EncOut al (x == 1) (num 256 os) o) (hc : Canon 58 r.reverse (num 256 os)) (hr : ¬ 0 < r.length) (hx : x = 1) : o = [al.getD (Int.toNat 0) 0] := by
  obtain ⟨q, h1, h2⟩ := h
  have hr' : r = [] := List.eq_nil_of_length_eq_zero (by omega)
  rw [if_pos ⟨(canon_zero (by decide) hc).mp hr', by simp [hx]⟩] at h2
  rw [h2]
  cases al with
  | nil => simp at h58
  | cons y l => rfl
theorem deed1c {al os o r : List Int} {x : Int} (h : EncOut al (x == 1) (num 256 os) o) (hc : Canon 58 r.reverse (num 256 os)) (hx : x ≠ 1) : o = r.map fun j => al.getD j.toNat 0 := by
  obtain ⟨q, h1, h2⟩ := h
  rw [if_neg (fun z => hx (by simpa using z.2))] at h2
  rw [h2, canon_rev (by decide) h1 hc]
end Mine
end

section
open PySem PySem.W PySem.Calls PyProof.Rows PyProof.V PySem.Spec
namespace Mine
local macro_rules | `(tactic| walk_at "pad C_deedA 0") => `(tactic| skip)
local macro_rules | `(tactic| walk_at "pad C_deedA 1") => `(tactic| skip)
local macro_rules | `(tactic| walk_at "pad C_deedA 2") => `(tactic| skip)
local macro_rules | `(tactic| walk_at "pad C_deedA 3") => `(tactic| skip)
local macro_rules | `(tactic| walk_at "pad C_deedA 4") => `(tactic| skip)
local macro_rules | `(tactic| walk_at "pad C_deedA 5") => `(tactic| skip)
local macro_rules | `(tactic| walk_at "pad C_deedA 6") => `(tactic| skip)
local macro_rules | `(tactic| walk_at "pad C_deedA 7") => `(tactic| skip)
local macro_rules | `(tactic| walk_at "pad C_deedA 8") => `(tactic| skip)
local macro_rules | `(tactic| walk_at "pad C_deedA 9") => `(tactic| skip)
local macro_rules | `(tactic| walk_at "pad C_deedA 10") => `(tactic| skip)
local macro_rules | `(tactic| walk_at "pad C_deedA 11") => `(tactic| skip)
local macro_rules | `(tactic| walk_at "pad C_deedA 12") => `(tactic| skip)
local macro_rules | `(tactic| walk_at "pad C_deedA 13") => `(tactic| skip)
local macro_rules | `(tactic| walk_at "pad C_deedA 14") => `(tactic| skip)
local macro_rules | `(tactic| walk_at "pad C_deedA 15") => `(tactic| skip)
local macro_rules | `(tactic| walk_at "pad C_deedA 16") => `(tactic| skip)
local macro_rules | `(tactic| walk_at "pad C_deedA 17") => `(tactic| skip)

theorem list_keep {g h : Heap} {L l : Addr} {m : PySem.Str → Option Value} {vs : Array Value} (F : Fr g L h m) (x : g.IsList l vs) : h.IsList l vs := let ⟨o, a, r⟩ := x; ⟨o, F.keep _ _ a, r⟩
theorem filled_deedA (w : World) : Challenge.rw_eg5004_01.row.prog = Challenge.rw_eg5004_01.row.prog ∧ hd.heap_39 w.params = hd.heap_39 w.params := by
  k_fill
  exact ⟨rfl, rfl⟩
variable (w : World) (mean : ExcName → Option Value) (mg mb : PySem.Str → Option Value)
local macro_rules | `(tactic| walk_at "my_use") => `(tactic| (
  (case ua1 => k_asm); (case ua2 => k_asm); (case ua3 => k_asm); (case ua4 => k_asm); (case ua5 => k_asm); (case ua6 => exact rfl); (case ua7 => exact rfl); (case ua8 => omega); (case ua9 => omega)))
local macro_rules | `(tactic| walk_at "my_after") => `(tactic| ((try dsimp only); (try k_fold); (try k_sweep)))
local macro_rules | `(tactic| walk_at "my_openC") => `(tactic| (
  (case k1 => k_is)
  (case k2 => k_is)
  (case k3 => (intro sX XX; first | exact BindsTo.of_eq rfl | exact binds_K XX rfl (by k_is) rfl rfl rfl))
  (case k4 => exact kinds_of' rfl)
  (case k5 => decide +kernel)
  (case k6 => exact rfl)
  (case k7 => exact rfl)
  (case k8 => exact rfl)))
local macro_rules | `(tactic| walk_at "my_at") => `(tactic| first | (refine' News.get ?mya1 ?mya2; (case mya1 => k_asm); (case mya2 => k_mem)) | (refine' Fr.keep ?mya1 _ _ ?mya2; (case mya1 => k_asm); (case mya2 => assumption)))
local macro_rules | `(tactic| walk_at "my_list") => `(tactic| first | (refine' News.isList ?mya1 ?mya2; (case mya1 => k_asm); (case mya2 => k_mem)) | (refine' list_keep ?mya1 ?mya2; (case mya2 => assumption); (case mya1 => k_asm)))
local macro_rules | `(tactic| walk_at "my_id") => `(tactic| (intro myQ hmyQ; k_steps; exact hmyQ))
local macro_rules | `(tactic| walk_at "my_simp") => `(tactic| skip)
theorem Call.mono {w : World} {mean : ExcName → Option Value} {mg mb : PySem.Str → Option Value} {f : Addr} {D U : Nat} {pos : List Value} {kw : List (PySem.Str × Value)} {pre pre' : Heap → Prop} {post post' : Heap → Heap → Value → Prop} (C : Call w mean mg mb f D U pos kw pre post) (h1 : ∀ h, pre' h → pre h) (h2 : ∀ g h v, post g h v → post' g h v) : Call w mean mg mb f D U pos kw pre' post' :=
  fun dp un gd env outer base s Q E hD hU B X T hp hQ => C dp un gd env outer base s Q E hD hU B X T (h1 _ hp) fun v h' tk' k p => hQ v h' tk' k (h2 _ _ _ p)
theorem canon_len {b v : Int} {l : List Int} (hb : 2 ≤ b) (h : Canon b l v) (hv : v < 2 ^ 60) : l.length ≤ 60 := by
  by_cases hn : l = []
  · simp [hn]
  have h1 := le_top (by omega) h.1 hn h.2.2
  rw [h.2.1] at h1
  have h2 : (2 : Int) ^ (l.length - 1) ≤ b ^ (l.length - 1) := by
    generalize l.length - 1 = n
    induction n with
    | zero => simp
    | succ n ih =>
      rw [Int.pow_succ, Int.pow_succ]
      have p := pow_pos' (b := 2) (by decide) n
      exact Int.mul_le_mul ih hb (by decide) (by omega)
  have h3 : (2 : Int) ^ (l.length - 1) < 2 ^ 60 := by omega
  have h4 : (2 : Nat) ^ (l.length - 1) < 2 ^ 60 := by exact_mod_cast h3
  have := (Nat.pow_lt_pow_iff_right (by decide)).mp h4
  omega
theorem num_small7 {b : Int} {l : List Int} (hb : 2 ≤ b) (hb1 : b ≤ 256) (hl : l.length ≤ 7) (h : ∀ d ∈ l, 0 ≤ d ∧ d < b) : 0 ≤ num b l ∧ num b l < 2 ^ 60 := by
  obtain ⟨a, c⟩ := num_lt (by omega) h
  refine ⟨a, Int.lt_of_lt_of_le c ?_⟩
  have h1 : b ^ l.length ≤ 256 ^ l.length := by
    generalize l.length = n
    induction n with
    | zero => simp
    | succ n ih =>
      rw [Int.pow_succ, Int.pow_succ]
      have p := pow_pos' (b := b) (by omega) n
      exact Int.mul_le_mul ih hb1 (by omega) (by omega)
  have h2 : (256 : Nat) ^ l.length ≤ 256 ^ 7 := Nat.pow_le_pow_right (by decide) hl
  have h3 : (256 : Int) ^ l.length ≤ 256 ^ 7 := by exact_mod_cast h2
  have h4 : (256 : Int) ^ 7 ≤ 2 ^ 60 := by decide
  omega
theorem oct_bound {os : List Int} (h : KBa.In os) (hl : os.length ≤ 7) : 0 ≤ num 256 os ∧ num 256 os < 2 ^ 100 := by
  have := num_small7 (b := 256) (by decide) (by decide) hl h
  omega
def CarR (new v : Int) (o : Obj) : Prop := ∃ vs r n, o = PySem.W.listOf (List.toArray vs) n ∧ IntsAre vs r ∧ Canon new r.reverse v ∧ r.length ≤ 60 ∧ ∀ j ∈ r, 0 ≤ j ∧ j < new
theorem carR {g h : Heap} {v : Value} {old new : Int} {ks : List Int} (hl : ks.length ≤ 7) (ho0 : 2 ≤ old) (ho1 : old ≤ 256) (hn0 : 2 ≤ new) (hr : ∀ k ∈ ks, 0 ≤ k ∧ k < old) (x : ∃ D vs r n, v = .ref D ∧ g.get? D = none ∧ h.get? D = some (PySem.W.listOf (List.toArray vs) n) ∧ IntsAre vs r ∧ Canon new r.reverse (num old ks)) :
    ∃ D o, v = .ref D ∧ g.get? D = none ∧ h.get? D = some o ∧ CarR new (num old ks) o := by
  obtain ⟨D, vs, r, n, e1, e2, e3, e4, e5⟩ := x
  have hs := num_small7 ho0 ho1 hl hr
  refine ⟨D, _, e1, e2, e3, vs, r, n, rfl, e4, e5, ?_, fun j hj => e5.1 j (List.mem_reverse.mpr hj)⟩
  have := canon_len hn0 e5 hs.2
  rwa [List.length_reverse] at this
theorem noughts_le (ks : List Int) : noughts ks ≤ ks.length := by
  have := noughts_len ks
  have := dropWhile_len (fun x => decide (x = 0)) ks
  omega
theorem c_nouB (l : Array UInt8) (ks : List Int) (hk : KBw.bInts l = ks) (t : Tok) (hlen : ks.length ≤ 200) :
    Call w mean mg mb 82 1 8 [.bytes l t] [] (fun h => True) (fun _ _ v => ∃ n t, v = .int ((n : Nat) : Int) t ∧ n = noughts ks ∧ n ≤ ks.length) :=
  (c_noughts_b w mean mg mb l ks hk t (by omega)).mono (fun _ h => h) fun g h v ⟨t, e⟩ => ⟨_, t, e, rfl, noughts_le ks⟩
theorem c_nouL (l : Addr) (vs : List Value) (ks : List Int) (hk : IntsAre vs ks) (hlen : ks.length ≤ 200) :
    Call w mean mg mb 82 1 8 [.ref l] [] (fun h => h.IsList l vs.toArray) (fun _ _ v => ∃ n t, v = .int ((n : Nat) : Int) t ∧ n = noughts ks ∧ n ≤ ks.length) :=
  (c_noughts_l w mean mg mb l vs ks hk (by omega)).mono (fun _ h => h) fun g h v ⟨t, e⟩ => ⟨_, t, e, rfl, noughts_le ks⟩
theorem c_carB (l : Array UInt8) (ks : List Int) (hk : KBw.bInts l = ks) (t t1 t2 : Tok) (hlen : ks.length ≤ 7) (old new : Int) (ho0 : 2 ≤ old) (ho1 : old ≤ 256) (hn0 : 2 ≤ new) (hn1 : new ≤ 256) (hr : ∀ k ∈ ks, 0 ≤ k ∧ k < old) :
    Call w mean mg mb 75 1 8 [.bytes l t, .int old t1, .int new t2] [] (fun h => True) (fun g h v => ∃ D o, v = .ref D ∧ g.get? D = none ∧ h.get? D = some o ∧ CarR new (num old ks) o) :=
  (c_carried_b w mean mg mb l ks hk t t1 t2 (by omega) old new ho0 ho1 hn0 hn1 hr).mono (fun _ h => h) fun g h v x => carR hlen ho0 ho1 hn0 hr x
theorem c_carL (l : Addr) (us : List Value) (ks : List Int) (hk : IntsAre us ks) (t1 t2 : Tok) (hlen : ks.length ≤ 7) (old new : Int) (ho0 : 2 ≤ old) (ho1 : old ≤ 256) (hn0 : 2 ≤ new) (hn1 : new ≤ 256) (hr : ∀ k ∈ ks, 0 ≤ k ∧ k < old) :
    Call w mean mg mb 75 1 8 [.ref l, .int old t1, .int new t2] [] (fun h => h.IsList l us.toArray) (fun g h v => ∃ D o, v = .ref D ∧ g.get? D = none ∧ h.get? D = some o ∧ CarR new (num old ks) o) :=
  (c_carried_l w mean mg mb l us ks hk t1 t2 (by omega) old new ho0 ho1 hn0 hn1 hr).mono (fun _ h => h) fun g h v x => carR hlen ho0 ho1 hn0 hr x

theorem rank_lt {al r : List Int} (h : al.length = 58) (x : ∀ j ∈ r, 0 ≤ j ∧ j < 58) : ∀ j ∈ r, 0 ≤ j ∧ j < (al.length : Int) := by rw [h]; exact x
theorem itemB3 {prog : Program} {w : World} {A : Around} {E : Value → Shared → Prop} {s : Shared} {value slice : Expr} {a : Addr} {bs : Int → Array UInt8} {ts : Int → Tok} {b : Array UInt8} {tb : Tok} {i : Int} {t : Tok} {Q : Value → Shared → Prop} (ha : s.heap.get? a = some (tup3 (.bytes (bs 0) (ts 0)) (.bytes (bs 1) (ts 1)) (.bytes (bs 2) (ts 2)))) (h0 : 0 ≤ i) (h1 : i < 3) (hb : bs i = b) (ht : ts i = tb) (h : Q (.bytes b tb) s)
    (hs : ∀ i, subscripted slice false (.ref a) (.int i t) = operate [.ref a, .int i t] (getItem (.ref a) (.int i t)) := by intro _; with_unfolding_all rfl) (hg : ∀ r, letTemporaryGo value (.ref a) r = pure () := by intro _; with_unfolding_all rfl) :
    wpAny (model prog w) A (subscriptTail value slice (.ref a) (.int i t)) Q E s := by
  subst hb ht
  exact item3 (v := fun i => .bytes (bs i) (ts i)) ha h0 h1 h hs hg


local macro_rules | `(tactic| walk_at "call ref") => `(tactic| (k_here; (with_reducible show wpAny _ _ (call (Value.ref 68) [_, _] _) _ _ _); k_dflt (refine' use_call (c_draw _ _ _ _ _ _ _ _ _ ?uh1 ?uh2 ?uh3 ?uh4) ?ua1 ?ua2 ?ua3 ?ua4 ?ua5 ?ua6 ?ua7 ?ua8 ?ua9 ?uap ?_; walk_at "my_use"; (case uh1 => assumption); (case uh2 => assumption); (case uap => ((try dsimp only); walk_at "my_list")); (case uh3 => omega); (case uh4 => omega)); intro _ _ _ F' N' kK' hP'; obtain ⟨u', hP'⟩ := hP'; subst hP'; walk_at "my_after"))
local macro_rules | `(tactic| walk_at "call ref") => `(tactic| (k_here; (with_reducible show wpAny _ _ (call (Value.ref 75) [Value.bytes _ _, _, _] _) _ _ _); k_dflt (refine' use_callD (c_carB _ _ _ _ _ _ ?uh1 _ _ _ ?uh2 _ _ ?uh3 ?uh4 ?uh5 ?uh6 ?uh7) ?ua1 ?ua2 ?ua3 ?ua4 ?ua5 ?ua6 ?ua7 ?ua8 ?ua9 ?uap ?_; walk_at "my_use"; (case uap => trivial); (case uh1 => kba_ints2); (case uh2 => kba_size); (case uh3 => decide); (case uh4 => decide); (case uh5 => decide); (case uh6 => decide); (case uh7 => assumption)); intro myD myo h' tk' F' N' myNe myR; obtain ⟨myVs, myRs, myN, myEq, myI, myC, myL, myIn⟩ := myR; subst myEq; (simp only [List.forall_mem_cons, List.not_mem_nil, false_implies, implies_true, and_true] at myNe); walk_at "my_after"))
local macro_rules | `(tactic| walk_at "call ref") => `(tactic| (k_here; (with_reducible show wpAny _ _ (call (Value.ref 82) [Value.bytes _ _] _) _ _ _); k_dflt (refine' use_call (c_nouB _ _ _ _ _ _ ?uh1 _ ?uh2) ?ua1 ?ua2 ?ua3 ?ua4 ?ua5 ?ua6 ?ua7 ?ua8 ?ua9 ?uap ?_; walk_at "my_use"; (case uap => trivial); (case uh1 => kba_ints2); (case uh2 => kba_size)); intro _ _ _ F' N' kK' hP'; obtain ⟨myNo, u', hP', myNe1, myNe2⟩ := hP'; subst hP'; walk_at "my_after"))
local macro_rules | `(tactic| walk_at "call ref") => `(tactic| (k_here; (with_reducible show wpAny _ _ (call (Value.ref 37) [_, _] _) _ _ _); k_dflt (refine' use_call (b_encode _ _ _ _ _ _ _ _ ?uh1 ?uh2 ?uh3 _ _ ?uh4) ?ua1 ?ua2 ?ua3 ?ua4 ?ua5 ?ua6 ?ua7 ?ua8 ?ua9 ?uap ?_; walk_at "my_use"; (case uap => trivial); (case uh1 => kba_ints2); (case uh2 => assumption); (case uh3 => assumption); (case uh4 => kba_size)); intro _ _ _ F' N' kK' hP'; obtain ⟨myBb, myBt, myBo, hP', myB1, myB2, myB3⟩ := hP'; subst hP'; walk_at "my_after"))
local macro_rules | `(tactic| walk_at "call ref") => `(tactic| (k_here; (with_reducible show wpAny _ _ (call (Value.ref 29) [_, _, _] _) _ _ _); k_dflt (refine' use_call (b_encode_int _ _ _ _ _ _ ?uh2 ?uh3 _ _ _ _ ?uh4 ?uh5) ?ua1 ?ua2 ?ua3 ?ua4 ?ua5 ?ua6 ?ua7 ?ua8 ?ua9 ?uap ?_; walk_at "my_use"; (case uap => trivial); (case uh2 => assumption); (case uh3 => assumption); (case uh4 => exact (oct_bound (by assumption) (by assumption)).1); (case uh5 => exact (oct_bound (by assumption) (by assumption)).2)); intro _ _ _ F' N' kK' hP'; obtain ⟨myBb, myBt, myBo, hP', myB1, myB2, myB3⟩ := hP'; subst hP'; walk_at "my_after"))
local macro_rules | `(tactic| walk_at "subscriptTail") => `(tactic| (k_here; (with_reducible show wpAny _ _ (subscriptTail _ _ (Value.ref _) (Value.int _ _)) _ _ _); k_dflt (refine' itemB3 ?xc1 ?xc2 ?xc3 ?xc4 ?xc5 ?_; (case xc1 => walk_at "my_at"); (case xc2 => exact (fmod3 _).1); (case xc3 => exact (fmod3 _).2); (case xc4 => assumption); (case xc5 => assumption))))
local macro_rules | `(tactic| walk_at "my_src") => `(tactic| (intro myQ hmyQ; k_steps; refine' hmyQ _ _ _ ?mys1 ?mys2 ?mys3; (case mys1 => k_asm); (case mys2 => k_asm); (case mys3 => (refine' src_rangeI ?mys4 ?mys5 ?mys6 ?mys7; (case mys4 => assumption); (case mys5 => exact fmod8 _); (case mys6 => (refine Nat.le_trans (fmod8_le _) ?_; decide)); (case mys7 => rfl)))))
local macro_rules | `(tactic| walk_at "exec Assign cons ListComp") => `(tactic| (k_here; (with_reducible show wpAny _ _ (exec (Stmt.Assign _ (Expr.ListComp (Expr.Call _ _ _ _) _ _ _) _) _) _ _ _); k_dflt (refine' row_assign ?r1 ?r2 ?r3 ?r4 ?r5 ?r6 ?r7 ?r8 ?r9 ?r10 ?r11 ?r12 ?r13 ?r14 ?r15 ?r16 ?r17 ?r18 ?r19 ?r20 ?r21 ?r22 ?r23 ?r24 ?r25 ?r26 ?r27 ?r28 ?r29 ?r30 ?r31 ?r32 ?r33 ?r34 ?r35 ?r36 ?r37 ?r38 ?r39 ?r40 ?r41 ?_; (case r6 => k_asm); (case r7 => k_asm); (case r8 => k_asm); (case r9 => k_asm); (case r10 => k_asm); (case r11 => assumption); (case r12 => omega); (case r13 => omega); (case r14 => rfl); (case r15 => rfl); (case r16 => rfl); (case r23 => with_unfolding_all rfl); (case r30 => rfl); (case r32 => rfl); (case r17 => k_mem); (case r18 => assumption); (case r19 => k_mem); (case r20 => assumption); (case r1 => assumption); (case r2 => assumption); (case r3 => assumption); (case r4 => assumption); (case r41 => walk_at "my_src"); (case r5 => exact fmod8_le _); (case r21 => rfl); (case r22 => with_unfolding_all rfl); (case r24 => decide); (case r25 => rfl); (case r26 => decide); (case r27 => rfl); (case r28 => rfl); (case r29 => rfl); (case r31 => exact fun _ => rfl); (case r33 => exact fun _ => rfl); (case r34 => k_is); (case r35 => exact fun _ => rfl); (case r36 => k_is); (case r37 => decide); (case r38 => decide); (case r39 => decide); (case r40 => decide)); intro myD myh' mytk myk myvs myrs F' N' myNe myI myRl; (simp only [List.forall_mem_cons, List.not_mem_nil, false_implies, implies_true, and_true] at myNe); walk_at "my_after"))

local macro_rules | `(tactic| walk_at "binaryOp Mult ref int") => `(tactic| (k_here; (with_reducible show wpAny _ _ (binaryOp Operator.Mult (Value.ref _) (Value.int _ _)) _ _ _); k_dflt (refine' rep_one ?F ?N ?l ?n ?_; (case F => k_asm); (case N => k_asm); (case l => is_list); (case n => omega)); intro D' h' ws' F' N' l1 myIr; (try k_lt l1); (try k_sweep)))
local macro_rules | `(tactic| walk_at "call type:bytes") => `(tactic| (k_here; (with_reducible show wpAny _ _ (call (Value.type _) [Value.ref _]) _ _ _); k_dflt (refine' KBa.make_K ?F ?N ?hh ?hl ?hi ?hr ?hn ?_; (case F => k_asm); (case N => k_asm); (case hh => exact rfl); (case hl => kba_isList); (case hi => assumption); (case hr => exact in_app (in_rep (by omega) (by omega)) (by assumption)); (case hn => (simp only [List.length_append, List.length_replicate]; omega))); intro h' t' k' F' N' myIn; (try k_sweep)))
local macro_rules | `(tactic| walk_at "my_srcL") => `(tactic| (refine' src_ints ?mz1 ?mz2 ?mz3; (case mz1 => walk_at "my_list"); (case mz2 => assumption); (case mz3 => rfl)))
local macro_rules | `(tactic| walk_at "eval ListComp") => `(tactic| (k_here; (with_reducible show wpAny _ _ (eval (Expr.ListComp (Expr.BinOp _ _ _ _) _ _ _) _) _ _ _); k_dflt (refine' mod_eval ?mF ?mN ?msrc ?mhn ?mclos ?mcell ?mkind ?mnames ?mhx ?md1 ?mhit ?_; (case mF => k_asm); (case mN => k_asm); (case mhit => walk_at "my_id"); (case msrc => walk_at "my_srcL"); (case mhn => omega); (case mclos => with_unfolding_all rfl); (case mcell => decide); (case mkind => rfl); (case mnames => decide); (case mhx => rfl); (case md1 => decide)); intro myD myh' mytk myk myvs myos F' N' myNe myI myIn myRl; (simp only [List.forall_mem_cons, List.not_mem_nil, false_implies, implies_true, and_true] at myNe); walk_at "my_after"))
local macro_rules | `(tactic| walk_at "eval ListComp") => `(tactic| (k_here; (with_reducible show wpAny _ _ (eval (Expr.ListComp (Expr.Subscript _ _ _) _ _ _) _) _ _ _); k_dflt (refine' rank_eval ?mhal ?msz ?mhr ?mF ?mN ?mhsm ?mhsd ?msrc ?mhn ?mclos ?mcell ?mkind ?mnames ?mhx ?mhsc ?mhsk ?md1 ?md2 ?mhit ?_; (case mF => k_asm); (case mN => k_asm); (case mclos => with_unfolding_all rfl); (case mhsc => rfl); (case mhsm => k_mem); (case mhsd => first | assumption | exact rfl); (case mhal => assumption); (case msz => omega); (case mhit => walk_at "my_id"); (case msrc => walk_at "my_srcL"); (case mhr => (intro j hj; exact rank_lt (by assumption) (by assumption) j hj)); (case mhn => omega); (case mcell => decide); (case mkind => rfl); (case mnames => decide); (case mhx => rfl); (case mhsk => exact fun _ => rfl); (case md1 => decide); (case md2 => decide)); intro myD myh' mytk myk myvs F' N' myNe myI myIn myRl; (simp only [List.forall_mem_cons, List.not_mem_nil, false_implies, implies_true, and_true] at myNe); walk_at "my_after"))
theorem c_deedA (l AL TL : Addr) (vs : List Value) (ns : List Int) (k : Int) (tk : Tok) (bs : Int → Array UInt8) (ts : Int → Tok) (b : Array UInt8) (tb : Tok) (al : List Int)
    (hI : IntsAre vs ns) (hlen : ns.length ≤ 63) (hk0 : 0 ≤ k) (hk1 : k ≤ 11) (hb : bs ((draw ns (9 * k)).fmod 3) = b) (htb : ts ((draw ns (9 * k)).fmod 3) = tb) (hal : KBw.bInts b = al) (h58 : al.length = 58) (hdeed : ((draw ns (9 * k)).fdiv 6).fmod 4 < 2) :
    Call w mean mg mb 106 10 64 [.ref l, .int k tk, .ref AL, .ref TL] [] (fun h => h.IsList l vs.toArray ∧ h.get? AL = some (tup3 (.bytes (bs 0) (ts 0)) (.bytes (bs 1) (ts 1)) (.bytes (bs 2) (ts 2)))) (fun g h v => v = .bool true) := by
  refine' call_ofC (binds := [(Str.ofString "script", .ref l), (Str.ofString "k", .int k tk), (Str.ofString "alphabets", .ref AL), (Str.ofString "tables", .ref TL)]) ?k1 ?k2 ?k3 ?k4 ?k5 ?k6 ?k7 ?k8 ?_
  walk_at "my_openC"
  intro dp un gd env outer base s L h₁ tk0 cells hD hU B X T hl F N Y
  obtain ⟨hIL, hAL⟩ := hl
  obtain ⟨o1, o2, o3, o4, hE, e1, e2, e3, e4⟩ := CellsAre.four Y
  subst hE
  have e1 : o1.data = .cell none := e1
  have e2 : o2.data = .cell none := e2
  have e3 : o3.data = .cell (some (.int k tk)) := e3
  have e4 : o4.data = .cell (some (.ref l)) := e4
  (try dsimp only)
  (try k_fold)
  k_with_none
  w_top off
  k_steps
  all_goals (try dsimp only)
  all_goals first
    | (refine back_of (by k_asm) ?_; exact bytes_same (by assumption) (by assumption) (deed0 (by assumption) (by assumption) (by assumption)))
    | (refine back_of (by k_asm) ?_; exact bytes_same (by assumption) (by assumption) (deed1a (by assumption) (by assumption) (by assumption)))
    | (refine back_of (by k_asm) ?_; exact bytes_one (by assumption) (by assumption) (by assumption) (deed1b (by assumption) (by assumption) (by assumption) (by assumption) (by assumption)))
    | (refine back_of (by k_asm) ?_; exact bytes_same (by assumption) (by assumption) (deed1c (by assumption) (by assumption) (by assumption)))
end Mine
end

section
open PySem PySem.W PySem.Calls PyProof.Rows PyProof.V PySem.Spec
namespace Mine
theorem cases6 {i : Int} (h0 : 0 ≤ i) (h1 : i < 6) : i = 0 ∨ i = 1 ∨ i = 2 ∨ i = 3 ∨ i = 4 ∨ i = 5 := by omega
section
variable {prog : Program} {w : World} {A : Around} {E : Value → Shared → Prop} {s : Shared}
theorem alike_item {value slice : Expr} {a : Addr} {x : Int} {t t1 t2 t3 t4 t5 t6 : Tok} {Q : Value → Shared → Prop} (hT : IsTup s.heap a #[.int 48 t1, .int 79 t2, .int 111 t3, .int 73 t4, .int 108 t5, .int 49 t6]) (h : ∀ v u, 33 ≤ v → v < 256 → Q (.int v u) s)
    (hs : ∀ i, subscripted slice false (.ref a) (.int i t) = operate [.ref a, .int i t] (getItem (.ref a) (.int i t)) := by intro _; with_unfolding_all rfl) (hg : ∀ r, letTemporaryGo value (.ref a) r = pure () := by intro _; with_unfolding_all rfl) :
    wpAny (model prog w) A (subscriptTail value slice (.ref a) (.int (x.fmod 6) t)) Q E s := by
  generalize hi : x.fmod 6 = i
  have h0 : 0 ≤ i := hi ▸ Int.fmod_nonneg_of_pos x (by decide)
  have h1 : i < 6 := hi ▸ Int.fmod_lt_of_pos x (by decide)
  rcases cases6 h0 h1 with rfl | rfl | rfl | rfl | rfl | rfl
  · exact item_tuple (j := 0) hT (by decide) (by decide) (by rfl) rfl (h 48 t1 (by decide) (by decide)) (hs _) hg
  · exact item_tuple (j := 1) hT (by decide) (by decide) (by rfl) rfl (h 79 t2 (by decide) (by decide)) (hs _) hg
  · exact item_tuple (j := 2) hT (by decide) (by decide) (by rfl) rfl (h 111 t3 (by decide) (by decide)) (hs _) hg
  · exact item_tuple (j := 3) hT (by decide) (by decide) (by rfl) rfl (h 73 t4 (by decide) (by decide)) (hs _) hg
  · exact item_tuple (j := 4) hT (by decide) (by decide) (by rfl) rfl (h 108 t5 (by decide) (by decide)) (hs _) hg
  · exact item_tuple (j := 5) hT (by decide) (by decide) (by rfl) rfl (h 49 t6 (by decide) (by decide)) (hs _) hg
theorem sign_item {value slice : Expr} {b : Array UInt8} {tb t : Tok} {al : List Int} {x : Int} {Q : Value → Shared → Prop} (hal : KBw.bInts b = al) (h58 : al.length = 58) (h33 : ∀ k ∈ al, 33 ≤ k) (h : ∀ v u tk, 33 ≤ v → v < 256 → Q (.int v u) { s with toks := tk })
    (hs : subscripted slice false (.bytes b tb) (.int (x.fmod 58) t) = operate [.bytes b tb, .int (x.fmod 58) t] (getItem (.bytes b tb) (.int (x.fmod 58) t)) := by with_unfolding_all rfl) (hg : ∀ r, letTemporaryGo value (.bytes b tb) r = pure () := by intro _; with_unfolding_all rfl) :
    wpAny (model prog w) A (subscriptTail value slice (.bytes b tb) (.int (x.fmod 58) t)) Q E s := by
  have h0 : 0 ≤ x.fmod 58 := Int.fmod_nonneg_of_pos x (by decide)
  have h1 : x.fmod 58 < 58 := Int.fmod_lt_of_pos x (by decide)
  refine KBw.item_K hal (by omega) h0 (by omega) (fun t' k' _ _ => h _ t' k' ?_ (sign_in hal _).2) hs hg
  refine h33 _ ?_
  rw [List.getD_eq_getElem?_getD, List.getElem?_eq_getElem (by omega)]
  exact List.getElem_mem _
theorem pick3 {value slice : Expr} {a TT : Addr} {Ts : Int → Addr} {n : Nat} {i : Int} {t : Tok} {Q : Value → Shared → Prop} (ha : s.heap.get? a = some (PySem.W.listOf #[.ref (Ts 0), .ref (Ts 1), .ref (Ts 2)] n)) (h0 : 0 ≤ i) (h1 : i < 3) (e : Ts i = TT) (h : Q (.ref TT) s)
    (hs : ∀ i, subscripted slice false (.ref a) (.int i t) = operate [.ref a, .int i t] (getItem (.ref a) (.int i t)) := by intro _; with_unfolding_all rfl) (hg : ∀ r, letTemporaryGo value (.ref a) r = pure () := by intro _; with_unfolding_all rfl) :
    wpAny (model prog w) A (subscriptTail value slice (.ref a) (.int i t)) Q E s := by
  subst e
  exact itemL3 (v := fun i => .ref (Ts i)) ha h0 h1 h hs hg
theorem pick2 {value slice : Expr} {a P M TD : Addr} {b : Bool} {t : Tok} {Q : Value → Shared → Prop} (ha : s.heap.get? a = some (tup2 (.ref P) (.ref M))) (e : (if b = true then M else P) = TD) (h : Q (.ref TD) s)
    (hs : ∀ i, subscripted slice false (.ref a) (.int i t) = operate [.ref a, .int i t] (getItem (.ref a) (.int i t)) := by intro _; with_unfolding_all rfl) (hg : ∀ r, letTemporaryGo value (.ref a) r = pure () := by intro _; with_unfolding_all rfl) :
    wpAny (model prog w) A (subscriptTail value slice (.ref a) (.int (if b = true then 1 else 0) t)) Q E s := by
  refine item2 ha ?_ hs hg
  subst e
  cases b <;> exact h
theorem one_zeroN {x : PySem.Str} {p : Pos} {env : Env} {k1 k2 : Nat} {p1 p2 pos : Pos} {b : Bool} {Q : Value → Shared → Prop}
    {h₀ : Heap} {L : Addr} {m : PySem.Str → Option Value} (F : Fr h₀ L s.heap m) (hv : m x = some (.bool b)) (hL : env.locals = L) (hk : env.scope.kind = .function) (hl : env.kindOf x = some .local) (hd : (x == ("__debug__" : Str)) = false) (h : ∀ u, Q (.int (if b = true then 1 else 0) u) { s with toks := s.toks + 1 }) :
    wpAny (model prog w) A (eval (.IfExp (.Name x p) (.Constant (.int 1) k1 p1) (.Constant (.int 0) k2 p2) pos) env) Q E s := by
  refine one_zero (b := b) ?_ h
  subst hL
  refine isTrue_plain (wpAny_Name (wpAny_loadName_local hk hl F.ns hv ?_) hd)
  exact wpAny_truthy_bool ⟨rfl, rfl⟩
end
theorem text_app {out : List Int} {v : Int} {pre : List Int} {n : Int} (h : (∀ c ∈ out, 33 ≤ c ∧ c < 256) ∧ out.length = pre.length) (h1 : 33 ≤ v) (h2 : v < 256) : (∀ c ∈ out ++ [v], 33 ≤ c ∧ c < 256) ∧ (out ++ [v]).length = (pre ++ [n]).length := by
  refine ⟨fun c hc => ?_, by simp [h.2]⟩
  rcases List.mem_append.mp hc with hc | hc
  · exact h.1 c hc
  · rw [List.mem_singleton.mp hc]; exact ⟨h1, h2⟩
theorem text_app2 {out : List Int} {v : Int} {pre : List Int} {n : Int} (h : ∀ c ∈ out, 33 ≤ c ∧ c < 256) (h' : out.length = pre.length) (h1 : 33 ≤ v) (h2 : v < 256) : (∀ c ∈ out ++ [v], 33 ≤ c ∧ c < 256) ∧ (out ++ [v]).length = (pre ++ [n]).length := text_app ⟨h, h'⟩ h1 h2
theorem mod94 (x : Int) : 33 ≤ 33 + x.fmod 94 ∧ 33 + x.fmod 94 < 256 := by
  have := Int.fmod_nonneg_of_pos x (b := 94) (by decide)
  have := Int.fmod_lt_of_pos x (b := 94) (by decide)
  omega
theorem text_in {out : List Int} (h : ∀ c ∈ out, 33 ≤ c ∧ c < 256) : KBa.In out := fun c hc => ⟨by have := (h c hc).1; omega, (h c hc).2⟩
theorem bad_of {f : Int → Option Int} {out : List Int} (h : ((out.filter fun k => (f k).isSome).map fun k => (f k).getD 0).length < out.length) : ¬ ∀ c ∈ out, f c ≠ none := fun hn => by
  rw [List.length_map, List.filter_eq_self.mpr (fun c hc => Option.isSome_iff_ne_none.mpr (hn c hc))] at h
  exact Nat.lt_irrefl _ h
theorem bad_drop {f : Int → Option Int} {out : List Int} {a0 : Int} (ha : f a0 ≠ none) (h : ¬ ∀ c ∈ out, f c ≠ none) : ¬ ∀ c ∈ out.dropWhile (fun x => decide (x = a0)), f c ≠ none := fun hn => h fun c hc => by
  have := List.takeWhile_append_dropWhile (p := fun x => decide (x = a0)) (l := out)
  rw [← this] at hc
  rcases List.mem_append.mp hc with hc | hc
  · have := List.all_takeWhile (p := fun x => decide (x = a0)) (l := out)
    rw [List.all_eq_true] at this
    rw [show c = a0 by simpa using this c hc]
    exact ha
  · exact hn c hc
theorem good_of {f : Int → Option Int} {out : List Int} (h : ¬ ((out.filter fun k => (f k).isSome).map fun k => (f k).getD 0).length < out.length) : ∀ c ∈ out, f c = some (rkOf f c) := by
  have h1 : (out.filter fun k => (f k).isSome).length = out.length := by
    have := List.length_filter_le (fun k => (f k).isSome) out
    rw [List.length_map] at h
    omega
  intro c hc
  have := List.length_filter_eq_length_iff.mp h1 c hc
  obtain ⟨v, hv⟩ := Option.isSome_iff_exists.mp this
  simp [rkOf, hv]
theorem lo_of {out : List Int} (h : ∀ c ∈ out, 33 ≤ c ∧ c < 256) : ∀ c ∈ out, 33 ≤ c := fun c hc => (h c hc).1
theorem bad_rks {f : Int → Option Int} {out rks : List Int} (e : rks = (out.filter fun k => (f k).isSome).map fun k => (f k).getD 0) (h : rks.length < out.length) : ¬ ∀ c ∈ out, f c ≠ none := bad_of (e ▸ h)
theorem good_rks {f : Int → Option Int} {out rks : List Int} (e : rks = (out.filter fun k => (f k).isSome).map fun k => (f k).getD 0) (h : ¬ rks.length < out.length) : ∀ c ∈ out, f c = some (rkOf f c) := good_of (e ▸ h)
theorem rk_in {f : Int → Option Int} {out : List Int} (h : ∀ c v, f c = some v → 0 ≤ v ∧ v < 58) (g : ∀ c ∈ out, f c = some (rkOf f c)) : ∀ c ∈ out, 0 ≤ rkOf f c ∧ rkOf f c < 58 := fun c hc => h c _ (g c hc)
theorem rks_in {f : Int → Option Int} {out rks : List Int} (e : rks = (out.filter fun k => (f k).isSome).map fun k => (f k).getD 0) (h : ∀ c v, f c = some v → 0 ≤ v ∧ v < 58) : ∀ k ∈ rks, 0 ≤ k ∧ k < 58 := fun k hk => by
  rw [e] at hk
  obtain ⟨c, hc, rfl⟩ := List.mem_map.mp hk
  obtain ⟨v, hv⟩ := Option.isSome_iff_exists.mp (List.mem_filter.mp hc).2
  rw [hv]
  exact h c v hv
theorem getD_in {rks : List Int} (h : ∀ k ∈ rks, 0 ≤ k ∧ k < 58) (n : Nat) : 0 ≤ rks.getD n 0 ∧ rks.getD n 0 < 58 := by
  rw [List.getD_eq_getElem?_getD]
  cases e : rks[n]? with
  | none => simp
  | some v => exact h v (List.mem_of_getElem? e)
theorem rank_mul {f : Int → Option Int} {out rks : List Int} {b : Int} {n : Nat} (e : rks = (out.filter fun k => (f k).isSome).map fun k => (f k).getD 0) (h : ∀ c v, f c = some v → 0 ≤ v ∧ v < 58) : IntMulOk (rks.getD n 0) b :=
  IntMulOk.of_left (intBits_le_iff.mpr (by
    have := getD_in (rks_in e h) n
    have h2 : (58 : Nat) < 2 ^ 64 := by decide
    omega))
abbrev Tail (rks pre : List Int) (n : Int) : Prop := n = num 58 (rks.drop (rks.length - pre.length)) ∧ pre.length ≤ rks.length
theorem num_cons (b d : Int) : ∀ l : List Int, num b (d :: l) = d * b ^ l.length + num b l := by
  intro l
  suffices H : ∀ (l : List Int) (a : Int), l.foldl (fun a k => a * b + k) a = a * b ^ l.length + num b l by
    have := H l (0 * b + d)
    unfold num
    rw [List.foldl_cons, this]
    simp [num]
  intro l
  induction l with
  | nil => intro a; simp [num]
  | cons x r ih =>
    intro a
    rw [List.foldl_cons, ih, List.length_cons, Int.pow_succ]
    have := ih (0 * b + x)
    unfold num at this ⊢
    rw [List.foldl_cons, this]
    grind
theorem tail_start (rks : List Int) : Tail rks [] 0 := ⟨by simp [num], Nat.zero_le _⟩
theorem tail_turn {rks pre : List Int} {k n : Int} (h : n = num 58 (rks.drop (rks.length - pre.length))) (hk : k = 0 + (pre.length : Int)) (hl : pre.length < rks.length) :
    Tail rks (pre ++ [k]) (n + rks.getD (-1 - k + (rks.length : Int)).toNat 0 * 58 ^ k.toNat) := by
  have e1 : (-1 - k + (rks.length : Int)).toNat = rks.length - (pre.length + 1) := by omega
  have e2 : k.toNat = pre.length := by omega
  refine ⟨?_, by simp only [List.length_append, List.length_singleton]; omega⟩
  rw [e1, e2, List.length_append, List.length_singleton, h]
  have hlt : rks.length - (pre.length + 1) < rks.length := by omega
  have e3 : rks.length - (pre.length + 1) + 1 = rks.length - pre.length := by omega
  rw [List.drop_eq_getElem_cons hlt, num_cons, e3, List.length_drop, List.getD_eq_getElem?_getD, List.getElem?_eq_getElem hlt, Option.getD_some]
  have e4 : rks.length - (rks.length - pre.length) = pre.length := by omega
  rw [e4]
  omega
theorem tail_end {rks pre : List Int} {n : Int} (h : n = num 58 (rks.drop (rks.length - pre.length))) (hl : pre.length = rks.length) : n = num 58 rks := by
  rw [h, hl, Nat.sub_self, List.drop_zero]
theorem rks_of {f : Int → Option Int} {out : List Int} (h : ∀ c ∈ out, f c = some (rkOf f c)) : ((out.filter fun k => (f k).isSome).map fun k => (f k).getD 0) = out.map (rkOf f) := by
  rw [List.filter_eq_self.mpr (fun c hc => by rw [h c hc]; rfl)]
  rfl
end Mine
end

section
open PySem PySem.W PySem.Calls PyProof.Rows PyProof.V PySem.Spec
namespace Mine
theorem bb_bytes : typeLookup (.type "bytes") "__bytes__" = pure (some (.builtin "bytes.__bytes__")) := by rw [typeLookup_type, builtinLookup_eq_fast]; kernel_rfl
section
variable {prog : Program} {w : World} {A : Around} {E : Value → Shared → Prop} {s : Shared}
theorem bb_new {b : Array UInt8} {t : Tok} {Q : Value → Shared → Prop} (hQ : Q (.bytes b t) s) :
    codeAny (model prog w) A (.call (.builtin "bytes.__new__") ⟨[.type "bytes", .bytes b t], []⟩) (wants Q E) s := by
  refine codeAny_of_tree ?_
  show wpAny _ A.in1 (do checkBuiltinCall "bytes.__new__" ⟨[.type "bytes", .bytes b t], []⟩; again (.builtin "bytes.__new__" ⟨[.type "bytes", .bytes b t], []⟩)) _ _ s
  refine wpAny_bind (wpAny_of_eq (F.bm_newCall _) (wpAny_pure ⟨plainId_quiet F.bm_plain _, codeAny_builtin F.bm_entry ?_⟩))
  rw [Around.under_plainId F.bm_plain _]
  have hT : s.TypeIs (.bytes b t) "bytes" := PySem.W.typeIs_bytes _ _ _
  unfold Builtin.«bytes.__new__»
  refine wpAny_bind (wpAny_of_eq (a := true) rfl ?_)
  refine bm_if_false rfl ?_
  refine wpAny_bind (wpAny_of_eq F.bm_sub ?_)
  refine bm_if_false rfl ?_
  refine wpAny_bind (wpAny_of_eq (F.bm_bind _) ?_)
  refine wpAny_bind (wpAny_of_eq (a := ()) rfl ?_)
  refine wpAny_bind (wpAny_of_eq (a := ()) rfl ?_)
  refine bm_if_false rfl ?_
  refine wpAny_bind (wpAny_specialOf hT bb_bytes ?_)
  refine wpAny_bind (wpAny_rule ?_)
  refine wpAny_bind (wpAny_typeOf hT ?_)
  refine bm_if_true (by decide) ?_
  show wpAny _ _ (if (Value.type "bytes" == Value.type "bytes") = true then _ else _) _ _ _
  refine bm_if_true (by decide) ?_
  first
    | exact wpAny_pure hQ
    | exact wpAny_bind (wpAny_pure (wpAny_pure hQ))
theorem call_bytes_bytes {b : Array UInt8} {t : Tok} {Q : Value → Shared → Prop} (hQ : Q (.bytes b t) s) : wpAny (model prog w) A (call (.type "bytes") [.bytes b t]) Q E s := by
  refine callType_codes (Q₁ := fun obj s₁ => s₁.TypeIs obj "bytes" ∧ Q obj s₁) F.bm_called (F.bm_typeCall _) F.entry_object_init
    (bb_new ⟨PySem.W.typeIs_bytes _ _ _, hQ⟩) fun obj s₁ h₁ => ?_
  exact ⟨h₁.1, F.args_object_init_2 obj _, object_init_meets F.bm_called.init.lookup F.bm_called.made (by decide) prog w A.in1 _ s₁ ⟨h₁.1, rfl, h₁.2⟩⟩
end
theorem deed2 {f : Int → Option Int} {out rks : List Int} {n : Int} (e : rks = (out.filter fun k => (f k).isSome).map fun k => (f k).getD 0) (ha : ¬ ((rks.length : Int) < (out.length : Int)))
    (hn : n = num 58 (rks.drop (rks.length - (rangeKs 0 ((rks.length : Int) - 0).toNat).length))) : Value.bool (num 58 (out.map (rkOf f)) == n) = .bool true := by
  have h1 := good_rks e (by omega)
  rw [rks_of h1] at e
  have h2 : (rangeKs 0 ((rks.length : Int) - 0).toNat).length = rks.length := by rw [rangeKs_length]; omega
  rw [h2, Nat.sub_self, List.drop_zero, e] at hn
  rw [hn]
  simp
theorem num_drop {f : Int → Int} {a0 : Int} (hz : f a0 = 0) : ∀ out : List Int, num 58 ((out.dropWhile fun x => decide (x = a0)).map f) = num 58 (out.map f)
  | [] => rfl
  | c :: r => by
    rw [List.dropWhile_cons]
    by_cases h : c = a0
    · simp only [h, decide_true, if_true]
      rw [num_drop hz r, List.map_cons, hz, num_cons]
      simp
    · simp [h]
theorem noughts_rep : ∀ (m : Nat) (q : List Int), noughts (List.replicate m 0 ++ q) = m + noughts q
  | 0, q => by simp
  | m + 1, q => by
    have ih := noughts_rep m q
    unfold noughts at ih ⊢
    rw [List.replicate_succ, List.cons_append, List.takeWhile_cons]
    simp only [decide_true, if_true, List.length_cons]
    omega
theorem noughts_top {b v : Int} {q : List Int} (h : Canon b q.reverse v) : noughts q = 0 := by
  have ht := h.2.2
  rw [List.getLast?_reverse] at ht
  cases q with
  | nil => rfl
  | cons c r =>
    have : c ≠ 0 := by simpa using ht
    unfold noughts
    rw [List.takeWhile_cons]
    simp [this]
theorem decode_parts {f : Int → Option Int} {out rks o r : List Int} {a0 : Int} (e : rks = (out.filter fun k => (f k).isSome).map fun k => (f k).getD 0) (ha : ¬ ((rks.length : Int) < (out.length : Int))) (hz : f a0 = some 0)
    (h : DecodeIs (rkOf f) a0 out o) (hc : Canon 256 r.reverse (num 58 rks)) : rks = out.map (rkOf f) ∧ (∀ c ∈ out, f c = some (rkOf f c)) ∧ o = List.replicate ((out.length : Int) - ((out.dropWhile fun x => decide (x = a0)).length : Int)).toNat 0 ++ r := by
  have h1 := good_rks e (by omega)
  rw [rks_of h1] at e
  refine ⟨e, h1, ?_⟩
  obtain ⟨q, hq, ho⟩ := h
  rw [num_drop (by simp [rkOf, hz]), ← e] at hq
  rw [ho, canon_rev (by decide) hq hc]
theorem deed3f {f : Int → Option Int} {out rks o r : List Int} {a0 : Int} {b : Array UInt8} {n : Nat} (e : rks = (out.filter fun k => (f k).isSome).map fun k => (f k).getD 0) (ha : ¬ ((rks.length : Int) < (out.length : Int))) (hz : f a0 = some 0)
    (h : DecodeIs (rkOf f) a0 out o) (hc : Canon 256 r.reverse (num 58 rks)) (hr : KBa.In r) (hn : n = noughts o) (hb : KBw.bInts b = List.take (o.length - min n o.length) (List.drop (min n o.length) o)) : Value.bool (b.toList == (byteArr r).toList) = .bool true := by
  obtain ⟨_, _, ho⟩ := decode_parts e ha hz h hc
  refine bytes_same hb hr ?_
  rw [ho, noughts_rep, noughts_top hc] at hn
  have hmin : min n o.length = n := by
    rw [ho, List.length_append, List.length_replicate]; omega
  rw [hmin, List.take_of_length_le (by rw [List.length_drop]; exact Nat.le_refl _), ho, hn]
  simp
theorem take_map {f : Int → Option Int} {a0 : Int} (hz : f a0 = some 0) (hu : ∀ c, f c = some 0 → c = a0) : ∀ out : List Int, (∀ c ∈ out, f c = some (rkOf f c)) → ((out.length : Int) - ((out.dropWhile fun x => decide (x = a0)).length : Int)).toNat = noughts (out.map (rkOf f))
  | [], _ => rfl
  | c :: r, h => by
    have ih := take_map hz hu r fun x hx => h x (.tail _ hx)
    have hl := dropWhile_len (fun x => decide (x = a0)) r
    unfold noughts at ih ⊢
    rw [List.dropWhile_cons, List.map_cons, List.takeWhile_cons]
    by_cases hc : c = a0
    · have : rkOf f c = 0 := by simp [rkOf, hc, hz]
      simp only [hc, decide_true, if_true, List.length_cons] at *
      rw [this]
      simp only [decide_true, if_true, List.length_cons]
      omega
    · have : rkOf f c ≠ 0 := fun q => hc (hu c (by rw [h c (.head _), q]))
      simp [hc, this]
theorem deed3 {f : Int → Option Int} {out rks o r : List Int} {a0 : Int} {b : Array UInt8} {n : Nat} (e : rks = (out.filter fun k => (f k).isSome).map fun k => (f k).getD 0) (ha : ¬ ((rks.length : Int) < (out.length : Int))) (hz : f a0 = some 0) (hu : ∀ c, f c = some 0 → c = a0)
    (h : DecodeIs (rkOf f) a0 out o) (hc : Canon 256 r.reverse (num 58 rks)) (hr : KBa.In r) (hn : n = noughts rks) (hb : KBw.bInts b = o) : Value.bool (b.toList == (byteArr (List.replicate n 0 ++ r)).toList) = .bool true := by
  obtain ⟨h1, h2, ho⟩ := decode_parts e ha hz h hc
  refine bytes_same hb (in_app (in_rep (by decide) (by decide)) hr) ?_
  rw [ho, take_map hz hu out h2, ← h1, hn]
end Mine
end

section
open PySem PySem.W PySem.Calls PyProof.Rows PyProof.V PySem.Spec
namespace Mine
local macro_rules | `(tactic| walk_at "pad C_deedB 0") => `(tactic| skip)
local macro_rules | `(tactic| walk_at "pad C_deedB 1") => `(tactic| skip)
local macro_rules | `(tactic| walk_at "pad C_deedB 2") => `(tactic| skip)

theorem filled_deedB (w : World) : Challenge.rw_eg5004_01.row.prog = Challenge.rw_eg5004_01.row.prog ∧ hd.heap_39 w.params = hd.heap_39 w.params := by
  k_fill
  exact ⟨rfl, rfl⟩
variable (w : World) (mean : ExcName → Option Value) (mg mb : PySem.Str → Option Value)
local macro_rules | `(tactic| walk_at "my_use") => `(tactic| (
  (case ua1 => k_asm); (case ua2 => k_asm); (case ua3 => k_asm); (case ua4 => k_asm); (case ua5 => k_asm); (case ua6 => exact rfl); (case ua7 => exact rfl); (case ua8 => omega); (case ua9 => omega)))
local macro_rules | `(tactic| walk_at "my_after") => `(tactic| ((try dsimp only); (try k_fold); (try k_sweep)))
local macro_rules | `(tactic| walk_at "my_openC") => `(tactic| (
  (case k1 => k_is)
  (case k2 => k_is)
  (case k3 => (intro sX XX; first | exact BindsTo.of_eq rfl | exact binds_K XX rfl (by k_is) rfl rfl rfl))
  (case k4 => exact kinds_of' rfl)
  (case k5 => decide +kernel)
  (case k6 => exact rfl)
  (case k7 => exact rfl)
  (case k8 => exact rfl)))
local macro_rules | `(tactic| walk_at "my_at") => `(tactic| first | (refine' News.get ?mya1 ?mya2; (case mya1 => k_asm); (case mya2 => k_mem)) | (refine' Fr.keep ?mya1 _ _ ?mya2; (case mya1 => k_asm); (case mya2 => assumption)))
local macro_rules | `(tactic| walk_at "my_list") => `(tactic| first | (refine' News.isList ?mya1 ?mya2; (case mya1 => k_asm); (case mya2 => k_mem)) | (refine' list_keep ?mya1 ?mya2; (case mya1 => k_asm); (case mya2 => assumption)))
local macro_rules | `(tactic| walk_at "my_id") => `(tactic| (intro myQ hmyQ; k_steps; exact hmyQ))
local macro_rules | `(tactic| walk_at "my_simp") => `(tactic| skip)

local macro_rules | `(tactic| walk_at "call ref") => `(tactic| (k_here; (with_reducible show wpAny _ _ (call (Value.ref 68) [_, _] _) _ _ _); k_dflt (refine' use_call (c_draw _ _ _ _ _ _ _ _ _ ?uh1 ?uh2 ?uh3 ?uh4) ?ua1 ?ua2 ?ua3 ?ua4 ?ua5 ?ua6 ?ua7 ?ua8 ?ua9 ?uap ?_; walk_at "my_use"; (case uh1 => assumption); (case uh2 => assumption); (case uap => ((try dsimp only); walk_at "my_list")); (case uh3 => omega); (case uh4 => omega)); intro _ _ _ F' N' kK' hP'; obtain ⟨u', hP'⟩ := hP'; subst hP'; walk_at "my_after"))
local macro_rules | `(tactic| walk_at "call ref") => `(tactic| (k_here; (with_reducible show wpAny _ _ (call (Value.ref 75) [Value.bytes _ _, _, _] _) _ _ _); k_dflt (refine' use_callD (c_carB _ _ _ _ _ _ ?uh1 _ _ _ ?uh2 _ _ ?uh3 ?uh4 ?uh5 ?uh6 ?uh7) ?ua1 ?ua2 ?ua3 ?ua4 ?ua5 ?ua6 ?ua7 ?ua8 ?ua9 ?uap ?_; walk_at "my_use"; (case uap => trivial); (case uh1 => kba_ints2); (case uh2 => kba_size); (case uh3 => decide); (case uh4 => decide); (case uh5 => decide); (case uh6 => decide); (case uh7 => first | assumption | exact rks_in (by assumption) (by assumption))); intro myD myo h' tk' F' N' myNe myR; obtain ⟨myVs, myRs, myN, myEq, myI, myC, myL, myIn⟩ := myR; subst myEq; (simp only [List.forall_mem_cons, List.not_mem_nil, false_implies, implies_true, and_true] at myNe); walk_at "my_after"))
local macro_rules | `(tactic| walk_at "call ref") => `(tactic| (k_here; (with_reducible show wpAny _ _ (call (Value.ref 82) [Value.bytes _ _] _) _ _ _); k_dflt (refine' use_call (c_nouB _ _ _ _ _ _ ?uh1 _ ?uh2) ?ua1 ?ua2 ?ua3 ?ua4 ?ua5 ?ua6 ?ua7 ?ua8 ?ua9 ?uap ?_; walk_at "my_use"; (case uap => trivial); (case uh1 => kba_ints2); (case uh2 => kba_size)); intro _ _ _ F' N' kK' hP'; obtain ⟨myNo, u', hP', myNe1, myNe2⟩ := hP'; subst hP'; walk_at "my_after"))
local macro_rules | `(tactic| walk_at "call ref") => `(tactic| (k_here; (with_reducible show wpAny _ _ (call (Value.ref 37) [_, _] _) _ _ _); k_dflt (refine' use_call (b_encode _ _ _ _ _ _ _ _ ?uh1 ?uh2 ?uh3 _ _ ?uh4) ?ua1 ?ua2 ?ua3 ?ua4 ?ua5 ?ua6 ?ua7 ?ua8 ?ua9 ?uap ?_; walk_at "my_use"; (case uap => trivial); (case uh1 => kba_ints2); (case uh2 => assumption); (case uh3 => assumption); (case uh4 => kba_size)); intro _ _ _ F' N' kK' hP'; obtain ⟨myBb, myBt, myBo, hP', myB1, myB2, myB3⟩ := hP'; subst hP'; walk_at "my_after"))
local macro_rules | `(tactic| walk_at "call ref") => `(tactic| (k_here; (with_reducible show wpAny _ _ (call (Value.ref 29) [_, _, _] _) _ _ _); k_dflt (refine' use_call (b_encode_int _ _ _ _ _ _ ?uh2 ?uh3 _ _ _ _ ?uh4 ?uh5) ?ua1 ?ua2 ?ua3 ?ua4 ?ua5 ?ua6 ?ua7 ?ua8 ?ua9 ?uap ?_; walk_at "my_use"; (case uap => trivial); (case uh2 => assumption); (case uh3 => assumption); (case uh4 => exact (oct_bound (by assumption) (by assumption)).1); (case uh5 => exact (oct_bound (by assumption) (by assumption)).2)); intro _ _ _ F' N' kK' hP'; obtain ⟨myBb, myBt, myBo, hP', myB1, myB2, myB3⟩ := hP'; subst hP'; walk_at "my_after"))
local macro_rules | `(tactic| walk_at "subscriptTail") => `(tactic| (k_here; (with_reducible show wpAny _ _ (subscriptTail _ _ (Value.ref _) (Value.int _ _)) _ _ _); k_dflt (refine' itemB3 ?xc1 ?xc2 ?xc3 ?xc4 ?xc5 ?_; (case xc1 => walk_at "my_at"); (case xc2 => exact (fmod3 _).1); (case xc3 => exact (fmod3 _).2); (case xc4 => assumption); (case xc5 => assumption))))
local macro_rules | `(tactic| walk_at "my_src") => `(tactic| (intro myQ hmyQ; k_steps; refine' hmyQ _ _ _ ?mys1 ?mys2 ?mys3; (case mys1 => k_asm); (case mys2 => k_asm); (case mys3 => (refine' src_rangeI ?mys4 ?mys5 ?mys6 ?mys7; (case mys4 => assumption); (case mys5 => exact fmod8 _); (case mys6 => (refine Nat.le_trans (fmod8_le _) ?_; decide)); (case mys7 => rfl)))))
local macro_rules | `(tactic| walk_at "exec Assign cons ListComp") => `(tactic| (k_here; (with_reducible show wpAny _ _ (exec (Stmt.Assign _ (Expr.ListComp (Expr.Call _ _ _ _) _ _ _) _) _) _ _ _); k_dflt (refine' row_assign ?r1 ?r2 ?r3 ?r4 ?r5 ?r6 ?r7 ?r8 ?r9 ?r10 ?r11 ?r12 ?r13 ?r14 ?r15 ?r16 ?r17 ?r18 ?r19 ?r20 ?r21 ?r22 ?r23 ?r24 ?r25 ?r26 ?r27 ?r28 ?r29 ?r30 ?r31 ?r32 ?r33 ?r34 ?r35 ?r36 ?r37 ?r38 ?r39 ?r40 ?r41 ?_; (case r6 => k_asm); (case r7 => k_asm); (case r8 => k_asm); (case r9 => k_asm); (case r10 => k_asm); (case r11 => assumption); (case r12 => omega); (case r13 => omega); (case r14 => rfl); (case r15 => rfl); (case r16 => rfl); (case r23 => with_unfolding_all rfl); (case r30 => rfl); (case r32 => rfl); (case r17 => k_mem); (case r18 => assumption); (case r19 => k_mem); (case r20 => assumption); (case r1 => assumption); (case r2 => assumption); (case r3 => assumption); (case r4 => assumption); (case r41 => walk_at "my_src"); (case r5 => exact fmod8_le _); (case r21 => rfl); (case r22 => with_unfolding_all rfl); (case r24 => decide); (case r25 => rfl); (case r26 => decide); (case r27 => rfl); (case r28 => rfl); (case r29 => rfl); (case r31 => exact fun _ => rfl); (case r33 => exact fun _ => rfl); (case r34 => k_is); (case r35 => exact fun _ => rfl); (case r36 => k_is); (case r37 => decide); (case r38 => decide); (case r39 => decide); (case r40 => decide)); intro myD myh' mytk myk myvs myrs F' N' myNe myI myRl; (simp only [List.forall_mem_cons, List.not_mem_nil, false_implies, implies_true, and_true] at myNe); walk_at "my_after"))

local macro_rules | `(tactic| walk_at "binaryOp Mult ref int") => `(tactic| (k_here; (with_reducible show wpAny _ _ (binaryOp Operator.Mult (Value.ref _) (Value.int _ _)) _ _ _); k_dflt (refine' rep_one ?F ?N ?l ?n ?_; (case F => k_asm); (case N => k_asm); (case l => is_list); (case n => omega)); intro D' h' ws' F' N' l1 myIr; (try k_lt l1); (try k_sweep)))
local macro_rules | `(tactic| walk_at "call type:bytes") => `(tactic| (k_here; (with_reducible show wpAny _ _ (call (Value.type _) [Value.ref _]) _ _ _); k_dflt (refine' KBa.make_K ?F ?N ?hh ?hl ?hi ?hr ?hn ?_; (case F => k_asm); (case N => k_asm); (case hh => exact rfl); (case hl => kba_isList); (case hi => assumption); (case hr => first | assumption | exact text_in (by assumption) | exact in_app (in_rep (by omega) (by omega)) (by assumption)); (case hn => ((try simp only [List.length_append, List.length_replicate]); omega))); intro h' t' k' F' N' myIn; (try k_sweep)))
local macro_rules | `(tactic| walk_at "call ref") => `(tactic| (k_here; (with_reducible show wpAny _ _ (call (Value.ref 75) [Value.ref _, _, _] _) _ _ _); k_dflt (refine' use_callD (c_carL _ _ _ _ _ _ _ ?uh1 _ _ ?uh2 _ _ ?uh3 ?uh4 ?uh5 ?uh6 ?uh7) ?ua1 ?ua2 ?ua3 ?ua4 ?ua5 ?ua6 ?ua7 ?ua8 ?ua9 ?uap ?_; walk_at "my_use"; (case uap => ((try dsimp only); walk_at "my_list")); (case uh1 => assumption); (case uh2 => omega); (case uh3 => decide); (case uh4 => decide); (case uh5 => decide); (case uh6 => decide); (case uh7 => first | assumption | exact rks_in (by assumption) (by assumption))); intro myD myo h' tk' F' N' myNe myR; obtain ⟨myVs, myRs, myN, myEq, myI, myC, myL, myIn⟩ := myR; subst myEq; (simp only [List.forall_mem_cons, List.not_mem_nil, false_implies, implies_true, and_true] at myNe); walk_at "my_after"))
local macro_rules | `(tactic| walk_at "call ref") => `(tactic| (k_here; (with_reducible show wpAny _ _ (call (Value.ref 82) [Value.ref _] _) _ _ _); k_dflt (refine' use_call (c_nouL _ _ _ _ _ _ _ ?uh1 ?uh2) ?ua1 ?ua2 ?ua3 ?ua4 ?ua5 ?ua6 ?ua7 ?ua8 ?ua9 ?uap ?_; walk_at "my_use"; (case uap => ((try dsimp only); walk_at "my_list")); (case uh1 => assumption); (case uh2 => omega)); intro _ _ _ F' N' kK' hP'; obtain ⟨myNo, u', hP', myNe1, myNe2⟩ := hP'; subst hP'; walk_at "my_after"))
local macro_rules | `(tactic| walk_at "subscriptTail") => `(tactic| (k_here; (with_reducible show wpAny _ _ (subscriptTail _ _ (Value.ref 61) (Value.int _ _)) _ _ _); k_dflt (refine' alike_item ?xc1 ?_; (case xc1 => (refine' IsTup.keeps ?ys2 (Fr.keep ?ys3); (case ys2 => assumption); (case ys3 => k_asm)))); intro myv myu myv0 myv1))
local macro_rules | `(tactic| walk_at "subscriptTail") => `(tactic| (k_here; (with_reducible show wpAny _ _ (subscriptTail _ _ (Value.bytes _ _) (Value.int (Int.fmod _ _) _)) _ _ _); k_dflt (refine' sign_item ?xc1 ?xc2 ?xc3 ?_; (case xc1 => assumption); (case xc2 => assumption); (case xc3 => assumption)); intro myv myu mytk myv0 myv1))
local macro_rules | `(tactic| walk_at "subscriptTail") => `(tactic| (k_here; (with_reducible show wpAny _ _ (subscriptTail _ _ (Value.ref _) (Value.int (Int.fmod _ _) _)) _ _ _); k_dflt (refine' pick3 ?xc1 ?xc2 ?xc3 ?xc4 ?_; (case xc1 => walk_at "my_at"); (case xc2 => exact (fmod3 _).1); (case xc3 => exact (fmod3 _).2); (case xc4 => assumption))))
local macro_rules | `(tactic| walk_at "subscriptTail") => `(tactic| (k_here; (with_reducible show wpAny _ _ (subscriptTail _ _ (Value.ref _) (Value.int (ite _ _ _) _)) _ _ _); k_dflt (refine' pick2 ?xc1 ?xc4 ?_; (case xc1 => walk_at "my_at"); (case xc4 => assumption))))
local macro_rules | `(tactic| walk_at "eval IfExp") => `(tactic| (k_here; (with_reducible show wpAny _ _ (eval (Expr.IfExp _ (Expr.Constant _ _ _) (Expr.Constant _ _ _) _) _) _ _ _); k_dflt (refine' one_zeroN ?y1 ?y2 ?y3 ?y4 ?y5 ?y6 ?_; (case y1 => k_asm); (case y2 => exact rfl); (case y3 => rfl); (case y4 => rfl); (case y5 => rfl); (case y6 => decide)); intro myu))
local macro_rules | `(tactic| walk_at "exec Assign cons ListComp") => `(tactic| (k_here; (with_reducible show wpAny _ _ (exec (Stmt.Assign _ (Expr.ListComp (Expr.Subscript _ _ _) _ _ _) _) _) _ _ _); k_dflt (refine' tab_assign ?r1 ?r2 ?r3 ?r4 ?r5 ?r6 ?r7 ?r8 ?r9 ?r10 ?r11 ?r12 ?r13 ?r14 ?r15 ?r16 ?r17 ?r18 ?r19 ?r20 ?r21 ?r22 ?r23 ?r24 ?_; (case r3 => k_asm); (case r4 => k_asm); (case r12 => with_unfolding_all rfl); (case r19 => rfl); (case r5 => k_mem); (case r6 => assumption); (case r7 => assumption); (case r1 => assumption); (case r2 => assumption); (case r24 => walk_at "my_id"); (case r8 => (refine' src_bytes ?ys1 ?ys2; (case ys1 => kba_ints2); (case ys2 => rfl))); (case r9 => omega); (case r10 => rfl); (case r11 => with_unfolding_all rfl); (case r13 => decide); (case r14 => rfl); (case r15 => decide); (case r16 => rfl); (case r17 => rfl); (case r18 => rfl); (case r20 => exact fun _ => rfl); (case r21 => decide); (case r22 => decide); (case r23 => with_unfolding_all rfl)); intro myD myh' mytk myk myvs myrks F' N' myNe myEq myI myRl; (simp only [List.forall_mem_cons, List.not_mem_nil, false_implies, implies_true, and_true] at myNe); walk_at "my_after"))
local macro_rules | `(tactic| walk_at "my_w") => `(tactic| ((case ua2 => k_asm); (case uaN => k_asm); (case ua1 => k_asm); (case uaXB => assumption); (case uaTB => assumption); (case ua3 => k_asm); (case ua5 => k_asm); (case uaD => assumption); (case uaT0 => first | assumption | exact KtsTurn.refl); (case ua6 => exact rfl); (case ua7 => exact rfl); (case ua8 => omega); (case ua9 => omega); (case uap => trivial)))
local macro_rules | `(tactic| walk_at "my_rd") => `(tactic| ((case uh1 => kba_ints2); (case uh2 => assumption); (case uh3 => assumption); (case uh4 => assumption); (case uh5 => exact lo_of (by assumption)); (case uh6 => omega)))
local macro_rules | `(tactic| walk_at "call ref") => `(tactic| (k_here; (with_reducible show wpAny _ _ (call (Value.ref 94) [_, _, _] _) _ _ _); k_dflt (refine' use_callW (c_readingE _ _ _ _ _ _ _ _ ?uh1 ?uh2 ?uh3 ?uh4 ?uh5 _ _ ?uh6 _ ?uh7) ?ua1 ?ua2 ?uaN ?uaXB ?uaTB ?ua3 ?ua5 ?uaD ?uaT0 ?ua6 ?ua7 ?ua8 ?ua9 ?uap ?_; walk_at "my_rd"; (case uh7 => exact bad_drop (by assumption) (bad_rks (by assumption) (by omega))); walk_at "my_w"); intro myv h' g' tk' T' F' N' B' X' P' D' hp'; obtain ⟨myu, hp'⟩ := hp'; subst hp'; walk_at "my_after"))
local macro_rules | `(tactic| walk_at "call ref") => `(tactic| (k_here; (with_reducible show wpAny _ _ (call (Value.ref 101) [_, _, _] _) _ _ _); k_dflt (refine' use_callW (c_numreadE _ _ _ _ _ _ _ _ ?uh1 ?uh2 ?uh3 ?uh4 ?uh5 _ _ ?uh6 _ ?uh7) ?ua1 ?ua2 ?uaN ?uaXB ?uaTB ?ua3 ?ua5 ?uaD ?uaT0 ?ua6 ?ua7 ?ua8 ?ua9 ?uap ?_; walk_at "my_rd"; (case uh7 => exact bad_rks (by assumption) (by omega)); walk_at "my_w"); intro myv h' g' tk' T' F' N' B' X' P' D' hp'; obtain ⟨myu, hp'⟩ := hp'; subst hp'; walk_at "my_after"))
local macro_rules | `(tactic| walk_at "call ref") => `(tactic| (k_here; (with_reducible show wpAny _ _ (call (Value.ref 94) [_, _, _] _) _ _ _); k_dflt (refine' use_call (c_reading _ _ _ _ _ _ _ _ ?uh1 ?uh2 ?uh3 ?uh4 ?uh5 _ _ ?uh6 _ ?uh7 ?uh8) ?ua1 ?ua2 ?ua3 ?ua4 ?ua5 ?ua6 ?ua7 ?ua8 ?ua9 ?uap ?_; walk_at "my_rd"; (case uh7 => exact good_rks (by assumption) (by omega)); (case uh8 => exact rk_in (by assumption) (good_rks (by assumption) (by omega))); walk_at "my_use"; (case uap => trivial)); intro _ _ _ F' N' kK' hP'; obtain ⟨myBb, myBt, myBo, hP', myB1, myB2, myB3⟩ := hP'; subst hP'; walk_at "my_after"))
local macro_rules | `(tactic| walk_at "call ref") => `(tactic| (k_here; (with_reducible show wpAny _ _ (call (Value.ref 101) [_, _, _] _) _ _ _); k_dflt (refine' use_call (c_numread _ _ _ _ _ _ _ _ ?uh1 ?uh2 ?uh3 ?uh4 ?uh5 _ _ ?uh6 _ ?uh7) ?ua1 ?ua2 ?ua3 ?ua4 ?ua5 ?ua6 ?ua7 ?ua8 ?ua9 ?uap ?_; walk_at "my_rd"; (case uh7 => exact good_rks (by assumption) (by omega)); walk_at "my_use"; (case uap => trivial)); intro _ _ _ F' N' kK' hP'; obtain ⟨myu, hP'⟩ := hP'; subst hP'; walk_at "my_after"))
local macro_rules | `(tactic| walk_at "binaryOp Mult int int") => `(tactic| (k_here; (with_reducible show wpAny _ _ (binaryOp Operator.Mult (Value.int (List.getD _ _ _) _) _) _ _ _); k_dflt (refine' PyProof.Rows.mul_int ?_ ?mm; (case mm => exact rank_mul (by assumption) (by assumption)))))
local macro_rules | `(tactic| walk_at "call type:bytes") => `(tactic| (k_here; (with_reducible show wpAny _ _ (call (Value.type _) [Value.bytes _ _]) _ _ _); k_dflt (refine call_bytes_bytes ?_)))
local macro_rules | `(tactic| walk_at "my_srcL") => `(tactic| (refine' src_ints ?mz1 ?mz2 ?mz3; (case mz1 => walk_at "my_list"); (case mz2 => assumption); (case mz3 => rfl)))
local macro_rules | `(tactic| walk_at "eval ListComp") => `(tactic| (k_here; (with_reducible show wpAny _ _ (eval (Expr.ListComp (Expr.BinOp _ _ _ _) _ _ _) _) _ _ _); k_dflt (refine' mod_eval ?mF ?mN ?msrc ?mhn ?mclos ?mcell ?mkind ?mnames ?mhx ?md1 ?mhit ?_; (case mF => k_asm); (case mN => k_asm); (case mhit => walk_at "my_id"); (case msrc => walk_at "my_srcL"); (case mhn => omega); (case mclos => with_unfolding_all rfl); (case mcell => decide); (case mkind => rfl); (case mnames => decide); (case mhx => rfl); (case md1 => decide)); intro myD myh' mytk myk myvs myos F' N' myNe myI myIn myRl; (simp only [List.forall_mem_cons, List.not_mem_nil, false_implies, implies_true, and_true] at myNe); walk_at "my_after"))
local macro_rules | `(tactic| walk_at "eval ListComp") => `(tactic| (k_here; (with_reducible show wpAny _ _ (eval (Expr.ListComp (Expr.Subscript _ _ _) _ _ _) _) _ _ _); k_dflt (refine' rank_eval ?mhal ?msz ?mhr ?mF ?mN ?mhsm ?mhsd ?msrc ?mhn ?mclos ?mcell ?mkind ?mnames ?mhx ?mhsc ?mhsk ?md1 ?md2 ?mhit ?_; (case mF => k_asm); (case mN => k_asm); (case mclos => with_unfolding_all rfl); (case mhsc => rfl); (case mhsm => k_mem); (case mhsd => first | assumption | exact rfl); (case mhal => assumption); (case msz => omega); (case mhit => walk_at "my_id"); (case msrc => walk_at "my_srcL"); (case mhr => (intro j hj; exact rank_lt (by assumption) (by assumption) j hj)); (case mhn => omega); (case mcell => decide); (case mkind => rfl); (case mnames => decide); (case mhx => rfl); (case mhsk => exact fun _ => rfl); (case md1 => decide); (case md2 => decide)); intro myD myh' mytk myk myvs F' N' myNe myI myIn myRl; (simp only [List.forall_mem_cons, List.not_mem_nil, false_implies, implies_true, and_true] at myNe); walk_at "my_after"))

theorem c_deedB (l AL TL TT P M TD : Addr) (Ts : Int → Addr) (nT : Nat) (TO : Obj) (vs : List Value) (ns : List Int) (k : Int) (tk : Tok) (bs : Int → Array UInt8) (ts : Int → Tok) (b : Array UInt8) (tb : Tok) (al : List Int)
    (hI : IntsAre vs ns) (hlen : ns.length ≤ 63) (hk0 : 0 ≤ k) (hk1 : k ≤ 11) (hb : bs ((draw ns (9 * k)).fmod 3) = b) (htb : ts ((draw ns (9 * k)).fmod 3) = tb) (hTs : Ts ((draw ns (9 * k)).fmod 3) = TT) (hTD : (if (((draw ns (9 * k)).fdiv 3).fmod 2 == 1) = true then M else P) = TD) (hal : KBw.bInts b = al) (h58 : al.length = 58) (h33 : ∀ k ∈ al, 33 ≤ k)
    (hlo : (TD == sysModules) = false) (hDI : DictI PP w 64 (mapOf al (((draw ns (9 * k)).fdiv 3).fmod 2 == 1)) TO) (hz : mapOf al (((draw ns (9 * k)).fdiv 3).fmod 2 == 1) (al.getD 0 0) = some 0) (hu : ((draw ns (9 * k)).fdiv 3).fmod 2 ≠ 1 → ∀ c, mapOf al (((draw ns (9 * k)).fdiv 3).fmod 2 == 1) c = some 0 → c = al.getD 0 0) (hrk : ∀ c v, mapOf al (((draw ns (9 * k)).fdiv 3).fmod 2 == 1) c = some v → 0 ≤ v ∧ v < 58) (hdeed : ¬ ((draw ns (9 * k)).fdiv 6).fmod 4 < 2) :
    CallW w mean mg mb 106 10 64 [.ref l, .int k tk, .ref AL, .ref TL] [] (fun h => h.IsList l vs.toArray ∧ h.get? AL = some (tup3 (.bytes (bs 0) (ts 0)) (.bytes (bs 1) (ts 1)) (.bytes (bs 2) (ts 2))) ∧ h.get? TL = some (PySem.W.listOf #[.ref (Ts 0), .ref (Ts 1), .ref (Ts 2)] nT) ∧ h.get? TT = some (tup2 (.ref P) (.ref M)) ∧ h.get? TD = some TO) (fun h v => v = .bool true) := by
  refine' call_ofCW (binds := [(Str.ofString "script", .ref l), (Str.ofString "k", .int k tk), (Str.ofString "alphabets", .ref AL), (Str.ofString "tables", .ref TL)]) ?k1 ?k2 ?k3 ?k4 ?k5 ?k6 ?k7 ?k8 ?_
  walk_at "my_openC"
  intro dp un gd env outer base s L h₁ tk0 cells hD hU B XB TB X T KD hl F N Y
  obtain ⟨hIL, hAL, hTL, hTT, hTO⟩ := hl
  have hal0 : mapOf al (((draw ns (9 * k)).fdiv 3).fmod 2 == 1) (al.getD 0 0) ≠ none := by rw [hz]; simp
  obtain ⟨o1, o2, o3, o4, hE, e1, e2, e3, e4⟩ := CellsAre.four Y
  subst hE
  have e1 : o1.data = .cell none := e1
  have e2 : o2.data = .cell none := e2
  have e3 : o3.data = .cell (some (.int k tk)) := e3
  have e4 : o4.data = .cell (some (.ref l)) := e4
  obtain ⟨t1, t2, t3, t4, t5, t6, hA⟩ : ∃ t1 t2 t3 t4 t5 t6, IsTup s.heap 61 #[.int 48 t1, .int 79 t2, .int 111 t3, .int 73 t4, .int 108 t5, .int 49 t6] := ⟨_, _, _, _, _, _, ⟨_, X 61 _ (by k_is), rfl, _, rfl⟩⟩
  (try dsimp only)
  (try k_fold)
  k_with_none
  (k_with "pyIter ref" => k_of "x" => k_state (fun pre out => (∀ c ∈ out, 33 ≤ c ∧ c < 256) ∧ out.length = pre.length) "text")
  (k_with "pyIter ref" => k_of "j" => k_state_given ["ranks"] (fun ranks pre number => number = num 58 (ranks.drop (ranks.length - pre.length)) ∧ pre.length ≤ ranks.length) "number")
  (k_with "state" => first | exact tail_start _ | (refine tail_turn ?_ ?_ ?_; assumption; omega; omega) | exact ⟨(fun c hc => nomatch hc), rfl⟩ | (refine text_app2 ?_ ?_ ?_ ?_; assumption; assumption; (first | omega | exact (mod94 _).1); (first | omega | exact (mod94 _).2)))
  w_top off
  k_steps
  all_goals (try dsimp only)
  all_goals first
    | (refine backW_of (by assumption) (by k_asm) ?_; exact congrArg Value.bool (by decide))
    | (refine backW_of KtsTurn.refl (by k_asm) ?_; exact deed2 (by assumption) (by assumption) (by assumption))
    | (refine backW_of KtsTurn.refl (by k_asm) ?_; exact deed3f (by assumption) (by assumption) hz (by assumption) (by assumption) (by assumption) (by assumption) (by assumption))
    | (refine backW_of KtsTurn.refl (by k_asm) ?_; exact deed3 (by assumption) (by assumption) hz (hu (by assumption)) (by assumption) (by assumption) (by assumption) (by assumption) (by assumption))
end Mine
end

section
open PySem PySem.W PySem.Calls PyProof.Rows PyProof.V PySem.Spec
namespace Mine
theorem upd_same {f : Int → Option Int} {c v : Int} (h : f c = some v) : upd f c v = f := by
  funext x
  unfold upd
  split
  · rename_i e; rw [e, h]
  · rfl
theorem upd_comm {f : Int → Option Int} {c d v u : Int} (h : c ≠ d) : upd (upd f c v) d u = upd (upd f d u) c v := by
  funext x
  unfold upd
  by_cases h1 : x = c <;> by_cases h2 : x = d <;> simp [h1, h2] <;> (try (subst h1; subst h2; exact absurd rfl h)) <;> (try simp_all)
theorem grp {p F : Int → Option Int} {a b c : Int} (hab : a ≠ b) (hac : a ≠ c) (hbc : b ≠ c) (ha : F a = p a) (hb : F b = p b) (hc : F c = p c)
    (ga : (if a ∈ [(48 : Int), 79, 111] then [(48 : Int), 79, 111] else [73, 108, 49]) = [a, b, c]) (gb : (if b ∈ [(48 : Int), 79, 111] then [(48 : Int), 79, 111] else [73, 108, 49]) = [a, b, c]) (gc : (if c ∈ [(48 : Int), 79, 111] then [(48 : Int), 79, 111] else [73, 108, 49]) = [a, b, c]) :
    [a, b, c].foldl (mendStep p) F = fixg F [a, b, c] := by
  have hba := hab.symm
  have hca := hac.symm
  have hcb := hbc.symm
  unfold fixg
  simp only [List.foldl_cons, List.foldl_nil]
  unfold mendStep heldOf
  rw [ga, gb, gc]
  rcases h1 : p a with _ | x <;> rcases h2 : p b with _ | y <;> rcases h3 : p c with _ | z <;> rw [h1] at ha <;> rw [h2] at hb <;> rw [h3] at hc <;> simp [ha, hb, hc, h1, h2, h3, hab, hac, hbc, hba, hca, hcb]
  · rw [upd_comm (c := b) hbc, upd_comm (c := a) hac, upd_same hc]
  · rw [upd_comm (c := a) hab, upd_same hb]
  · rw [upd_same ha]
theorem fixg_cases (f : Int → Option Int) (g : List Int) : (∃ p, (g.filter fun c => (f c).isSome) = [p] ∧ fixg f g = g.foldl (fun f' a => upd f' a ((f p).getD 0)) f) ∨ fixg f g = f := by
  unfold fixg
  split
  · rename_i p hp; exact .inl ⟨p, hp, rfl⟩
  · exact .inr rfl
theorem fixg_off {f : Int → Option Int} {a b c x : Int} (h1 : x ≠ a) (h2 : x ≠ b) (h3 : x ≠ c) : fixg f [a, b, c] x = f x := by
  rcases fixg_cases f [a, b, c] with ⟨p, _, e⟩ | e <;> rw [e]
  simp [upd, h1, h2, h3]
theorem mend_map (al : List Int) : mendAll (idx al) = mapOf al true := by
  unfold mendAll mapOf
  rw [if_pos rfl]
  rw [show [(48 : Int), 79, 111, 73, 108, 49] = [48, 79, 111] ++ [73, 108, 49] from rfl, List.foldl_append]
  rw [grp (p := idx al) (F := idx al) (by decide) (by decide) (by decide) rfl rfl rfl rfl rfl rfl]
  exact grp (by decide) (by decide) (by decide) (fixg_off (by decide) (by decide) (by decide)) (fixg_off (by decide) (by decide) (by decide)) (fixg_off (by decide) (by decide) (by decide)) rfl rfl rfl
theorem upd_val {f : Int → Option Int} {P : Int → Prop} {c v : Int} (h : ∀ x w, f x = some w → P w) (hv : P v) : ∀ x w, upd f c v x = some w → P w := fun x w e => by
  unfold upd at e
  split at e
  · injection e with e; rw [← e]; exact hv
  · exact h x w e
theorem fixg_val {f : Int → Option Int} {P : Int → Prop} (g : List Int) (h : ∀ x w, f x = some w → P w) : ∀ x w, fixg f g x = some w → P w := by
  rcases fixg_cases f g with ⟨p, hp, e⟩ | e <;> rw [e]
  · have hm : p ∈ g.filter fun c => (f c).isSome := by rw [hp]; exact .head _
    obtain ⟨v, hv⟩ := Option.isSome_iff_exists.mp (List.mem_filter.mp hm).2
    rw [hv, Option.getD_some]
    have hP := h _ _ hv
    clear hp hm hv e
    suffices H : ∀ (l : List Int) (f : Int → Option Int), (∀ x w, f x = some w → P w) → ∀ x w, l.foldl (fun f' a => upd f' a v) f x = some w → P w from H g f h
    intro l
    induction l with
    | nil => intro f h; exact h
    | cons a l ih => intro f h; exact ih _ (upd_val h hP)
  · exact h
theorem idx_spec : ∀ (n : Nat) (al : List Int), al.length = n → ∀ c v, idx al c = some v → 0 ≤ v ∧ v < (n : Int) ∧ al[v.toNat]? = some c
  | 0, al, hl, c, v, h => by
    rw [List.eq_nil_of_length_eq_zero hl] at h; cases h
  | n + 1, al, hl, c, v, h => by
    obtain ⟨l, x, rfl⟩ : ∃ l x, al = l ++ [x] := by
      rcases List.eq_nil_or_concat al with e | ⟨l, x, e⟩
      · rw [e] at hl; simp at hl
      · exact ⟨l, x, by simpa using e⟩
    have hl' : l.length = n := by simpa using hl
    rw [idx_snoc] at h
    unfold upd at h
    split at h
    · rename_i e
      injection h with h
      subst h
      refine ⟨by omega, by omega, ?_⟩
      rw [e]
      simp
    · obtain ⟨a, b, d⟩ := idx_spec n l hl' c v h
      refine ⟨a, by omega, ?_⟩
      rw [List.getElem?_append_left (by omega)]
      exact d
theorem idx_first : ∀ (n : Nat) (a : Int) (l : List Int), l.length = n → a ∉ l → idx (a :: l) a = some 0
  | 0, a, l, hl, h => by
    rw [List.eq_nil_of_length_eq_zero hl]; simp [idx, idxFrom, upd]
  | n + 1, a, l, hl, h => by
    obtain ⟨q, x, rfl⟩ : ∃ q x, l = q ++ [x] := by
      rcases List.eq_nil_or_concat l with e | ⟨q, x, e⟩
      · rw [e] at hl; simp at hl
      · exact ⟨q, x, by simpa using e⟩
    have hne : a ≠ x := fun e => h (by simp [e])
    rw [show a :: (q ++ [x]) = (a :: q) ++ [x] from rfl, idx_snoc]
    unfold upd
    rw [if_neg hne]
    exact idx_first n a q (by simpa using hl) fun hm => h (by simp [hm])
theorem fixg_keep {f : Int → Option Int} {a : Int} (g : List Int) {v : Int} (h : f a = some v) : fixg f g a = some v := by
  rcases fixg_cases f g with ⟨p, hp, e⟩ | e <;> rw [e]
  · by_cases hg : a ∈ g
    · have hm : a ∈ g.filter fun c => (f c).isSome := List.mem_filter.mpr ⟨hg, by rw [h]; rfl⟩
      rw [hp] at hm
      rw [← List.mem_singleton.mp hm, h, Option.getD_some]
      exact upds_at g f h
    · clear hp e
      suffices H : ∀ (l : List Int) (f : Int → Option Int), a ∉ l → f a = some v → ∀ u, l.foldl (fun f' b => upd f' b u) f a = some v from H g f hg h _
      intro l
      induction l with
      | nil => intro f _ h u; exact h
      | cons b l ih =>
        intro f hn h u
        refine ih (upd f b u) (fun q => hn (.tail _ q)) ?_ u
        show (if a = b then some u else f a) = some v
        rw [if_neg (fun e => hn (by rw [e]; exact .head _))]
        exact h
  · exact h
structure SignsOk (b : Array UInt8) (al : List Int) : Prop where
  bint : KBw.bInts b = al
  len : al.length = 58
  low : ∀ k ∈ al, 33 ≤ k
  first : al.getD 0 0 ∉ al.tail
theorem SignsOk.idx0 {b : Array UInt8} {al : List Int} (S : SignsOk b al) : idx al (al.getD 0 0) = some 0 := by
  have h1 := S.len
  have h2 := S.first
  cases al with
  | nil => simp at h1
  | cons a l => exact idx_first _ a l rfl h2
theorem SignsOk.zero {b : Array UInt8} {al : List Int} (S : SignsOk b al) (x : Bool) : mapOf al x (al.getD 0 0) = some 0 := by
  unfold mapOf
  split
  · exact fixg_keep _ (fixg_keep _ S.idx0)
  · exact S.idx0
theorem SignsOk.vals {b : Array UInt8} {al : List Int} (S : SignsOk b al) (x : Bool) : ∀ c v, mapOf al x c = some v → 0 ≤ v ∧ v < 58 := by
  have h : ∀ c v, idx al c = some v → 0 ≤ v ∧ v < 58 := fun c v e => by
    have := idx_spec _ al rfl c v e
    rw [S.len] at this
    exact ⟨this.1, this.2.1⟩
  unfold mapOf
  split
  · exact fixg_val _ (fixg_val _ h)
  · exact h
theorem SignsOk.only {b : Array UInt8} {al : List Int} (S : SignsOk b al) {y : Int} (hy : y ≠ 1) : ∀ c, mapOf al (y == 1) c = some 0 → c = al.getD 0 0 := fun c e => by
  have : (y == 1) = false := by simpa using hy
  rw [this] at e
  have h := (idx_spec _ al rfl c 0 e).2.2
  rw [List.getD_eq_getElem?_getD]
  simp at h
  rw [h]
  rfl
end Mine
end

section
open PySem PySem.W PySem.Calls PyProof.Rows PyProof.V PySem.Spec
namespace Mine
theorem CallW.mono {w : World} {mean : ExcName → Option Value} {mg mb : PySem.Str → Option Value} {f : Addr} {D U : Nat} {pos : List Value} {kw : List (PySem.Str × Value)} {pre pre' : Heap → Prop} {post post' : Heap → Value → Prop} (C : CallW w mean mg mb f D U pos kw pre post) (h1 : ∀ h, pre' h → pre h) (h2 : ∀ h v, post h v → post' h v) : CallW w mean mg mb f D U pos kw pre' post' :=
  fun dp un gd env outer base s Q E hD hU B XB TB X T KD hp hQ => C dp un gd env outer base s Q E hD hU B XB TB X T KD (h1 _ hp) fun v h' g' tk' T' k p => hQ v h' g' tk' T' k (h2 _ _ p)
def DeedPre (l AL TL : Addr) (vs : List Value) (bs : Int → Array UInt8) (ts : Int → Tok) (Ts Ps Ms : Int → Addr) (po mo : Int → Obj) (nT : Nat) (h : Heap) : Prop :=
  h.IsList l vs.toArray ∧ h.get? AL = some (tup3 (.bytes (bs 0) (ts 0)) (.bytes (bs 1) (ts 1)) (.bytes (bs 2) (ts 2))) ∧ h.get? TL = some (PySem.W.listOf #[.ref (Ts 0), .ref (Ts 1), .ref (Ts 2)] nT) ∧
    ∀ i, 0 ≤ i → i < 3 → h.get? (Ts i) = some (tup2 (.ref (Ps i)) (.ref (Ms i))) ∧ h.get? (Ps i) = some (po i) ∧ h.get? (Ms i) = some (mo i)
theorem c_deed (w : World) (mean : ExcName → Option Value) (mg mb : PySem.Str → Option Value) (l AL TL : Addr) (vs : List Value) (ns : List Int) (k : Int) (tk : Tok) (bs : Int → Array UInt8) (ts : Int → Tok) (als : Int → List Int) (Ts Ps Ms : Int → Addr) (po mo : Int → Obj) (nT : Nat)
    (hI : IntsAre vs ns) (hlen : ns.length ≤ 63) (hk0 : 0 ≤ k) (hk1 : k ≤ 11) (hS : ∀ i, 0 ≤ i → i < 3 → SignsOk (bs i) (als i))
    (hT : ∀ i, 0 ≤ i → i < 3 → (Ps i == sysModules) = false ∧ (Ms i == sysModules) = false ∧ DictI PP w 64 (idx (als i)) (po i) ∧ DictI PP w 64 (mendAll (idx (als i))) (mo i)) :
    CallW w mean mg mb 106 10 64 [.ref l, .int k tk, .ref AL, .ref TL] [] (DeedPre l AL TL vs bs ts Ts Ps Ms po mo nT) (fun h v => v = .bool true) := by
  have h3 := fmod3 (draw ns (9 * k))
  have S := hS _ h3.1 h3.2
  obtain ⟨t1, t2, t3, t4⟩ := hT _ h3.1 h3.2
  by_cases hd : ((draw ns (9 * k)).fdiv 6).fmod 4 < 2
  · exact ((c_deedA w mean mg mb l AL TL vs ns k tk bs ts _ _ _ hI hlen hk0 hk1 rfl rfl S.bint S.len hd).mono (fun h x => ⟨x.1, x.2.1⟩) fun g h v x => x).weak fun g h v x => x
  · have hDI : DictI PP w 64 (mapOf (als ((draw ns (9 * k)).fmod 3)) (((draw ns (9 * k)).fdiv 3).fmod 2 == 1)) (if (((draw ns (9 * k)).fdiv 3).fmod 2 == 1) = true then mo ((draw ns (9 * k)).fmod 3) else po ((draw ns (9 * k)).fmod 3)) := by
      cases (((draw ns (9 * k)).fdiv 3).fmod 2 == 1) with
      | true => rw [← mend_map]; exact t4
      | false => exact t3
    refine (c_deedB w mean mg mb l AL TL (Ts ((draw ns (9 * k)).fmod 3)) (Ps ((draw ns (9 * k)).fmod 3)) (Ms ((draw ns (9 * k)).fmod 3)) _ Ts nT _ vs ns k tk bs ts _ _ _ hI hlen hk0 hk1 rfl rfl rfl rfl S.bint S.len S.low ?_ hDI (S.zero _) (fun hy => S.only hy) (S.vals _) hd).mono (fun h x => ?_) fun h v x => x
    · cases (((draw ns (9 * k)).fdiv 3).fmod 2 == 1) with
      | true => exact t2
      | false => exact t1
    · obtain ⟨x1, x2, x3, x4⟩ := x
      obtain ⟨y1, y2, y3⟩ := x4 _ h3.1 h3.2
      refine ⟨x1, x2, x3, y1, ?_⟩
      cases (((draw ns (9 * k)).fdiv 3).fmod 2 == 1) with
      | true => exact y3
      | false => exact y2
end Mine
end

section
open PySem PySem.W PySem.Calls PyProof.Rows PyProof.V PySem.Spec
namespace Mine
abbrev btcB : Array UInt8 := #[49, 50, 51, 52, 53, 54, 55, 56, 57, 65, 66, 67, 68, 69, 70, 71, 72, 74, 75, 76, 77, 78, 80, 81, 82, 83, 84, 85, 86, 87, 88, 89, 90, 97, 98, 99, 100, 101, 102, 103, 104, 105, 106, 107, 109, 110, 111, 112, 113, 114, 115, 116, 117, 118, 119, 120, 121, 122]
abbrev btcL : List Int := [49, 50, 51, 52, 53, 54, 55, 56, 57, 65, 66, 67, 68, 69, 70, 71, 72, 74, 75, 76, 77, 78, 80, 81, 82, 83, 84, 85, 86, 87, 88, 89, 90, 97, 98, 99, 100, 101, 102, 103, 104, 105, 106, 107, 109, 110, 111, 112, 113, 114, 115, 116, 117, 118, 119, 120, 121, 122]
theorem btc_ints : KBw.bInts btcB = btcL := rfl
end Mine
end

section
open PySem PySem.W PySem.Calls PyProof.Rows
namespace Mine
local macro_rules | `(tactic| walk_at "pad C_encD 0") => `(tactic| skip)
local macro_rules | `(tactic| walk_at "pad C_encD 1") => `(tactic| skip)
local macro_rules | `(tactic| walk_at "pad C_encD 2") => `(tactic| skip)
local macro_rules | `(tactic| walk_at "pad C_encD 3") => `(tactic| skip)
local macro_rules | `(tactic| walk_at "pad C_encD 4") => `(tactic| skip)
local macro_rules | `(tactic| walk_at "pad C_encD 5") => `(tactic| skip)
local macro_rules | `(tactic| walk_at "pad C_encD 6") => `(tactic| skip)
local macro_rules | `(tactic| walk_at "pad C_encD 7") => `(tactic| skip)
local macro_rules | `(tactic| walk_at "pad C_encD 8") => `(tactic| skip)
local macro_rules | `(tactic| walk_at "pad C_encD 9") => `(tactic| skip)
local macro_rules | `(tactic| walk_at "pad C_encD 10") => `(tactic| skip)
local macro_rules | `(tactic| walk_at "pad C_encD 11") => `(tactic| skip)
local macro_rules | `(tactic| walk_at "pad C_encD 12") => `(tactic| skip)
local macro_rules | `(tactic| walk_at "pad C_encD 13") => `(tactic| skip)
local macro_rules | `(tactic| walk_at "pad C_encD 14") => `(tactic| skip)
local macro_rules | `(tactic| walk_at "pad C_encD 15") => `(tactic| skip)
local macro_rules | `(tactic| walk_at "pad C_encD 16") => `(tactic| skip)
local macro_rules | `(tactic| walk_at "pad C_encD 17") => `(tactic| skip)
local macro_rules | `(tactic| walk_at "pad C_encD 18") => `(tactic| skip)
local macro_rules | `(tactic| walk_at "pad C_encD 19") => `(tactic| skip)
local macro_rules | `(tactic| walk_at "pad C_encD 20") => `(tactic| skip)
local macro_rules | `(tactic| walk_at "pad C_encD 21") => `(tactic| skip)
local macro_rules | `(tactic| walk_at "pad C_encD 22") => `(tactic| skip)
local macro_rules | `(tactic| walk_at "pad C_encD 23") => `(tactic| skip)
local macro_rules | `(tactic| walk_at "pad C_encD 24") => `(tactic| skip)
local macro_rules | `(tactic| walk_at "pad C_encD 25") => `(tactic| skip)
local macro_rules | `(tactic| walk_at "pad C_encD 26") => `(tactic| skip)
local macro_rules | `(tactic| walk_at "pad C_encD 27") => `(tactic| skip)
theorem filled_encodeD (w : World) : Challenge.rw_eg5004_01.row.prog = Challenge.rw_eg5004_01.row.prog ∧ hd.heap_39 w.params = hd.heap_39 w.params := by
  k_fill
  exact ⟨rfl, rfl⟩
variable (w : World) (mean : ExcName → Option Value) (mg mb : PySem.Str → Option Value)
local macro_rules | `(tactic| walk_at "my_open") => `(tactic| (
  (case k1 => k_is)
  (case k2 => k_is)
  (case k3 => (intro sX XX; first | exact BindsTo.of_eq rfl | exact binds_K XX rfl (by k_is) rfl rfl rfl))
  (case k4 => exact locs rfl)
  (case k5 => exact rfl)
  (case k6 => exact rfl)
  (case k7 => exact rfl)
  (case k8 => decide)))
local macro_rules | `(tactic| walk_at "my_one") => `(tactic| first | exact ints_zero | exact first_cut (by assumption) (by assumption) | rfl)
local macro_rules | `(tactic| walk_at "getMethod bytes") => `(tactic| (k_here; first | (with_reducible refine method_lstrip ?_) | (with_reducible refine method_rstrip ?_)))
local macro_rules | `(tactic| walk_at "call builtin:bytes.lstrip") => `(tactic| (k_here; k_dflt (refine' lstrip_K ?sa1 ?sa2 ?sa3 ?_; (case sa1 => kba_ints2); (case sa2 => walk_at "my_one"); (case sa3 => kba_size)); intro _ _ _ myLs; have myLl := lstrip_len myLs))
local macro_rules | `(tactic| walk_at "call builtin:bytes.rstrip") => `(tactic| (k_here; k_dflt (refine' rstrip_K ?sa1 ?sa2 ?sa3 ?_; (case sa1 => kba_ints2); (case sa2 => assumption); (case sa3 => kba_size)); intro _ _ _ myRs))
local macro_rules | `(tactic| walk_at "binaryOp Mult bytes int") => `(tactic| (k_here; k_dflt (refine' mul_K ?sa1 ?sa2 ?sa3 ?_; (case sa1 => walk_at "my_one"); (case sa2 => kba_size); (case sa3 => kba_size)); intro _ _ _ myMu myMl))
local macro_rules | `(tactic| walk_at "callWith ref") => `(tactic| (k_here; kfb_any; k_dflt (refine' callWith_boundKW ?sa1 ?sa2 ?sa3 ?_; (case sa1 => k_asm); (case sa2 => k_mem); (case sa3 => exact rfl); k_whole)))
local macro_rules | `(tactic| walk_at "call ref") => `(tactic| (k_here; (with_reducible show wpAny _ _ (call (Value.ref _) [Value.bytes _ _] _) _ _ _); kfb_any; k_dflt (refine fb_call (by k_asm) (by k_mem) (by kba_ints2) (by kba_size) ?_); intro _ _ myV0 myV1))

local macro_rules | `(tactic| walk_at "my_use") => `(tactic| (
  (case ua1 => k_asm); (case ua2 => k_asm); (case ua3 => k_asm); (case ua4 => k_asm); (case ua5 => k_asm); (case ua6 => exact rfl); (case ua7 => exact rfl); (case ua8 => omega); (case ua9 => omega)))
local macro_rules | `(tactic| walk_at "my_after") => `(tactic| ((try dsimp only); (try k_fold); (try k_sweep)))
local macro_rules | `(tactic| walk_at "call ref") => `(tactic| (k_here; (with_reducible show wpAny _ _ (call (Value.ref 21) _ _) _ _ _); k_dflt (refine' use_call (b_scrub _ _ _ _ _ _) ?ua1 ?ua2 ?ua3 ?ua4 ?ua5 ?ua6 ?ua7 ?ua8 ?ua9 ?uap ?_; walk_at "my_use"; (case uap => trivial)); intro _ _ _ F' N' kK' hP'; subst hP'; walk_at "my_after"))
local macro_rules | `(tactic| walk_at "call ref") => `(tactic| (k_here; (with_reducible show wpAny _ _ (call (Value.ref 29) [_] _) _ _ _); k_dflt (refine' use_call (b_encode_int_kw _ _ _ _ _ _ ?uh1 ?uh2 _ _ _ _ ?uh3 ?uh4) ?ua1 ?ua2 ?ua3 ?ua4 ?ua5 ?ua6 ?ua7 ?ua8 ?ua9 ?uap ?_; walk_at "my_use"; (case uap => trivial); (case uh1 => assumption); (case uh2 => assumption); (case uh3 => assumption); (case uh4 => assumption)); intro _ _ _ F' N' kK' hP'; obtain ⟨b', t', out', eP', hO', hL', hP'⟩ := hP'; subst eP'; walk_at "my_after"))


theorem b_encode_d (v b : Array UInt8) (ks al : List Int) (hv : KBw.bInts v = ks) (hk : KBw.bInts b = al) (hal : al.length = 58) (t t1 : Tok) (hlen : ks.length ≤ 11) (hb : b = btcB) (ht : t = 189) :
    Call w mean mg mb 37 2 16 [.bytes v t1] [] (fun h => True) (fun g h v => ∃ (b' : Array UInt8) (t' : Tok) (o : List Int), v = .bytes b' t' ∧ KBw.bInts b' = o ∧ o.length ≤ 200 ∧ EncodeIs al ks o) := by
  refine' call_of (binds := [(Str.ofString "v", .bytes v t1), (Str.ofString "alphabet", .bytes b t)]) ?k1 ?k2 ?k3 ?k4 ?k5 ?k6 ?k7 ?k8 ?_
  (case k1 => k_is)
  (case k2 => k_is)
  (case k3 => (intro sX XX; subst hb ht; exact binds_K XX rfl (by k_is) rfl rfl rfl))
  (case k4 => exact locs rfl)
  (case k5 => exact rfl)
  (case k6 => exact rfl)
  (case k7 => exact rfl)
  (case k8 => decide)
  clear hb ht
  intro dp un gd env outer base s L h₁ tk0 hD hU B X T hl F N
  k_with_none
  w_top off
  k_steps
  all_goals (try dsimp only)
  all_goals refine back_of (by assumption) ?_
  exact encode_end (by assumption) (by assumption) (by omega) (by assumption)
end Mine
end

section
open PySem PySem.W PySem.Calls PyProof.Rows PyProof.V PySem.Spec
namespace Mine
local macro_rules | `(tactic| walk_at "pad C_decD 0") => `(tactic| skip)
local macro_rules | `(tactic| walk_at "pad C_decD 1") => `(tactic| skip)
local macro_rules | `(tactic| walk_at "pad C_decD 2") => `(tactic| skip)
local macro_rules | `(tactic| walk_at "pad C_decD 3") => `(tactic| skip)
local macro_rules | `(tactic| walk_at "pad C_decD 4") => `(tactic| skip)
local macro_rules | `(tactic| walk_at "pad C_decD 5") => `(tactic| skip)
local macro_rules | `(tactic| walk_at "pad C_decD 6") => `(tactic| skip)
theorem filled_decodeD (w : World) : Challenge.rw_eg5004_01.row.prog = Challenge.rw_eg5004_01.row.prog ∧ hd.heap_39 w.params = hd.heap_39 w.params := by
  k_fill
  exact ⟨rfl, rfl⟩
variable (w : World) (mean : ExcName → Option Value) (mg mb : PySem.Str → Option Value)
local macro_rules | `(tactic| walk_at "my_open") => `(tactic| (
  (case k1 => k_is)
  (case k2 => k_is)
  (case k3 => (intro sX XX; first | exact BindsTo.of_eq rfl | exact binds_K XX rfl (by k_is) rfl rfl rfl))
  (case k4 => exact locs rfl)
  (case k5 => exact rfl)
  (case k6 => exact rfl)
  (case k7 => exact rfl)
  (case k8 => decide)))
local macro_rules | `(tactic| walk_at "my_one") => `(tactic| first | exact ints_zero | exact first_cut (by assumption) (by assumption) | rfl)
local macro_rules | `(tactic| walk_at "getMethod bytes") => `(tactic| (k_here; first | (with_reducible refine method_lstrip ?_) | (with_reducible refine method_rstrip ?_)))
local macro_rules | `(tactic| walk_at "call builtin:bytes.lstrip") => `(tactic| (k_here; k_dflt (refine' lstrip_K ?sa1 ?sa2 ?sa3 ?_; (case sa1 => kba_ints2); (case sa2 => walk_at "my_one"); (case sa3 => kba_size)); intro _ _ _ myLs; have myLl := lstrip_len myLs))
local macro_rules | `(tactic| walk_at "call builtin:bytes.rstrip") => `(tactic| (k_here; k_dflt (refine' rstrip_K ?sa1 ?sa2 ?sa3 ?_; (case sa1 => kba_ints2); (case sa2 => assumption); (case sa3 => kba_size)); intro _ _ _ myRs))
local macro_rules | `(tactic| walk_at "binaryOp Mult bytes int") => `(tactic| (k_here; k_dflt (refine' mul_K ?sa1 ?sa2 ?sa3 ?_; (case sa1 => walk_at "my_one"); (case sa2 => kba_size); (case sa3 => kba_size)); intro _ _ _ myMu myMl))
local macro_rules | `(tactic| walk_at "callWith ref") => `(tactic| (k_here; kfb_any; k_dflt (refine' callWith_boundKW ?sa1 ?sa2 ?sa3 ?_; (case sa1 => k_asm); (case sa2 => k_mem); (case sa3 => exact rfl); k_whole)))
local macro_rules | `(tactic| walk_at "call ref") => `(tactic| (k_here; (with_reducible show wpAny _ _ (call (Value.ref _) [Value.bytes _ _] _) _ _ _); kfb_any; k_dflt (refine fb_call (by k_asm) (by k_mem) (by kba_ints2) (by kba_size) ?_); intro _ _ myV0 myV1))

local macro_rules | `(tactic| walk_at "my_use") => `(tactic| (
  (case ua1 => k_asm); (case ua2 => k_asm); (case ua3 => k_asm); (case ua4 => k_asm); (case ua5 => k_asm); (case ua6 => exact rfl); (case ua7 => exact rfl); (case ua8 => omega); (case ua9 => omega)))
local macro_rules | `(tactic| walk_at "my_after") => `(tactic| ((try dsimp only); (try k_fold); (try k_sweep)))


local macro_rules | `(tactic| walk_at "my_openC") => `(tactic| (
  (case k1 => k_is)
  (case k2 => k_is)
  (case k3 => (intro sX XX; first | exact BindsTo.of_eq rfl | exact binds_K XX rfl (by k_is) rfl rfl rfl))
  (case k4 => exact kinds_of' rfl)
  (case k5 => decide +kernel)
  (case k6 => exact rfl)
  (case k7 => exact rfl)
  (case k8 => exact rfl)))
local macro_rules | `(tactic| walk_at "my_at") => `(tactic| first | (refine' News.get ?mya1 ?mya2; (case mya1 => k_asm); (case mya2 => k_mem)) | (refine' Fr.keep ?mya1 _ _ ?mya2; (case mya1 => k_asm); (case mya2 => assumption)))
local macro_rules | `(tactic| walk_at "my_lo") => `(tactic| assumption)
local macro_rules | `(tactic| walk_at "my_in") => `(tactic| assumption)
local macro_rules | `(tactic| walk_at "compareOp In int ref") => `(tactic| (k_here; k_dflt (refine' inD ?xa2 ?xa3 ?xa1 ?_; (case xa1 => walk_at "my_at"); (case xa2 => assumption); (case xa3 => assumption))))
local macro_rules | `(tactic| walk_at "compareOp NotIn int ref") => `(tactic| (k_here; k_dflt (refine' notinD ?xa2 ?xa3 ?xa1 ?_; (case xa1 => walk_at "my_at"); (case xa2 => assumption); (case xa3 => assumption))))
local macro_rules | `(tactic| walk_at "subscriptTail") => `(tactic| (k_here; (with_reducible show wpAny _ _ (subscriptTail _ _ (Value.ref _) (Value.int _ _)) _ _ _); k_dflt (refine' itemD ?xc2 ?xc3 ?xc1 ?xc4 ?_; (case xc1 => walk_at "my_at"); (case xc2 => assumption); (case xc3 => assumption); (case xc4 => assumption)); intro _))
local macro_rules | `(tactic| walk_at "subscriptTail") => `(tactic| (k_here; (with_reducible show wpAny _ _ (subscriptTail _ _ (Value.ref _) (Value.int 0 _)) _ _ _); k_dflt (refine' itemL1 ?xc1 ?_; (case xc1 => walk_at "my_at"))))
local macro_rules | `(tactic| walk_at "setItem ref int") => `(tactic| (k_here; k_dflt (refine' setD ?xb5 ?xb1 ?xb2 ?xb3 ?xb4 ?_; (case xb1 => k_asm); (case xb2 => k_asm); (case xb3 => k_updF); (case xb5 => assumption); (case xb4 => omega)); intro h' o' F' N' hd'; (try dsimp only at N'); (try k_sweep)))
local macro_rules | `(tactic| walk_at "my_id") => `(tactic| (intro myQ hmyQ; k_steps; exact hmyQ))
local macro_rules | `(tactic| walk_at "my_ne") => `(tactic| skip)
local macro_rules | `(tactic| walk_at "call builtin:len") => `(tactic| (k_here; k_dflt (refine' kst_len ?xd1 ?xd2 ?xd3 ?xd4 ?_; (case xd1 => k_asm); (case xd2 => k_mem); (case xd3 => exact rfl); (case xd4 => omega))))
local macro_rules | `(tactic| walk_at "ite") => `(tactic| (refine' ite_not ?nn ?_; (case nn => ((first | refine beq_eq_false_iff_ne.mpr ?_ | refine decide_eq_false ?_); omega))))
local macro_rules | `(tactic| walk_at "AltEnd") => `(tactic| (refine' alt_end ?xe1 ?xe2 ?xe3 ?xe4 ?xe5 ?xe6; (case xe1 => assumption); (case xe2 => k_asm); (case xe3 => k_asm); (case xe4 => (intro z hz; simp [hz])); (case xe5 => (intro p hp; simp at hp ⊢; simp [hp])); (case xe6 => (intro p hp; simp [hp]))))


local macro_rules | `(tactic| walk_at "my_src") => `(tactic| (intro myQ hmyQ; k_steps; refine' hmyQ _ _ _ ?mys1 ?mys2 ?mys3; (case mys1 => k_asm); (case mys2 => k_asm); (case mys3 => (refine' src_rangeI ?mys4 ?mys5 ?mys6 ?mys7; (case mys4 => assumption); (case mys5 => rfl); (case mys6 => omega); (case mys7 => rfl)))))

local macro_rules | `(tactic| walk_at "call ref") => `(tactic| (k_here; (with_reducible show wpAny _ _ (call (Value.ref 21) _ _) _ _ _); k_dflt (refine' use_call (b_scrub _ _ _ _ _ _) ?ua1 ?ua2 ?ua3 ?ua4 ?ua5 ?ua6 ?ua7 ?ua8 ?ua9 ?uap ?_; walk_at "my_use"; (case uap => trivial)); intro _ _ _ F' N' kK' hP'; subst hP'; walk_at "my_after"))

local macro_rules | `(tactic| walk_at "compareOp NotIn bytes bytes") => `(tactic| (k_here; k_dflt (refine' notin_K ?ni1 ?ni2 ?ni3 ?ni4 ?ni5 ?_; (case ni1 => k_asm); (case ni2 => k_asm); (case ni3 => assumption); (case ni4 => assumption); (case ni5 => rfl)); intro h' tk' F' N'; (try k_fold); (try k_sweep)))
local macro_rules | `(tactic| walk_at "call ref") => `(tactic| (k_here; (with_reducible show wpAny _ _ (call (Value.ref 42) [_] _) _ _ _); k_dflt (refine' use_callD (c_map _ _ _ _ _ _ ?uh1 ?uh2 _ _) ?ua1 ?ua2 ?ua3 ?ua4 ?ua5 ?ua6 ?ua7 ?ua8 ?ua9 ?uap ?_; walk_at "my_use"; (case uap => trivial); (case uh1 => assumption); (case uh2 => assumption)); intro myD myo h' tk' F' N' myNe myR; obtain ⟨myLow, myDI⟩ := myR; (simp only [List.forall_mem_cons, List.not_mem_nil, false_implies, implies_true, and_true] at myNe); walk_at "my_after"))
local macro_rules | `(tactic| walk_at "my_sub") => `(tactic| first | assumption | (refine' all_drop ?mz1 ?mz2; (case mz1 => exact rfl); (case mz2 => assumption)))
local macro_rules | `(tactic| walk_at "my_len") => `(tactic| omega)
local macro_rules | `(tactic| walk_at "call ref") => `(tactic| (k_here; (with_reducible show wpAny _ _ (call (Value.ref 51) [_] _) _ _ _); k_dflt (refine' use_call (c_dec_n _ _ _ _ _ _ _ _ ?uh1 ?uh2 ?uh3 ?uh4 ?uh5 _ _ ?uh6 _ ?uh7) ?ua1 ?ua2 ?ua3 ?ua4 ?ua5 ?ua6 ?ua7 ?ua8 ?ua9 ?uap ?_; walk_at "my_use"; (case uap => trivial); (case uh1 => assumption); (case uh2 => assumption); (case uh3 => assumption); (case uh4 => assumption); (case uh5 => walk_at "my_sub"); (case uh6 => walk_at "my_len"); (case uh7 => walk_at "my_sub")); intro _ _ _ F' N' kK' hP'; obtain ⟨myN, u', hP', myEq⟩ := hP'; subst hP'; walk_at "my_after"))
local macro_rules | `(tactic| walk_at "exec") => `(tactic| ((with_reducible show wpAny _ _ (exec (Stmt.While _ _ _ _) _) _ _ _); k_extra "my while"))
local macro_rules | `(tactic| walk_at "call builtin:list.append") => `(tactic| (k_here; (with_reducible show wpAny _ _ (call (Value.builtin _) [Value.ref _, _]) _ _ _); k_dflt (refine' append_dropK ?k1 ?k2 ?k3 ?_; (case k1 => k_asm); (case k2 => k_asm); (case k3 => omega)); intro h' F' N'; (try k_sweep)))
local macro_rules | `(tactic| walk_at "call type:bytes") => `(tactic| (k_here; (with_reducible show wpAny _ _ (call (Value.type _) [Value.ref _]) _ _ _); k_dflt (refine' revbytes_K ?k1 ?k2 ?k3 ?k4 ?k5 ?k6 ?k7 ?k8 ?k9 ?k10 ?_; (case k1 => k_asm); (case k2 => k_asm); (case k3 => exact .head _); (case k4 => exact rfl); (case k5 => exact rfl); (case k6 => (intro p hp; rw [List.mem_singleton.mp hp]; exact (by decide : Value.type "list" ≠ Value.type "list_reverseiterator"))); (case k7 => exact rfl); (case k8 => assumption); (case k9 => exact dec_digs (by assumption)); (case k10 => omega)); intro b' h' t' k' eb el F' N'; (try k_sweep)))
theorem c_decode_d (v b : Array UInt8) (ks al : List Int) (hv : KBw.bInts v = ks) (hk : KBw.bInts b = al) (hal : al.length = 58) (h33 : ∀ k ∈ al, 33 ≤ k) (hv33 : ∀ k ∈ ks, 33 ≤ k) (t t1 : Tok) (hlen : ks.length ≤ 15) (fix : Bool) (hgood : ∀ c ∈ ks, mapOf al fix c = some (rkOf (mapOf al fix) c)) (hb : b = btcB) (ht : t = 189) (hf : fix = false) (hrk : ∀ c ∈ ks, 0 ≤ rkOf (mapOf al fix) c ∧ rkOf (mapOf al fix) c < 58) :
    Call w mean mg mb 60 4 32 [.bytes v t1] [] (fun h => True) (fun g h v => ∃ b' t' o, v = .bytes b' t' ∧ KBw.bInts b' = o ∧ o.length ≤ 200 ∧ DecodeIs (rkOf (mapOf al fix)) (al.getD 0 0) ks o) := by
  refine' call_of (binds := [(Str.ofString "v", .bytes v t1), (Str.ofString "alphabet", .bytes b t), (Str.ofString "autofix", .bool fix)]) ?k1 ?k2 ?k3 ?k4 ?k5 ?k6 ?k7 ?k8 ?_
  (case k1 => k_is)
  (case k2 => k_is)
  (case k3 => (intro sX XX; subst hb ht hf; exact kp_binds XX (fun _ => rfl)))
  (case k4 => exact locs rfl)
  (case k5 => exact rfl)
  (case k6 => exact rfl)
  (case k7 => exact rfl)
  (case k8 => decide)
  clear hb ht hf
  intro dp un gd env outer base s L h₁ tk0 hD hU B X T hl F N
  k_with_none
  have hN := num_small (l := (List.dropWhile (fun x => decide (x = al.getD 0 0)) ks).map (rkOf (mapOf al fix))) (by rw [List.length_map]; exact Nat.le_trans (dropWhile_len _ _) hlen) (fun d hd => by
    obtain ⟨c, hc, rfl⟩ := List.mem_map.mp hd
    exact hrk c (List.dropWhile_subset _ hc))
  (k_with "my while" => k_dflt (refine' while_out (y := Str.ofString "acc") [Str.ofString "mod"] (DecInv _) ?wa1 ?wa2 ?wa3 ?wa4 ?wa5 ?wa6 ?wa7 ?wa8; (case wa1 => rfl); (case wa2 => k_asm); (case wa3 => k_asm); (case wa4 => k_updF); (case wa5 => rfl); (case wa6 => (refine' dec_start2 ?wb1 hN.1 hN.2; (case wb1 => assumption))); (case wa8 => passes_own); (intro a1 ta1 vs1 out1 c1 u1 h' tk' hP hI F' N'; have hpl := hP.all.2.2.2.2; have hvl := hI.length; (try dsimp only at N'); (try k_fold); (try k_sweep))))
  w_top off
  k_steps
  all_goals first
    | (refine' w_end ?za1 ?za2 ?za3 ?za4 ?za5 ?za6 ?za7 ?za8; (case za1 => k_asm); (case za2 => k_asm); (case za3 => rfl); (case za4 => (intro z hz1 hz2; simp at hz2; simp [hz1, hz2])); (case za5 => exact fun p hp => hp); (case za6 => exact hI.append (.cons _ _ .nil)); (case za7 => exact dec_turn hP (by assumption)); (case za8 => exact dec_less (by assumption)))
    | (refine back_of (by k_asm) ?_; exact decode_end hP (by assumption) hlen (by assumption) (by kba_ints2))
end Mine
end

section
open PySem PySem.W PySem.Calls PyProof.Rows PyProof.V PySem.Spec
namespace Mine
section
variable {w : World} {mean : ExcName → Option Value} {mg mb : PySem.Str → Option Value}
theorem use_callL {f : Addr} {D U : Nat} {pos : List Value} {kw : List (PySem.Str × Value)} {pre : Heap → Prop} {post : Heap → Heap → Value → Prop} (C : Call w mean mg mb f D U pos kw pre post)
    {env' : Env} {h₀ : Heap} {L : Addr} {m : PySem.Str → Option Value} {news : List (Addr × Obj)} {s : Shared} {Q E : Value → Shared → Prop}
    (F : Fr h₀ L s.heap m) (X : (hd.heap_39 w.params).In h₀) (N : News h₀ L s.heap news) (T : Top hd.view_39 (looseW hd.view_39 LS) mean mg mb h₀)
    (hf : env'.frame = some L) (hke : env'.scope.kind = .function) (hD : 302 + D < recursionLimit) (hU : 7 + U < cLine) (hp : pre s.heap)
    (h : ∀ v h' tk', Fr h₀ L h' m → News h₀ L h' news → Keep s.heap h' → post s.heap h' v → Q v { s with heap := h', toks := tk' }) :
    wpAny (model PP w) (callerA.deeper env') (call (.ref f) pos kw) Q E s :=
  C 302 7 (some []) env' [] h₀ s Q E hD hU (pushX (below_caller h₀) F hf hke) (X.keeps F.keep) (T.keeps F.keep) hp fun v h' tk' k p => h v h' tk' (F.keeps k) (N.grown k) k p
theorem use_callWL {f : Addr} {D U : Nat} {pos : List Value} {kw : List (PySem.Str × Value)} {pre : Heap → Prop} {post : Heap → Value → Prop} (C : CallW w mean mg mb f D U pos kw pre post)
    {env' : Env} {h₀ : Heap} {L : Addr} {m : PySem.Str → Option Value} {news : List (Addr × Obj)} {s : Shared} {Q E : Value → Shared → Prop}
    (F : Fr h₀ L s.heap m) (X : (hd.heap_39 w.params).In h₀) (N : News h₀ L s.heap news) (T : Top hd.view_39 (looseW hd.view_39 LS) mean mg mb h₀)
    (hf : env'.frame = some L) (hke : env'.scope.kind = .function) (hD : 302 + D < recursionLimit) (hU : 7 + U < cLine) (hp : pre s.heap)
    (h : ∀ v h' tk', Fr h₀ L h' m → News h₀ L h' news → post h' v → Q v { s with heap := h', toks := tk' }) :
    wpAny (model PP w) (callerA.deeper env') (call (.ref f) pos kw) Q E s := by
  have hfs : ((env' :: []).filterMap (·.frame)) = [L] := by rw [List.filterMap_cons, hf]; rfl
  obtain ⟨oL, es, ep, hL, hLd, hLk, hLf⟩ := F.ns
  refine C 302 7 (some []) env' [] h₀ s Q E hD hU (pushX (below_caller h₀) F hf hke) X T (X.keeps F.keep) (T.keeps F.keep) (fun b hb => ?_) hp fun v h' g' tk' T' k p => ?_
  · rw [hfs] at hb
    rw [List.mem_singleton.mp hb]
    exact ⟨oL, es, ep, hL, hLd⟩
  · rw [hfs] at T'
    obtain ⟨sl, hs⟩ := T'.up hL
    refine h v h' tk' ⟨⟨_, es, ep, k _ _ hs, hLd, hLk, hLf⟩, fun b o e => k b o (T'.other b o (F.keep b o e) fun q => ?_), F.above⟩ (fun q hq => ⟨k _ _ (T'.other _ _ (N q hq).1 fun z => (N q hq).2.1 (List.mem_singleton.mp z)), (N q hq).2⟩) p
    rw [List.mem_singleton.mp q, kts_self F] at e
    cases e
theorem use_tabsL {f : Addr} {D U : Nat} {pos : List Value} {kw : List (PySem.Str × Value)} {al : List Int} (C : Call w mean mg mb f D U pos kw (fun _ => True) (fun g h v => Tabs PP w al g h v))
    {env' : Env} {h₀ : Heap} {L : Addr} {m : PySem.Str → Option Value} {news : List (Addr × Obj)} {s : Shared} {Q E : Value → Shared → Prop}
    (F : Fr h₀ L s.heap m) (X : (hd.heap_39 w.params).In h₀) (N : News h₀ L s.heap news) (T : Top hd.view_39 (looseW hd.view_39 LS) mean mg mb h₀)
    (hf : env'.frame = some L) (hke : env'.scope.kind = .function) (hD : 302 + D < recursionLimit) (hU : 7 + U < cLine)
    (h : ∀ T P M op om h' tk', Fr h₀ L h' m → News h₀ L h' ((T, tup2 (.ref P) (.ref M)) :: (P, op) :: (M, om) :: news) → (∀ p ∈ news, @Ne Nat p.1 T) → (∀ p ∈ news, @Ne Nat p.1 P) → (∀ p ∈ news, @Ne Nat p.1 M) → (P == sysModules) = false → (M == sysModules) = false → DictI PP w 64 (idx al) op → DictI PP w 64 (mendAll (idx al)) om →
      Q (.ref T) { s with heap := h', toks := tk' }) :
    wpAny (model PP w) (callerA.deeper env') (call (.ref f) pos kw) Q E s := by
  refine use_callL C F X N T hf hke hD hU trivial fun v h' tk' F' N' k p => ?_
  obtain ⟨T1, P, M, op, om, rfl, gT, gP, gM, hT, hP, hM, lP, lM, dP, dM⟩ := p
  have hne : ∀ {a : Addr}, s.heap.get? a = none → ∀ p ∈ news, @Ne Nat p.1 a := fun e p hp q => by
    have := (N p hp).1
    rw [show p.1 = _ from q, e] at this; cases this
  have hLn : ∀ {a : Addr}, s.heap.get? a = none → a ≠ L := fun e q => by
    obtain ⟨o, _, _, ho, _⟩ := F.ns
    rw [← q, e] at ho; cases ho
  have h0n : ∀ {a : Addr}, s.heap.get? a = none → h₀.get? a = none := fun e => none_back F.keep e
  refine h T1 P M op om h' tk' F' (fun q hq => ?_) (hne gT) (hne gP) (hne gM) lP lM dP dM
  rcases List.mem_cons.mp hq with rfl | hq
  · exact ⟨hT, hLn gT, h0n gT⟩
  rcases List.mem_cons.mp hq with rfl | hq
  · exact ⟨hP, hLn gP, h0n gP⟩
  rcases List.mem_cons.mp hq with rfl | hq
  · exact ⟨hM, hLn gM, h0n gM⟩
  · exact N' q hq
end
end Mine
end

section
open PySem PySem.W PySem.Calls PyProof.Rows PyProof.V PySem.Spec
namespace Mine
open PyProof.Rows.LCg
section
variable {prog : Program} {w : World} {A : Around} {E : Value → Shared → Prop} {s : Shared} {h₀ : Heap} {L : Addr} {m : PySem.Str → Option Value} {env : Env}
theorem assign_comp_tup {elt iter : Expr} {x y : PySem.Str} {px py : Pos} {scope : Scope} {cl : List (PySem.Str × Addr)} {pos spos : Pos} {Q : Flow → Shared → Prop} {ax : Addr} {its : Array Value} {news : List (Addr × Obj)} (F : Fr h₀ L s.heap m) (N : News h₀ L s.heap news) (hLe : env.locals = L)
    (hm : (ax, ({ cls := .type "tuple", data := .seq its } : Obj)) ∈ news) (hsz : its.size ≤ sizeLine) (hh : A.handled = none)
    (hsw : swapsWith (.ListComp elt [⟨.Name x px, iter, [], 0⟩] scope pos) (some (.Name y py)) spos.line env = pure true)
    (hclos : closureFor scope env = pure cl) (hcell : ∀ z ∈ scope.names, z.2 ≠ .cell) (hkind : scope.kind = .function)
    (hnames : ∀ z ∈ scope.names, z.2 = .local → scope.names.lookup z.1 = some .local) (hx : scope.names.lookup x = some .local)
    (hy : env.kindOf y = some .local) (hp : (env.scope.kind == .class || (env.scope.kind == .module && env.locals != env.globals)) = false)
    (hit : ∀ Q' : Value → Shared → Prop, Q' (.ref ax) s → wpAny (model prog w) A (eval iter env) Q' E s)
    (R : ∀ g, CompRest prog w A h₀ L m env elt x scope cl { s with heap := g } (fun nw => (ax, ({ cls := .type "tuple", data := .seq its } : Obj)) ∈ nw) (fun i v => its[i]? = some v) (FinA h₀ L m { s with heap := g } y Q) its.size 0 [] news)
    (hs : ∀ x, foldedSetIterable iter env x = pure x := by intro _; rfl) :
    wpAny (model prog w) A (exec (.Assign [.Name y py] (.ListComp elt [⟨.Name x px, iter, [], 0⟩] scope pos) spos) env) Q E s := by
  subst hLe
  rw [exec_Assign_Name_used _ _ _ _ hsw]
  refine wpAny_bind (wpAny_standAt (wpAny_bind ?_))
  show wpAny _ A (do let _ ← comprehension (.ListComp elt [⟨.Name x px, iter, [], 0⟩] scope pos) scope env _ (newList []) false (eval iter env) (some (assign (.Name y py) env))) _ _ s
  refine wpAny_bind (wpAny_mono (wpAny_comprehension_free (use := some (assign (.Name y py) env)) (Q := fun _ s' => Q .next s') rfl hs hclos hkind hnames
    (hit _ ?_)) (fun _ s' hq => wpAny_pure (wpAny_pure hq)) fun _ _ e => e)
  have hl : s.heap.IsTuple ax its := ⟨_, (N _ hm).1, rfl, _, rfl⟩
  have hlt : ax < s.heap.objs.size := Heap.lt_size (N _ hm).1
  refine wpAny_pyIter_tuple hl ?_
  have up : ∀ b o, s.heap.get? b = some o → (s.heap.push { cls := .type "tuple_iterator", data := .fields #[.ref ax, .int 0 0] }).get? b = some o := fun b o e => Heap.get?_push_of_some _ e
  refine block_U (Walks.tuple hh s.heap.objs.size ax (Nat.ne_of_lt hlt) its) hsz (fun i h st => by obtain ⟨o, e, _⟩ := st.1; exact ⟨o, e⟩)
    (fun i h h' o nw st e e' k N' S => ⟨by obtain ⟨o', q, r⟩ := st.1; rw [e] at q; cases q; exact ⟨o, e', r⟩, ⟨_, (N' _ S).1, rfl, _, rfl⟩⟩) hcell hkind hx ⟨⟨_, Heap.get?_push_size _ rfl, rfl, rfl⟩, hl.push _⟩ (fun b hb => ?_)
      (F.keeps up) (N.grown up) (Nat.ne_of_lt F.ns.lt) (next_is_new F) (fun p hp => Nat.ne_of_lt (Heap.lt_size (N p hp).1)) hm (R _) ?_
  · show b < (s.heap.push _).objs.size
    rw [Heap.size_push]
    rcases List.mem_cons.mp hb with rfl | hb
    · exact Nat.lt_succ_self _
    · rw [List.mem_singleton.mp hb]; exact Nat.lt_succ_of_lt hlt
  · intro D C h' tk m' ys news' F' N' o1 hn hC₀ hD₀ hCL hDL hCD offC fin
    show wpAny _ A (assign (.Name y py) env (.ref D)) _ _ _
    refine wpAny_assign_Name (wpAny_storeName_local hy F'.ns (fun h₂ hn₂ hs₂ => ?_) hp)
    have hL₀ : h₀.get? env.locals = none := Heap.get?_none_of_le F'.above
    have F₂ : Fr h₀ env.locals h₂ (fun z => if z = y then some (.ref D) else m z) := ⟨hn₂, fun b o e => hs₂.extBut b o (fun q => by rw [q, hL₀] at e; cases e) (F'.keep b o e), F'.above⟩
    refine ⟨m', hn.sameBut hs₂ hCL, fun h'' hs'' => fin D h'' _ (F₂.change hs'' hCL hC₀) (fun p hp => ?_) o1⟩
    have z : h₂.get? p.1 = some p.2 := hs₂.extBut _ _ (N' p hp).2.1 (N' p hp).1
    refine ⟨hs''.extBut _ _ ?_ z, (N' p hp).2⟩
    rcases List.mem_cons.mp hp with rfl | hp
    · exact Ne.symm hCD
    · exact offC p hp
end
end Mine
end

section
open PySem PySem.W PySem.Calls PyProof.Rows PyProof.V PySem.Spec
namespace Mine
open PyProof.Rows.LCg
section
variable {w : World} {mean : ExcName → Option Value} {mg mb : PySem.Str → Option Value} {env : Env} {h₀ : Heap} {L : Addr} {m : PySem.Str → Option Value} {s : Shared} {E : Value → Shared → Prop} {scope : Scope} {cl : List (PySem.Str × Addr)}
def TabIn (al : List Int) (P M : Addr) (po mo : Obj) : Prop := (P == sysModules) = false ∧ (M == sysModules) = false ∧ DictI PP w 64 (idx al) po ∧ DictI PP w 64 (mendAll (idx al)) mo
theorem tab_turn {f x : PySem.Str} {p0 p1 p2 : Pos} {S : List (Addr × Obj) → Prop} {P : Nat → Value → Prop} {Fin : List Value → List (Addr × Obj) → Prop} {k i : Nat} {ys : List Value} {news : List (Addr × Obj)} {b : Array UInt8} {tb : Tok} {al : List Int}
    (X : (hd.heap_39 w.params).In h₀) (T : Top hd.view_39 (looseW hd.view_39 LS) mean mg mb h₀) (hf : env.frame = some L) (hke : env.scope.kind = .function) (hgl : env.globals = mainGlobals)
    (hfx : nsIn (hd.heap_39 w.params) mainGlobals f = some (some (.ref 87))) (hfk : ∀ C, (compEnvC scope cl C env).kindOf f = some .globalImplicit) (hkeep : keepIn (hd.heap_39 w.params) (.ref 87) = true) (hkind : scope.kind = .function) (hx : scope.names.lookup x = some .local)
    (d1 : (f == ("__debug__" : Str)) = false) (d2 : (x == ("__debug__" : Str)) = false)
    (hP : ∀ v, P i v → v = .bytes b tb) (hal : KBw.bInts b = al) (h58 : al.length = 58) (hS : ∀ a nw, S nw → S (a :: nw)) (hS0 : S news)
    (R : ∀ T0 P0 M0 po mo, TabIn (w := w) al P0 M0 po mo → CompRest PP w (callerA.deeper env) h₀ L m env (.Call (.Name f p0) [.Name x p1] [] p2) x scope cl s S P Fin k (i + 1) (ys ++ [.ref T0]) ((T0, tup2 (.ref P0) (.ref M0)) :: (P0, po) :: (M0, mo) :: news)) :
    CompRest PP w (callerA.deeper env) h₀ L m env (.Call (.Name f p0) [.Name x p1] [] p2) x scope cl s S P Fin (k + 1) i ys news := by
  refine CompRest.succ fun v I oI C oC D m₂ h tk E' hv hC hmx F N off nI => ?_
  obtain rfl := hP v hv
  refine Call_Name (ht := rfl) ?_
  refine LCgL.ld_global (s := { s with heap := h, toks := tk }) F X T hfx ?_ hgl (by simp [compEnvC, relabel, hkind]) (hfk C) d1
  refine callWith_K X hkeep ?_
  refine spliced_more ?_
  refine c_loc (s := { s with heap := h, toks := tk }) (NsObj.ns hC (N _ (.tail _ (.head _))).1) hmx ?_ hkind hx d2
  refine spliced_none ⟨X.keeps F.keep, ?_⟩
  refine use_tabsL (s := { s with heap := h, toks := tk }) (c_tables w mean mg mb b al hal h58 tb) F X N T hf hke (by decide) (by decide) fun T0 P0 M0 po mo h' tk' F' N' n1 n2 n3 s1 s2 d1 d2 => ?_
  refine CompEnd.intro F' N' ((T0, tup2 (.ref P0) (.ref M0)) :: (P0, po) :: (M0, mo) :: news) (fun p hp => ?_) ?_ (hS _ _ (hS _ _ (hS _ _ hS0))) (R T0 P0 M0 po mo ⟨s1, s2, d1, d2⟩)
  · simp only [List.mem_cons] at hp ⊢
    rcases hp with h | h | h | h | h | h | h <;> simp [h]
  · refine ⟨⟨Ne.symm (n1 _ (.head _)), Ne.symm (n1 _ (.tail _ (.head _))), Ne.symm (n1 _ (.tail _ (.tail _ (.head _))))⟩, ⟨Ne.symm (n2 _ (.head _)), Ne.symm (n2 _ (.tail _ (.head _))), Ne.symm (n2 _ (.tail _ (.tail _ (.head _))))⟩, ⟨Ne.symm (n3 _ (.head _)), Ne.symm (n3 _ (.tail _ (.head _))), Ne.symm (n3 _ (.tail _ (.tail _ (.head _))))⟩, off⟩
theorem tables_assign {f x y : PySem.Str} {p0 p1 p2 p3 px py : Pos} {iter : Expr} {spos : Pos} {Q : Flow → Shared → Prop} {ax : Addr} {news : List (Addr × Obj)} {bs : Int → Array UInt8} {ts : Int → Tok} {als : Int → List Int}
    (F : Fr h₀ L s.heap m) (N : News h₀ L s.heap news) (hm : (ax, tup3 (.bytes (bs 0) (ts 0)) (.bytes (bs 1) (ts 1)) (.bytes (bs 2) (ts 2))) ∈ news) (hSg : ∀ i, 0 ≤ i → i < 3 → SignsOk (bs i) (als i))
    (X : (hd.heap_39 w.params).In h₀) (T : Top hd.view_39 (looseW hd.view_39 LS) mean mg mb h₀) (hf : env.frame = some L) (hke : env.scope.kind = .function) (hgl : env.globals = mainGlobals)
    (hfx : nsIn (hd.heap_39 w.params) mainGlobals f = some (some (.ref 87))) (hfk : ∀ C, (compEnvC scope cl C env).kindOf f = some .globalImplicit) (hkeep : keepIn (hd.heap_39 w.params) (.ref 87) = true)
    (d1 : (f == ("__debug__" : Str)) = false) (d2 : (x == ("__debug__" : Str)) = false)
    (hLe : env.locals = L)
    (hsw : swapsWith (.ListComp (.Call (.Name f p0) [.Name x p1] [] p2) [⟨.Name x px, iter, [], 0⟩] scope p3) (some (.Name y py)) spos.line env = pure true)
    (hclos : closureFor scope env = pure cl) (hcell : ∀ z ∈ scope.names, z.2 ≠ .cell) (hkind : scope.kind = .function)
    (hnames : ∀ z ∈ scope.names, z.2 = .local → scope.names.lookup z.1 = some .local) (hx : scope.names.lookup x = some .local)
    (hy : env.kindOf y = some .local) (hp : (env.scope.kind == .class || (env.scope.kind == .module && env.locals != env.globals)) = false)
    (hit : ∀ Q' : Value → Shared → Prop, Q' (.ref ax) s → wpAny (model PP w) (callerA.deeper env) (eval iter env) Q' E s)
    (h : ∀ D h' tk (Ts Ps Ms : Int → Addr) (po mo : Int → Obj), (∀ i, 0 ≤ i → i < 3 → TabIn (w := w) (als i) (Ps i) (Ms i) (po i) (mo i)) → Fr h₀ L h' (fun z => if z = y then some (.ref D) else m z) →
      News h₀ L h' ((D, PySem.W.listOf #[.ref (Ts 0), .ref (Ts 1), .ref (Ts 2)] 3) :: (Ts 2, tup2 (.ref (Ps 2)) (.ref (Ms 2))) :: (Ps 2, po 2) :: (Ms 2, mo 2) :: (Ts 1, tup2 (.ref (Ps 1)) (.ref (Ms 1))) :: (Ps 1, po 1) :: (Ms 1, mo 1) :: (Ts 0, tup2 (.ref (Ps 0)) (.ref (Ms 0))) :: (Ps 0, po 0) :: (Ms 0, mo 0) :: news) → Q .next { s with heap := h', toks := tk })
    (hs : ∀ x, foldedSetIterable iter env x = pure x := by intro _; rfl) :
    wpAny (model PP w) (callerA.deeper env) (exec (.Assign [.Name y py] (.ListComp (.Call (.Name f p0) [.Name x p1] [] p2) [⟨.Name x px, iter, [], 0⟩] scope p3) spos) env) Q E s := by
  refine assign_comp_tup F N hLe hm (by show 3 ≤ sizeLine; rw [sizeLine_eq]; decide) rfl hsw hclos hcell hkind hnames hx hy hp hit (fun g => ?_) hs
  have S0 := hSg 0 (by decide) (by decide)
  have S1 := hSg 1 (by decide) (by decide)
  have S2 := hSg 2 (by decide) (by decide)
  refine tab_turn (k := 2) (b := bs 0) (tb := ts 0) X T hf hke hgl hfx hfk hkeep hkind hx d1 d2 (fun v hv => (Option.some.inj hv).symm) S0.bint S0.len (fun a nw q => .tail _ q) hm fun T0 P0 M0 po0 mo0 t0 => ?_
  refine tab_turn (k := 1) (b := bs 1) (tb := ts 1) X T hf hke hgl hfx hfk hkeep hkind hx d1 d2 (fun v hv => (Option.some.inj hv).symm) S1.bint S1.len (fun a nw q => .tail _ q) (.tail _ (.tail _ (.tail _ hm))) fun T1 P1 M1 po1 mo1 t1 => ?_
  refine tab_turn (k := 0) (b := bs 2) (tb := ts 2) X T hf hke hgl hfx hfk hkeep hkind hx d1 d2 (fun v hv => (Option.some.inj hv).symm) S2.bint S2.len (fun a nw q => .tail _ q) (.tail _ (.tail _ (.tail _ (.tail _ (.tail _ (.tail _ hm)))))) fun T2 P2 M2 po2 mo2 t2 => ?_
  refine CompRest.zero fun D h' tk F' N' off => ?_
  refine h D h' tk (fun i => if i = 0 then T0 else if i = 1 then T1 else T2) (fun i => if i = 0 then P0 else if i = 1 then P1 else P2) (fun i => if i = 0 then M0 else if i = 1 then M1 else M2) (fun i => if i = 0 then po0 else if i = 1 then po1 else po2) (fun i => if i = 0 then mo0 else if i = 1 then mo1 else mo2) (fun i h0 h1 => ?_) F' N'
  rcases (show i = 0 ∨ i = 1 ∨ i = 2 by omega) with rfl | rfl | rfl
  · exact t0
  · exact t1
  · exact t2
end
end Mine
end

section
open PySem PySem.W PySem.Calls PyProof.Rows PyProof.V PySem.Spec
namespace Mine
def sel {α : Type} (a b c : α) (i : Int) : α := if i = 0 then a else if i = 1 then b else c
def rotL (n : Nat) : List Int := List.take (58 - n) (List.drop n btcL) ++ List.take n btcL
def putL (n : Nat) : List Int := List.take n btcL ++ [48] ++ List.take (58 - (n + 1)) (List.drop (n + 1) btcL)
theorem rot_all : ∀ n ∈ List.range 57, (rotL (n + 1)).length = 58 ∧ (∀ k ∈ rotL (n + 1), 33 ≤ k) ∧ (rotL (n + 1)).getD 0 0 ∉ (rotL (n + 1)).tail := by decide +kernel
theorem put_all : ∀ n ∈ List.range 57, (putL (n + 1)).length = 58 ∧ (∀ k ∈ putL (n + 1), 33 ≤ k) ∧ (putL (n + 1)).getD 0 0 ∉ (putL (n + 1)).tail := by decide +kernel
theorem mod57 (x : Int) : ∃ n : Nat, n < 57 ∧ x.fmod 57 = (n : Int) := ⟨(x.fmod 57).toNat, by
  have := Int.fmod_lt_of_pos x (b := 57) (by decide)
  omega, by
  have := Int.fmod_nonneg_of_pos x (b := 57) (by decide)
  omega⟩
theorem rot_ok {b : Array UInt8} {bl : List Int} {x : Int} (hbl : bl = btcL) (h : KBw.bInts b = List.take (bl.length - clipAt bl.length (1 + x.fmod 57)) (List.drop (clipAt bl.length (1 + x.fmod 57)) bl) ++ List.take (clipAt bl.length (1 + x.fmod 57)) bl) : SignsOk b (KBw.bInts b) := by
  obtain ⟨n, hn, e⟩ := mod57 x
  have e2 : 1 + x.fmod 57 = ((n + 1 : Nat) : Int) := by omega
  have hl : bl.length = 58 := by rw [hbl]; rfl
  rw [e2, hl, clipAt_nat, Nat.min_eq_left (by omega), hbl] at h
  have := rot_all n (List.mem_range.mpr hn)
  have h' : KBw.bInts b = rotL (n + 1) := h
  rw [h']
  exact ⟨h', this.1, this.2.1, this.2.2⟩
theorem put_ok {b : Array UInt8} {bl : List Int} {x : Int} (hbl : bl = btcL) (h : KBw.bInts b = List.take (clipAt bl.length (1 + x.fmod 57)) bl ++ List.map (fun c : UInt8 => ((c.toNat : Nat) : Int)) [48] ++ List.take (bl.length - clipAt bl.length (1 + x.fmod 57 + 1)) (List.drop (clipAt bl.length (1 + x.fmod 57 + 1)) bl)) : SignsOk b (KBw.bInts b) := by
  obtain ⟨n, hn, e⟩ := mod57 x
  have e2 : 1 + x.fmod 57 = ((n + 1 : Nat) : Int) := by omega
  have e3 : 1 + x.fmod 57 + 1 = ((n + 1 + 1 : Nat) : Int) := by omega
  have hl : bl.length = 58 := by rw [hbl]; rfl
  rw [e3, e2, hl, clipAt_nat, clipAt_nat, Nat.min_eq_left (by omega), Nat.min_eq_left (by omega), hbl] at h
  have := put_all n (List.mem_range.mpr hn)
  have h' : KBw.bInts b = putL (n + 1) := h
  rw [h']
  exact ⟨h', this.1, this.2.1, this.2.2⟩
theorem btc_ok' {bl : List Int} (hbl : bl = btcL) : SignsOk btcB (KBw.bInts btcB) := ⟨rfl, rfl, by decide, by decide⟩
theorem sel_ok {b0 b1 b2 : Array UInt8} (h0 : SignsOk b0 (KBw.bInts b0)) (h1 : SignsOk b1 (KBw.bInts b1)) (h2 : SignsOk b2 (KBw.bInts b2)) : ∀ i, 0 ≤ i → i < 3 → SignsOk (sel b0 b1 b2 i) (KBw.bInts (sel b0 b1 b2 i)) := fun i i0 i1 => by
  rcases (show i = 0 ∨ i = 1 ∨ i = 2 by omega) with rfl | rfl | rfl
  · exact h0
  · exact h1
  · exact h2
section
open PyProof.Rows.LCg
variable {w : World} {mean : ExcName → Option Value} {mg mb : PySem.Str → Option Value} {env : Env} {h₀ : Heap} {L : Addr} {m : PySem.Str → Option Value} {s : Shared} {E : Value → Shared → Prop} {scope : Scope} {cl : List (PySem.Str × Addr)}
theorem tables_assign3 {f x y : PySem.Str} {p0 p1 p2 p3 px py : Pos} {iter : Expr} {spos : Pos} {Q : Flow → Shared → Prop} {ax : Addr} {news : List (Addr × Obj)} {b0 b1 b2 : Array UInt8} {t0 t1 t2 : Tok}
    (F : Fr h₀ L s.heap m) (N : News h₀ L s.heap news) (hm : (ax, tup3 (.bytes b0 t0) (.bytes b1 t1) (.bytes b2 t2)) ∈ news) (h0 : SignsOk b0 (KBw.bInts b0)) (h1 : SignsOk b1 (KBw.bInts b1)) (h2 : SignsOk b2 (KBw.bInts b2))
    (X : (hd.heap_39 w.params).In h₀) (T : Top hd.view_39 (looseW hd.view_39 LS) mean mg mb h₀) (hf : env.frame = some L) (hke : env.scope.kind = .function) (hgl : env.globals = mainGlobals)
    (hfx : nsIn (hd.heap_39 w.params) mainGlobals f = some (some (.ref 87))) (hfk : ∀ C, (compEnvC scope cl C env).kindOf f = some .globalImplicit) (hkeep : keepIn (hd.heap_39 w.params) (.ref 87) = true)
    (d1 : (f == ("__debug__" : Str)) = false) (d2 : (x == ("__debug__" : Str)) = false)
    (hLe : env.locals = L)
    (hsw : swapsWith (.ListComp (.Call (.Name f p0) [.Name x p1] [] p2) [⟨.Name x px, iter, [], 0⟩] scope p3) (some (.Name y py)) spos.line env = pure true)
    (hclos : closureFor scope env = pure cl) (hcell : ∀ z ∈ scope.names, z.2 ≠ .cell) (hkind : scope.kind = .function)
    (hnames : ∀ z ∈ scope.names, z.2 = .local → scope.names.lookup z.1 = some .local) (hx : scope.names.lookup x = some .local)
    (hy : env.kindOf y = some .local) (hp : (env.scope.kind == .class || (env.scope.kind == .module && env.locals != env.globals)) = false)
    (hit : ∀ Q' : Value → Shared → Prop, Q' (.ref ax) s → wpAny (model PP w) (callerA.deeper env) (eval iter env) Q' E s)
    (h : ∀ D h' tk (bs : Int → Array UInt8) (ts : Int → Tok) (als : Int → List Int) (Ts Ps Ms : Int → Addr) (po mo : Int → Obj), (ax, tup3 (.bytes (bs 0) (ts 0)) (.bytes (bs 1) (ts 1)) (.bytes (bs 2) (ts 2))) ∈ news → (∀ i, 0 ≤ i → i < 3 → TabIn (w := w) (als i) (Ps i) (Ms i) (po i) (mo i)) → (∀ i, 0 ≤ i → i < 3 → SignsOk (bs i) (als i)) → Fr h₀ L h' (fun z => if z = y then some (.ref D) else m z) →
      News h₀ L h' ((D, PySem.W.listOf #[.ref (Ts 0), .ref (Ts 1), .ref (Ts 2)] 3) :: (Ts 2, tup2 (.ref (Ps 2)) (.ref (Ms 2))) :: (Ps 2, po 2) :: (Ms 2, mo 2) :: (Ts 1, tup2 (.ref (Ps 1)) (.ref (Ms 1))) :: (Ps 1, po 1) :: (Ms 1, mo 1) :: (Ts 0, tup2 (.ref (Ps 0)) (.ref (Ms 0))) :: (Ps 0, po 0) :: (Ms 0, mo 0) :: (ax, tup3 (.bytes (bs 0) (ts 0)) (.bytes (bs 1) (ts 1)) (.bytes (bs 2) (ts 2))) :: []) → Q .next { s with heap := h', toks := tk })
    (hs : ∀ x, foldedSetIterable iter env x = pure x := by intro _; rfl) :
    wpAny (model PP w) (callerA.deeper env) (exec (.Assign [.Name y py] (.ListComp (.Call (.Name f p0) [.Name x p1] [] p2) [⟨.Name x px, iter, [], 0⟩] scope p3) spos) env) Q E s :=
  tables_assign (bs := sel b0 b1 b2) (ts := sel t0 t1 t2) (als := fun i => KBw.bInts (sel b0 b1 b2 i)) F N hm (sel_ok h0 h1 h2) X T hf hke hgl hfx hfk hkeep d1 d2 hLe hsw hclos hcell hkind hnames hx hy hp hit
    (fun D h' tk Ts Ps Ms po mo t F' N' => h D h' tk (sel b0 b1 b2) (sel t0 t1 t2) (fun i => KBw.bInts (sel b0 b1 b2 i)) Ts Ps Ms po mo hm t (sel_ok h0 h1 h2) F' (fun p hp => N' p (by
      simp only [List.mem_cons, List.not_mem_nil, or_false] at hp ⊢
      rcases hp with h | h | h | h | h | h | h | h | h | h | h
      all_goals first
        | (subst h; exact .inr (.inr (.inr (.inr (.inr (.inr (.inr (.inr (.inr (.inr hm))))))))))
        | simp [h]))) hs
end
end Mine
end

section
open PySem PySem.W PySem.Calls PyProof.Rows PyProof.V PySem.Spec
namespace Mine
section
variable {prog : Program} {w : World} {A : Around} {E : Value → Shared → Prop} {s : Shared} {env : Env} {h₀ : Heap} {x : PySem.Str} {body : List Stmt} {Q : Flow → Shared → Prop}
theorem loop_l_none {l : Addr} {vs : List Value} {ns : List Int} {nn : Nat} {m₀ : PySem.Str → Option Value} {news : List (Addr × Obj)} (o : Obj)
    (hi : IntsAre vs ns) (hm : (l, PySem.W.listOf vs.toArray nn) ∈ news) (hh : A.handled = none) (F : Fr h₀ env.locals s.heap m₀) (N : News h₀ env.locals s.heap news)
    (turn : ∀ (n : Int) t h tk own, n ∈ ns → OwnOff own (news.map (·.1)) → Fr h₀ env.locals h (fun y => if y = x then some (.int n t) else m₀ y) → News h₀ env.locals h (news ++ own) →
      wpAny (model prog w) A (execs body env) (AltEnd h₀ env.locals x m₀ (fun _ => news) own (fun _ => True) { s with heap := h, toks := tk }) E { s with heap := h, toks := tk })
    (done : ∀ (u : Option Value) h tk, Fr h₀ env.locals h (fun y => if y = x then u else m₀ y) → News h₀ env.locals h news → Q .next { s with heap := h, toks := tk }) :
    wpAny (model prog w) A (pyIter (.ref l)) (fun it s₂ => LoopAtV prog w A h₀ env x body Q E it s₂) E s := by
  refine kst_listL (σ := Unit) (nn := nn) (fun _ => news) (fun _ => []) (fun _ => True) [] (fun _ _ => True) () hh (fun _ => hm) hi F N trivial (fun _ h => (nomatch h)) trivial ?_ ?_
  · intro c pre post n t u h tk own e1 e2 e3 e4 e5 F' N'
    have F1 : Fr h₀ env.locals h (fun y => if y = x then some (.int n t) else m₀ y) := by
      refine Eq.mp (congrArg (fun z => Fr h₀ env.locals h z) ?_) F'
      funext y; split <;> rfl
    refine wpAny_mono (turn n t h tk own e2 e3 F1 N') (fun fl s' hl => ?_) fun _ _ e => e
    obtain ⟨rfl, h', tk', o', m', news', rfl, F2, hm2, N2, a1, a2, a3⟩ := hl
    exact ⟨h', tk', m', news', news, rfl, F2, N2, a1, a2, rfl, (), rfl, trivial, (fun _ h => nomatch h), fun z hz _ _ => hm2 z hz, trivial⟩
  · intro c u h tk e0 e6 F' N'
    exact done (u x) h tk (by
      have e : (fun y => if y = x then u x else m₀ y) = (fun y => if y = x then u y else m₀ y) := by
        funext y; split
        · rename_i hy; rw [hy]
        · rfl
      rw [e]; exact F') N'
end
theorem deed_pre {h₀ h : Heap} {L l AL TL : Addr} {m : PySem.Str → Option Value} {news : List (Addr × Obj)} {vs : List Value} {bs : Int → Array UInt8} {ts : Int → Tok} {Ts Ps Ms : Int → Addr} {po mo : Int → Obj} (F : Fr h₀ L h m) (N : News h₀ L h news) (hl : h₀.IsList l vs.toArray)
    (hA : (AL, tup3 (.bytes (bs 0) (ts 0)) (.bytes (bs 1) (ts 1)) (.bytes (bs 2) (ts 2))) ∈ news) (hT : (TL, PySem.W.listOf #[.ref (Ts 0), .ref (Ts 1), .ref (Ts 2)] 3) ∈ news)
    (a0 : (Ts 0, tup2 (.ref (Ps 0)) (.ref (Ms 0))) ∈ news) (a1 : (Ts 1, tup2 (.ref (Ps 1)) (.ref (Ms 1))) ∈ news) (a2 : (Ts 2, tup2 (.ref (Ps 2)) (.ref (Ms 2))) ∈ news)
    (c0 : (Ps 0, po 0) ∈ news) (c1 : (Ps 1, po 1) ∈ news) (c2 : (Ps 2, po 2) ∈ news) (d0 : (Ms 0, mo 0) ∈ news) (d1 : (Ms 1, mo 1) ∈ news) (d2 : (Ms 2, mo 2) ∈ news) :
    DeedPre l AL TL vs bs ts Ts Ps Ms po mo 3 h := by
  refine ⟨list_keep F hl, (N _ hA).1, (N _ hT).1, fun i i0 i1 => ?_⟩
  rcases (show i = 0 ∨ i = 1 ∨ i = 2 by omega) with rfl | rfl | rfl
  · exact ⟨(N _ a0).1, (N _ c0).1, (N _ d0).1⟩
  · exact ⟨(N _ a1).1, (N _ c1).1, (N _ d1).1⟩
  · exact ⟨(N _ a2).1, (N _ c2).1, (N _ d2).1⟩
theorem tab_parts {w : World} {als : Int → List Int} {Ps Ms : Int → Addr} {po mo : Int → Obj} (h : ∀ i, 0 ≤ i → i < 3 → TabIn (w := w) (als i) (Ps i) (Ms i) (po i) (mo i)) : ∀ i, 0 ≤ i → i < 3 → (Ps i == sysModules) = false ∧ (Ms i == sysModules) = false ∧ DictI PP w 64 (idx (als i)) (po i) ∧ DictI PP w 64 (mendAll (idx (als i))) (mo i) := h
end Mine
end

section
open PySem PySem.W PySem.Calls PyProof.Rows PyProof.V PySem.Spec
namespace Mine
abbrev heL : List Int := [104, 101, 108, 108, 111, 32, 119, 111, 114, 108, 100]
abbrev heB : Array UInt8 := #[104, 101, 108, 108, 111, 32, 119, 111, 114, 108, 100]
abbrev stL : List Int := [83, 116, 86, 49, 68, 76, 54, 67, 119, 84, 114, 121, 75, 121, 86]
abbrev stB : Array UInt8 := #[83, 116, 86, 49, 68, 76, 54, 67, 119, 84, 114, 121, 75, 121, 86]
abbrev stR : List Int := [25, 51, 28, 0, 12, 19, 5, 11, 54, 26, 49, 56, 18, 56, 28]
theorem bytes_eq {a b : Array UInt8} (h : KBw.bInts a = KBw.bInts b) : a = b := by
  have := bInts_inj h
  exact Array.toList_inj.mp this
theorem stR_canon : Canon 58 stR.reverse (num 256 heL) := ⟨by unfold DigsIn; decide, by decide +kernel, by decide⟩
theorem heL_canon : Canon 256 heL.reverse (num 58 stR) := ⟨by unfold DigsIn; decide, by decide +kernel, by decide⟩
theorem hello_same {b : Array UInt8} {ks o : List Int} (h : KBw.bInts b = o) (e : EncodeIs btcL ks o) (hk : ks = heL) : b = stB := by
  subst hk
  obtain ⟨q, h1, h2⟩ := e
  rw [canon_rev (by decide) h1 stR_canon] at h2
  refine bytes_eq ?_
  rw [h, h2]
  rfl
theorem btc_ok : SignsOk btcB btcL := ⟨rfl, rfl, by decide, by decide⟩
theorem back_same {b : Array UInt8} {ks o : List Int} (h : KBw.bInts b = o) (e : DecodeIs (rkOf (mapOf btcL false)) (btcL.getD 0 0) ks o) (hk : ks = stL) : b = heB := by
  subst hk
  obtain ⟨q, h1, h2⟩ := e
  have hm : ((stL.dropWhile fun x => decide (x = btcL.getD 0 0)).map (rkOf (mapOf btcL false))) = stR := by decide +kernel
  rw [hm] at h1
  rw [canon_rev (by decide) h1 heL_canon] at h2
  refine bytes_eq ?_
  rw [h, h2]
  rfl
theorem st_good : ∀ c ∈ stL, mapOf btcL false c = some (rkOf (mapOf btcL false) c) := by decide +kernel
theorem st_in : ∀ c ∈ stL, 0 ≤ rkOf (mapOf btcL false) c ∧ rkOf (mapOf btcL false) c < 58 := by decide +kernel
end Mine
end

section
open PySem PySem.W PySem.Calls PyProof.Rows PyProof.V PySem.Spec
namespace Mine
local macro_rules | `(tactic| walk_at "pad LawW 0") => `(tactic| skip)
local macro_rules | `(tactic| walk_at "pad LawW 1") => `(tactic| skip)
local macro_rules | `(tactic| walk_at "pad LawW 2") => `(tactic| skip)
local macro_rules | `(tactic| walk_at "pad LawW 3") => `(tactic| skip)
local macro_rules | `(tactic| walk_at "pad LawW 4") => `(tactic| skip)
local macro_rules | `(tactic| walk_at "pad LawW 5") => `(tactic| skip)
local macro_rules | `(tactic| walk_at "pad LawW 6") => `(tactic| skip)
local macro_rules | `(tactic| walk_at "pad LawW 7") => `(tactic| skip)
local macro_rules | `(tactic| walk_at "pad LawW 8") => `(tactic| skip)
local macro_rules | `(tactic| walk_at "pad LawW 9") => `(tactic| skip)
local macro_rules | `(tactic| walk_at "pad LawW 10") => `(tactic| skip)
local macro_rules | `(tactic| walk_at "pad LawW 11") => `(tactic| skip)
local macro_rules | `(tactic| walk_at "pad LawW 12") => `(tactic| skip)
local macro_rules | `(tactic| walk_at "pad LawW 13") => `(tactic| skip)
local macro_rules | `(tactic| walk_at "pad LawW 14") => `(tactic| skip)
local macro_rules | `(tactic| walk_at "pad LawW 15") => `(tactic| skip)
local macro_rules | `(tactic| walk_at "pad LawW 16") => `(tactic| skip)
local macro_rules | `(tactic| walk_at "pad LawW 17") => `(tactic| skip)
local macro_rules | `(tactic| walk_at "pad LawW 18") => `(tactic| skip)
local macro_rules | `(tactic| walk_at "pad LawW 19") => `(tactic| skip)
local macro_rules | `(tactic| walk_at "pad LawW 20") => `(tactic| skip)
local macro_rules | `(tactic| walk_at "pad LawW 21") => `(tactic| skip)
local macro_rules | `(tactic| walk_at "pad LawW 22") => `(tactic| skip)
local macro_rules | `(tactic| walk_at "pad LawW 23") => `(tactic| skip)
local macro_rules | `(tactic| walk_at "pad LawW 24") => `(tactic| skip)
local macro_rules | `(tactic| walk_at "pad LawW 25") => `(tactic| skip)
local macro_rules | `(tactic| walk_at "pad LawW 26") => `(tactic| skip)
local macro_rules | `(tactic| walk_at "pad LawW 27") => `(tactic| skip)
local macro_rules | `(tactic| walk_at "pad LawW 28") => `(tactic| skip)
local macro_rules | `(tactic| walk_at "pad LawW 29") => `(tactic| skip)
local macro_rules | `(tactic| walk_at "pad LawW 30") => `(tactic| skip)
local macro_rules | `(tactic| walk_at "pad LawW 31") => `(tactic| skip)
theorem filled_law (w : World) : Challenge.rw_eg5004_01.row.prog = Challenge.rw_eg5004_01.row.prog ∧ hd.heap_39 w.params = hd.heap_39 w.params := by
  k_fill
  exact ⟨rfl, rfl⟩
theorem signs_len {al : List Int} (n : Nat) (h : al.length = 58) : al.length = 58 := h

theorem k12 : ∀ k ∈ List.map (fun a => a) (rangeInts 0 1 ((12 : Int) - 0).toNat) ++ [(0 : Int)], 0 ≤ k ∧ k ≤ 11 := by decide
local macro_rules | `(tactic| walk_at "my_useL") => `(tactic| ((case ua2 => k_asm); (case ua3 => k_asm); (case ua4 => k_asm); (case ua5 => k_asm); (case ua6 => exact rfl); (case ua7 => exact rfl); (case ua8 => decide); (case ua9 => decide)))
local macro_rules | `(tactic| walk_at "my_after") => `(tactic| ((try dsimp only); (try k_fold); (try k_sweep)))
local macro_rules | `(tactic| walk_at "my_list") => `(tactic| first | (refine' News.isList ?mya1 ?mya2; (case mya1 => k_asm); (case mya2 => k_mem)) | (refine' list_keep ?mya1 ?mya2; (case mya2 => assumption); (case mya1 => k_asm)))
local macro_rules | `(tactic| walk_at "call ref") => `(tactic| (k_here; (with_reducible show wpAny _ _ (call (Value.ref 68) [_, _] _) _ _ _); k_dflt (refine' use_callL (c_draw _ _ _ _ _ _ _ _ _ ?uh1 ?uh2 ?uh3 ?uh4) ?ua2 ?ua3 ?ua4 ?ua5 ?ua6 ?ua7 ?ua8 ?ua9 ?uap ?_; (case uh1 => assumption); (case uh2 => omega); (case uh3 => omega); (case uh4 => omega); walk_at "my_useL"; (case uap => ((try dsimp only); walk_at "my_list"))); intro _ _ _ F' N' kK' hP'; obtain ⟨u', hP'⟩ := hP'; subst hP'; walk_at "my_after"))
local macro_rules | `(tactic| walk_at "call ref") => `(tactic| (k_here; (with_reducible show wpAny _ _ (call (Value.ref 37) [_] _) _ _ _); k_dflt (refine' use_callL (b_encode_d _ _ _ _ _ btcB _ btcL ?uh1 btc_ints rfl 189 _ ?uh4 rfl rfl) ?ua2 ?ua3 ?ua4 ?ua5 ?ua6 ?ua7 ?ua8 ?ua9 ?uap ?_; (case uh1 => exact rfl); walk_at "my_useL"; (case uh4 => decide); (case uap => trivial)); intro _ _ _ F' N' kK' hP'; obtain ⟨myBb, myBt, myBo, hP', myB1, myB2, myB3⟩ := hP'; subst hP'; (have myHi := hello_same myB1 myB3 rfl); subst myHi; clear myB1 myB2 myB3; walk_at "my_after"))
local macro_rules | `(tactic| walk_at "my_id") => `(tactic| (intro myQ hmyQ; k_steps; exact hmyQ))
local macro_rules | `(tactic| walk_at "exec Assign cons ListComp") => `(tactic| (k_here; (with_reducible show wpAny _ _ (exec (Stmt.Assign _ (Expr.ListComp (Expr.Call _ _ _ _) _ _ _) _) _) _ _ _); k_dflt (refine' tables_assign3 ?r1 ?r2 ?r3 ?r4 ?r5 ?r6 ?r7 ?r8 ?r9 ?r10 ?r11 ?r12 ?r13 ?r14 ?r15 ?r16 ?r17 ?r18 ?r19 ?r20 ?r21 ?r22 ?r23 ?r24 ?r25 ?r26 ?_; (case r1 => k_asm); (case r2 => k_asm); (case r26 => walk_at "my_id"); (case r3 => k_mem); (case r4 => (refine' btc_ok' ?q1; (case q1 => assumption))); (case r5 => (refine' rot_ok ?q1 ?q2; (case q2 => assumption); (case q1 => assumption))); (case r6 => (refine' put_ok ?q1 ?q2; (case q2 => assumption); (case q1 => assumption))); (case r7 => k_asm); (case r8 => k_asm); (case r9 => rfl); (case r10 => rfl); (case r11 => rfl); (case r19 => with_unfolding_all rfl); (case r12 => k_is); (case r13 => exact fun _ => rfl); (case r14 => k_is); (case r15 => decide); (case r16 => decide); (case r17 => rfl); (case r18 => with_unfolding_all rfl); (case r20 => decide); (case r21 => rfl); (case r22 => decide); (case r23 => rfl); (case r24 => rfl); (case r25 => rfl)); intro myTL myh' mytk mybs myts myals myTs myPs myMs mypo mymo myHm myTab mySg F' N'; clear myHm; walk_at "my_after"))
local macro_rules | `(tactic| walk_at "call ref") => `(tactic| (k_here; (with_reducible show wpAny _ _ (call (Value.ref 106) _ _) _ _ _); k_dflt (refine' use_callWL (c_deed _ _ _ _ _ _ _ _ _ _ _ _ _ _ _ _ _ _ _ _ ?uh1 ?uh2 ?uh3 ?uh4 ?uh5 ?uh6) ?ua2 ?ua3 ?ua4 ?ua5 ?ua6 ?ua7 ?ua8 ?ua9 ?uap ?_; (case uh5 => assumption); (case uh6 => exact tab_parts (by assumption)); walk_at "my_useL"; (case uap => (refine' deed_pre ?vF ?vN ?vl ?v1 ?v2 ?v3 ?v4 ?v5 ?v6 ?v7 ?v8 ?v9 ?v10 ?v11; (case vF => k_asm); (case vN => k_asm); (case vl => (first | assumption | fail "vl")); (case v1 => k_mem); (case v2 => k_mem); (case v3 => k_mem); (case v4 => k_mem); (case v5 => k_mem); (case v6 => k_mem); (case v7 => k_mem); (case v8 => k_mem); (case v9 => k_mem); (case v10 => k_mem); (case v11 => k_mem))); (case uh1 => assumption); (case uh2 => omega); (case uh3 => (first | exact (k12 _ (by assumption)).1 | fail "uh3")); (case uh4 => (first | exact (k12 _ (by assumption)).2 | fail "uh4"))); intro _ _ _ F' N' hP'; subst hP'; walk_at "my_after"))
local macro_rules | `(tactic| walk_at "exec For") => `(tactic| (k_here; (with_reducible show wpAny _ _ (exec (Stmt.For _ (Expr.BinOp _ _ _ _) _ _ _) _) _ _ _); (rename Fr _ _ _ _ => lF'); (with_unfolding_all refine' For_invVF lF' ?k1 ?k2 ?_; (case k1 => exact rfl); (case k2 => exact rfl))))
local macro_rules | `(tactic| walk_at "call ref") => `(tactic| (k_here; (with_reducible show wpAny _ _ (call (Value.ref 60) [_] _) _ _ _); k_dflt (refine' use_callL (c_decode_d _ _ _ _ _ btcB stL btcL ?uh1 btc_ints rfl ?uh2 ?uh3 189 _ ?uh4 false ?uh5 rfl rfl rfl ?uh6) ?ua2 ?ua3 ?ua4 ?ua5 ?ua6 ?ua7 ?ua8 ?ua9 ?uap ?_; (case uh1 => exact rfl); walk_at "my_useL"; (case uh2 => decide); (case uh3 => decide); (case uh4 => decide); (case uh5 => exact st_good); (case uh6 => exact st_in); (case uap => trivial)); intro _ _ _ F' N' kK' hP'; obtain ⟨myBb, myBt, myBo, hP', myB1, myB2, myB3⟩ := hP'; subst hP'; (have myHi := back_same myB1 myB3 rfl); subst myHi; clear myB1 myB2 myB3; walk_at "my_after"))
theorem law_holds : PySem.Challenge.rw_eg5004_01.Holds := by
  exact hd (by w_strict (k_go0; (all_goals try k_fold); w_top off; k_with_none; (k_with "pyIter ref" => (k_dflt (refine' loop_l_none (tup2 .none .none) ?la1 ?la2 ?la3 ?la4 ?la5 ?_ ?_; (case la4 => k_asm); (case la5 => k_asm); (case la2 => k_mem); (case la1 => assumption); (case la3 => rfl); rotate_left; (intro u1 h' tk' F' N'; (try k_fold); (try k_sweep)); rotate_left; (intro n1 t1' h' tk' own' e2 e3 F' N'; (try dsimp only at N'); (try simp only [List.cons_append, List.nil_append] at N'); (try k_fold); (try k_sweep))))); (obtain ⟨bl, hbl⟩ : ∃ bl, bl = btcL := ⟨_, rfl⟩); (have hbtc : KBw.bInts btcB = bl := hbl ▸ btc_ints); (have hbln : bl.length = 58 := hbl ▸ rfl); (unfold btcB at hbtc); (all_goals k_steps); (all_goals (refine' alt_end (o := tup2 .none .none) ?e1 ?e2 ?e3 ?e4 ?e5 ?e6; (case e2 => k_asm); (case e3 => k_asm); (case e1 => trivial); (case e4 => (intro z hz; simp [hz])); (case e5 => exact fun p hp => List.mem_append_left _ hp); (case e6 => (intro p hp; simp [hp]))))))
end Mine
end

theorem PySem.Challenge.cw_eg5004_01_holds : PySem.Challenge.rw_eg5004_01.Holds := by
  exact Mine.law_holds
