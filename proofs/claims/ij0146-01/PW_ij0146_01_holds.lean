import PyProof.Rows.All
import PyProof.ExcReprCall
import Wide.All
import OpenK.AllK
import Wide.FinOn
import PySem.Challenge.RW_ij0146_01
set_option Elab.async false
namespace Nest
inductive Nm where
  | a | b | e | h | t | l
deriving DecidableEq
def Nm.eq : Nm → Nm → Bool
  | .a, .a => true | .b, .b => true | .e, .e => true | .h, .h => true | .t, .t => true | .l, .l => true
  | _, _ => false
inductive Ix where
  | one
  | o (p : Ix)
  | i (p : Ix)
def Ix.eq : Ix → Ix → Bool
  | .one, .one => true
  | .o p, .o q => p.eq q
  | .i p, .i q => p.eq q
  | _, _ => false
def Ix.succ : Ix → Ix
  | .one => .o .one
  | .o p => .i p
  | .i p => .o p.succ
inductive GV where
  | ref (i : Ix)
  | int (n : Nat)
inductive GO where
  | dict (es : List (Nm × GV))
  | list (xs : List GV)
inductive BT where
  | nil
  | node (x : Option GO) (l r : BT)
def BT.get : BT → Ix → Option GO
  | .nil, _ => none
  | .node x _ _, .one => x
  | .node _ l _, .o p => l.get p
  | .node _ _ r, .i p => r.get p
def BT.set : BT → Ix → GO → BT
  | .nil, .one, y => .node (some y) .nil .nil
  | .nil, .o p, y => .node none (BT.set .nil p y) .nil
  | .nil, .i p, y => .node none .nil (BT.set .nil p y)
  | .node _ l r, .one, y => .node (some y) l r
  | .node x l r, .o p, y => .node x (l.set p y) r
  | .node x l r, .i p, y => .node x l (r.set p y)
structure GH where
  t : BT
  n : Ix
def GH.get (G : GH) (i : Ix) : Option GO := G.t.get i
def GH.set (G : GH) (i : Ix) (y : GO) : GH := ⟨G.t.set i y, G.n⟩
def GH.new (G : GH) (y : GO) : GH := ⟨G.t.set G.n y, G.n.succ⟩
inductive Res where
  | ok (G : GH) (i : Ix)
  | key (G : GH)
  | bad

def look (k : Nm) : List (Nm × GV) → Option GV
  | [] => none
  | (x, v) :: r => match x.eq k with
    | true => some v
    | false => look k r
def lastOf : List GV → Option GV
  | [] => none
  | [x] => some x
  | _ :: y :: r => lastOf (y :: r)
def few {α : Type} : Nat → List α → Bool
  | 0, _ => false
  | _ + 1, [] => true
  | n + 1, _ :: r => few n r

/-- the entry for k in the dict i, made where it lacks -/
def enter (G : GH) (i : Ix) (k : Nm) : Option (GH × GV) :=
  match G.get i with
  | some (.dict es) => match look k es with
    | some v => some (G, v)
    | none => match few 8 es with
      | true => some ((G.new (.dict [])).set i (.dict (es ++ [(k, .ref G.n)])), .ref G.n)
      | false => none
  | _ => none
inductive Way where
  | dict (i : Ix)
  | key
  | bad
def behind (acc : Bool) (G : GH) : GV → Way
  | .int _ => .key
  | .ref j => match G.get j with
    | some (.dict _) => .dict j
    | some (.list xs) => match acc with
      | true => match lastOf xs with
        | some (.ref k) => match G.get k with
          | some (.dict _) => .dict k
          | _ => .bad
        | _ => .bad
      | false => .key
    | none => .bad
def walkN (acc : Bool) : List Nm → GH → Ix → Res
  | [], G, i => .ok G i
  | k :: ks, G, i => match enter G i k with
    | none => .bad
    | some (G1, v) => match behind acc G1 v with
      | .dict j => walkN acc ks G1 j
      | .key => .key G1
      | .bad => .bad
inductive Res2 where
  | ok (G : GH)
  | other (G : GH)
  | bad
/-- append_nest_to_list at the names init ++ [k] -/
def appN (G : GH) (init : List Nm) (k : Nm) : Res2 :=
  match walkN true init G .one with
  | .ok G1 i => match G1.get i with
    | some (.dict es) => match look k es with
      | some (.ref j) => match G1.get j with
        | some (.list xs) => match few 64 xs with
          | true => .ok ((G1.new (.dict [])).set j (.list (xs ++ [.ref G1.n])))
          | false => .bad
        | some (.dict _) => .other G1
        | none => .bad
      | some (.int _) => .other G1
      | none => match few 8 es with
        | true => .ok (((G1.new (.dict [])).new (.list [.ref G1.n])).set i (.dict (es ++ [(k, .ref (G1.new (.dict [])).n)])))
        | false => .bad
    | _ => .bad
  | _ => .bad

inductive R where
  | n (x : Nm)
  | i (k : Nat)
  | nil
  | cons (h t : R)
def R.eq : R → R → Bool
  | .n x, .n y => x.eq y
  | .i x, .i y => x.beq y
  | .nil, .nil => true
  | .cons a b, .cons c d => match a.eq c with
    | true => b.eq d
    | false => false
  | _, _ => false
def R.two (x y : R) : R := .cons x (.cons y .nil)
def mapO {α : Type} (g : α → Option R) : List α → Option R
  | [] => some .nil
  | x :: xs => match g x with
    | some a => match mapO g xs with
      | some b => some (.cons a b)
      | none => none
    | none => none
def pairO (k : Nm) : Option R → Option R
  | some x => some (.two (.n k) x)
  | none => none
def listO : Option R → Option R
  | some x => some (.cons (.n .l) x)
  | none => none
def flat (G : GH) : Nat → GV → Option R
  | 0, _ => none
  | _ + 1, .int k => some (.i k)
  | f + 1, .ref j => match G.get j with
    | some (.dict es) => mapO (fun p => pairO p.1 (flat G f p.2)) es
    | some (.list xs) => listO (mapO (flat G f) xs)
    | none => none

def cut {α : Type} (xs : List α) (p n : Nat) : List α := (xs.drop p).take n
def eqNm : List Nm → List Nm → Bool
  | [], [] => true
  | x :: r, y :: t => match x.eq y with
    | true => eqNm r t
    | false => false
  | _, _ => false
def places (text word : List Nm) : List Nat := (List.range (text.length + 1 - word.length)).filter fun p => eqNm (cut text p word.length) word
def mapR {α : Type} (g : α → R) : List α → R
  | [] => .nil
  | x :: xs => .cons (g x) (mapR g xs)
def item (text : List Nm) (p e : Nat) : R := .cons (.two (.n .t) (.i p)) (mapR (fun k => .two (.n k) .nil) (cut text e 1))
def hasNm (k : Nm) : List Nm → Bool
  | [] => false
  | x :: r => match x.eq k with
    | true => true
    | false => hasNm k r
def addNew (ns : List Nm) (k : Nm) : List Nm := match hasNm k ns with
  | true => ns
  | false => ns ++ [k]
def nexts (text : List Nm) (size : Nat) (ps : List Nat) : List Nm := ps.foldl (fun ns p => (cut text (p + size) 1).foldl addNew ns) []
def dueO (text word : List Nm) : Option R → Option R
  | some r => some (match word with
      | [] => r
      | _ :: _ => .cons (.two (.n .h) (.cons (.n .l) (mapR (fun p => item text p (p + word.length)) (places text word)))) r)
  | none => none
def due (text : List Nm) : Nat → List Nm → Option R
  | 0, _ => none
  | f + 1, word =>
    dueO text word (mapO (fun k => pairO k (due text f (word ++ [k]))) (nexts text word.length (places text word)))
def isNil (G : GH) (i : Ix) : Bool := match G.get i with
  | some (.dict []) => true
  | _ => false
def isAt (G : GH) (i : Ix) (n : Nat) : Bool := match G.get i with
  | some (.dict [(.t, .int m)]) => n.beq m
  | _ => false

/-- _law_entered: the nest behind it, where it gives True -/
def entered (G : GH) (text : List Nm) (i j : Nat) : Option GH :=
  let word := cut text i (j - i)
  match appN G word .h with
  | .ok G1 => match walkN true (word ++ [.h]) G1 .one with
    | .ok G2 it => match isNil G2 it with
      | true =>
        match walkN true (word ++ .h :: cut text j 1) (G2.set it (.dict [(.t, .int i)])) .one with
        | .ok G4 r => match (match Nat.blt j text.length with | true => isNil G4 r | false => isAt G4 r i) with
          | true =>
            match walkN false (word ++ [.h, .a]) G4 .one with
            | .key G5 => match walkN true (word ++ [.h, .t, .b]) G5 .one with
              | .key G6 => match word.reverse with
                | k :: r => match appN G6 r.reverse k with
                  | .other G7 => some G7
                  | _ => none
                | [] => none
              | _ => none
            | _ => none
          | false => none
        | _ => none
      | false => none
    | _ => none
  | _ => none
def foldO {α β : Type} (f : α → β → Option α) : List β → α → Option α
  | [], a => some a
  | x :: xs, a => match f a x with
    | some a' => foldO f xs a'
    | none => none
def start : GH := ⟨.node (some (.dict [])) .nil .nil, .o .one⟩
def build (text : List Nm) : Option GH :=
  foldO (fun G i => foldO (fun G k => entered G text i (i + 1 + k)) (List.range (text.length - i)) G) (List.range text.length) start
def fuel : Nat := 24
def part (text : List Nm) (G : GH) (i : Nat) : Option GH :=
  match walkN false (text.drop i) G .one with
  | .ok G1 j => match flat G1 fuel (.ref j), due text 10 (text.drop i) with
    | some x, some y => match x.eq y with
      | true => some G1
      | false => none
    | _, _ => none
  | _ => none
def good (text : List Nm) : Bool :=
  match build text with
  | some G => match flat G fuel (.ref .one), due text 10 [] with
    | some x, some y => match x.eq y with
      | true =>
        match foldO (part text) (List.range text.length) G with
        | some G' => match flat G' fuel (.ref .one) with
          | some z => z.eq y
          | none => false
        | none => false
      | false => false
    | _, _ => false
  | none => false
def menu : List Nm := [.a, .b, .e]
def textsOf : Nat → List (List Nm)
  | 0 => [[]]
  | n + 1 => (textsOf n).flatMap fun t => menu.map fun x => t ++ [x]
def hd3 : List Nm := [.a, .b, .a]
set_option maxRecDepth 100000
end Nest
namespace Nest
def goods (pre : List Nm) : Bool := menu.all fun z => menu.all fun u => good (hd3 ++ (pre ++ [z, u]))
theorem good_0 : good (hd3 ++ []) = true := by decide +kernel
theorem good_1 : (menu.all fun z => good (hd3 ++ [z])) = true := by decide +kernel
theorem good_2 : goods [] = true := by decide +kernel
theorem good_3a : goods [.a] = true := by decide +kernel
theorem good_3b : goods [.b] = true := by decide +kernel
theorem good_3e : goods [.e] = true := by decide +kernel
theorem good_4aa : goods [.a, .a] = true := by decide +kernel
theorem good_4ab : goods [.a, .b] = true := by decide +kernel
theorem good_4ae : goods [.a, .e] = true := by decide +kernel
theorem good_4ba : goods [.b, .a] = true := by decide +kernel
theorem good_4bb : goods [.b, .b] = true := by decide +kernel
theorem good_4be : goods [.b, .e] = true := by decide +kernel
theorem good_4ea : goods [.e, .a] = true := by decide +kernel
theorem good_4eb : goods [.e, .b] = true := by decide +kernel
theorem good_4ee : goods [.e, .e] = true := by decide +kernel
theorem goods_use {pre : List Nm} (h : goods pre = true) {z u : Nm} (hz : z ∈ menu) (hu : u ∈ menu) : good (hd3 ++ (pre ++ [z, u])) = true :=
  List.all_eq_true.mp (List.all_eq_true.mp h z hz) u hu
theorem menu_cases {x : Nm} (h : x ∈ menu) : x = .a ∨ x = .b ∨ x = .e := by
  simpa [menu] using h
theorem good_all : ∀ t : List Nm, t.length ≤ 4 → (∀ x ∈ t, x ∈ menu) → good (hd3 ++ t) = true
  | [], _, _ => good_0
  | [x], _, h => List.all_eq_true.mp good_1 x (h x (.head _))
  | [x, y], _, h => goods_use good_2 (h x (.head _)) (h y (.tail _ (.head _)))
  | [x, y, z], _, h => by
    have hy := h y (.tail _ (.head _))
    have hz := h z (.tail _ (.tail _ (.head _)))
    rcases menu_cases (h x (.head _)) with rfl | rfl | rfl
    · exact goods_use good_3a hy hz
    · exact goods_use good_3b hy hz
    · exact goods_use good_3e hy hz
  | [x, y, z, u], _, h => by
    have hz := h z (.tail _ (.tail _ (.head _)))
    have hu := h u (.tail _ (.tail _ (.tail _ (.head _))))
    rcases menu_cases (h x (.head _)) with rfl | rfl | rfl <;> rcases menu_cases (h y (.tail _ (.head _))) with rfl | rfl | rfl
    · exact goods_use good_4aa hz hu
    · exact goods_use good_4ab hz hu
    · exact goods_use good_4ae hz hu
    · exact goods_use good_4ba hz hu
    · exact goods_use good_4bb hz hu
    · exact goods_use good_4be hz hu
    · exact goods_use good_4ea hz hu
    · exact goods_use good_4eb hz hu
    · exact goods_use good_4ee hz hu
  | _ :: _ :: _ :: _ :: _ :: _, h, _ => absurd h (by simp only [List.length_cons]; omega)
end Nest
open PySem PySem.W PyProof.Rows
set_option linter.constructorNameAsVariable false
namespace Nest

def Nm.str : Nm → Str
  | .a => Str.ofString "a"
  | .b => Str.ofString "b"
  | .e => Str.ofString ""
  | .h => Str.ofString "#"
  | .t => Str.ofString "at"
  | .l => Str.ofString "list"
theorem Nm.str_inj {x y : Nm} (h : x.str = y.str) : x = y := by
  revert h
  cases x <;> cases y <;> decide
theorem Nm.eq_iff {x y : Nm} : x.eq y = true ↔ x = y := by
  cases x <;> cases y <;> simp [Nm.eq]

def R.ofList : List R → R
  | [] => .nil
  | x :: r => .cons x (R.ofList r)
theorem mapR_eq {α : Type} (g : α → R) : ∀ l : List α, mapR g l = R.ofList (l.map g)
  | [] => rfl
  | x :: r => by rw [mapR, mapR_eq g r]; rfl
theorem mapO_some {α : Type} {g : α → Option R} {d : α → R} : ∀ {l : List α} {r : R}, mapO g l = some r → (∀ x ∈ l, ∀ y, g x = some y → d x = y) → r = R.ofList (l.map d) ∧ ∀ x ∈ l, g x = some (d x)
  | [], r, h, _ => ⟨by cases h; rfl, fun _ hx => nomatch hx⟩
  | x :: xs, r, h, hd => by
    rw [mapO] at h
    cases hx : g x with
    | none => rw [hx] at h; cases h
    | some a =>
      rw [hx] at h
      cases hr : mapO g xs with
      | none => rw [hr] at h; cases h
      | some b =>
        rw [hr] at h
        cases h
        obtain ⟨e, k⟩ := mapO_some hr fun y hy => hd y (.tail _ hy)
        have ex : d x = a := hd x (.head _) a hx
        refine ⟨?_, fun y hy => ?_⟩
        · subst e; rw [List.map_cons, R.ofList, ex]
        · rcases List.mem_cons.mp hy with rfl | hy
          · rw [hx, ex]
          · exact k y hy

mutual
/-- the heap bears the nested lists at a value, every list at lo or above -/
inductive RIn (lo : Nat) (h : Heap) : Value → R → Prop
  | n (x : Nm) (t : Tok) : RIn lo h (.str x.str t) (.n x)
  | i (k : Nat) (t : Tok) : RIn lo h (.int (k : Int) t) (.i k)
  | list {a : Addr} {vs : Array Value} {rs : List R} : lo ≤ a → h.PlainList a vs → RAll lo h vs.toList rs → RIn lo h (.ref a) (R.ofList rs)
inductive RAll (lo : Nat) (h : Heap) : List Value → List R → Prop
  | nil : RAll lo h [] []
  | cons {v : Value} {vs : List Value} {r : R} {rs : List R} : RIn lo h v r → RAll lo h vs rs → RAll lo h (v :: vs) (r :: rs)
end
mutual
theorem RIn.mono {lo lo' : Nat} {h h' : Heap} (hl : lo' ≤ lo) (hk : ∀ b o, lo ≤ b → h.get? b = some o → h'.get? b = some o) : ∀ {v : Value} {r : R}, RIn lo h v r → RIn lo' h' v r
  | _, _, .n x t => .n x t
  | _, _, .i k t => .i k t
  | _, _, .list h1 h2 h3 => .list (Nat.le_trans hl h1) (h2.at fun o => hk _ o h1) (RAll.mono hl hk h3)
theorem RAll.mono {lo lo' : Nat} {h h' : Heap} (hl : lo' ≤ lo) (hk : ∀ b o, lo ≤ b → h.get? b = some o → h'.get? b = some o) : ∀ {vs : List Value} {rs : List R}, RAll lo h vs rs → RAll lo' h' vs rs
  | _, _, .nil => .nil
  | _, _, .cons h1 h2 => .cons (RIn.mono hl hk h1) (RAll.mono hl hk h2)
end
theorem RAll.append {lo : Nat} {h : Heap} : ∀ {vs ws : List Value} {rs qs : List R}, RAll lo h vs rs → RAll lo h ws qs → RAll lo h (vs ++ ws) (rs ++ qs)
  | [], _, _, _, hv, hw => by cases hv; exact hw
  | v :: vs, _, _, _, hv, hw => by
    cases hv with
    | cons h1 h2 => exact .cons h1 (h2.append hw)
theorem RAll.length {lo : Nat} {h : Heap} : ∀ {vs : List Value} {rs : List R}, RAll lo h vs rs → vs.length = rs.length
  | [], _, hv => by cases hv; rfl
  | v :: vs, _, hv => by
    cases hv with
    | cons h1 h2 => rw [List.length_cons, List.length_cons, h2.length]

section
variable {prog : Program} {w : World} {A : Around} {RR : Result → Shared → Prop} {s : Shared}
theorem take_filter_map {α β : Type} (p : α → Bool) (d : α → β) (l : List α) (i : Nat) (a : α) (h : l[i]? = some a) :
    ((l.take (i + 1)).filter p).map d = ((l.take i).filter p).map d ++ (if p a then [d a] else []) := by
  rw [List.take_add_one, h, List.filter_append, List.map_append]
  cases hp : p a <;> simp [hp]

/-- a comprehension's loop whose element may be a made, nested list -/
theorem comp_loop {α : Type} {elt iter : Expr} {x : Str} {px : Pos} {ifs : List Expr} {scope : Scope} {pos : Pos} {I D : Addr} {fp wr : List Addr} {St : Nat → Heap → Prop}
    {cenv : Env} {m : Str → Option Value} (as : List α) (is : α → Value → Prop) (p : α → Bool) (d : α → R)
    (W : Walks prog w A I fp wr as.length (fun i v => ∃ a, as[i]? = some a ∧ is a v) St)
    (hx : cenv.kindOf x = some .local) (hp : (cenv.scope.kind == .class || (cenv.scope.kind == .module && cenv.locals != cenv.globals)) = false)
    (hDC : D < cenv.locals) (hDf : D ∉ fp) (hCf : cenv.locals ∉ fp) (hwr : ∀ b ∈ wr, b < cenv.locals)
    (hst : St 0 s.heap) (hacc : s.heap.PlainList D #[]) (hn : s.heap.Ns cenv.locals m)
    (htests : ∀ a v s₂ m₂, a ∈ as → is a v → s₂.heap.Ns cenv.locals m₂ → m₂ x = some v → (∀ b o, b ≠ cenv.locals → b ∉ wr → b ≠ D → s.heap.get? b = some o → s₂.heap.get? b = some o) →
      wpAny (model prog w) A (forIn ifs true fun c r => if r = true then do let ok ← isTrue c cenv (eval c cenv); pure (ForInStep.yield ok) else pure (ForInStep.yield r))
        (fun ok s₃ => ok = p a ∧ Keeps s₂ s₃) (notedBy (model prog w) A cenv fun e s' => RR (.error e) s') s₂)
    (helt : ∀ a v s₂ m₂, a ∈ as → is a v → p a = true → s₂.heap.Ns cenv.locals m₂ → m₂ x = some v → (∀ b o, b ≠ cenv.locals → b ∉ wr → b ≠ D → s.heap.get? b = some o → s₂.heap.get? b = some o) →
      wpAny (model prog w) A (eval elt cenv) (fun y s₃ => Keeps s₂ s₃ ∧ RIn s₂.heap.objs.size s₃.heap y (d a)) (notedBy (model prog w) A cenv fun e s' => RR (.error e) s') s₂)
    (hR : ∀ h' tk m' (ys : Array Value), h'.Ns cenv.locals m' → h'.PlainList D ys → RAll (cenv.locals + 1) h' ys.toList ((as.filter p).map d) →
      (∀ b o, b ≠ cenv.locals → b ∉ wr → b ≠ D → s.heap.get? b = some o → h'.get? b = some o) → RR (.ok .next) { s with heap := h', toks := tk })
    (hsz : as.length ≤ sizeLine) :
    codeAny (model prog w) A (.compLoop (.ListComp elt [⟨.Name x px, iter, ifs, 0⟩] scope pos) 0 (.ref I) (.ref D) cenv) RR s := by
  refine codeAny_compLoop_tests
    (fun k s' => ∃ h' tk m', ∃ ys : Array Value, ∃ i : Nat, s' = { s with heap := h', toks := tk } ∧ St i h' ∧ h'.PlainList D ys ∧ h'.Ns cenv.locals m' ∧
      RAll (cenv.locals + 1) h' ys.toList (((as.take i).filter p).map d) ∧ i ≤ as.length ∧ k = as.length + 1 - i ∧
      (∀ b o, b ≠ cenv.locals → b ∉ wr → b ≠ D → s.heap.get? b = some o → h'.get? b = some o)) ?_ (as.length + 1)
    ⟨s.heap, s.toks, m, #[], 0, rfl, hst, hacc, hn, by simpa using RAll.nil, Nat.zero_le _, rfl, fun _ _ _ _ _ e => e⟩
  rintro k s' ⟨H, tk, m', ys, i, rfl, hst', hacc', hn', hF, hi, rfl, hk⟩
  have hCw : cenv.locals ∉ wr := fun h => hCf (W.sub _ h)
  have hDw : D ∉ wr := fun h => hDf (W.sub _ h)
  have hDC' : D ≠ cenv.locals := Nat.ne_of_lt hDC
  by_cases hlt : i < as.length
  · refine W.item i _ _ _ hlt hst' fun v h₁ tk₁ hPv hst₁ hk₁ => ?_
    obtain ⟨a, ha, hav⟩ := hPv
    have hmem : a ∈ as := List.mem_of_getElem? ha
    refine wpAny_assign_Name (wpAny_storeName_local hx (hn'.at' fun o e => hk₁ _ o hCw e) (fun h₂ hn₂ hs₂ => ?_) hp)
    have up₂ : ∀ b o, b ≠ cenv.locals → b ∉ wr → H.get? b = some o → h₂.get? b = some o := fun b o hbC hbf e => hs₂.extBut b o hbC (hk₁ b o hbf e)
    have hst₂ : St (i + 1) h₂ := W.frame _ _ _ hst₁ fun b hb o e => hs₂.extBut b o (fun h => hCf (h ▸ hb)) e
    have hi' : i + 1 ≤ as.length := hlt
    refine wpAny_mono (htests a v _ _ hmem hav hn₂ (by simp) (fun b o hbC hbf hbD e => up₂ b o hbC hbf (hk b o hbC hbf hbD e))) (fun ok s₃ h₃ => ?_) fun _ _ e => e
    obtain ⟨rfl, h₃, tk₃, rfl, hk₃⟩ := h₃
    have hst₃ : St (i + 1) h₃ := W.frame _ _ _ hst₂ fun b _ o e => hk₃ b o e
    have hacc₃ : h₃.PlainList D ys := hacc'.at fun o e => hk₃ _ o (up₂ D o hDC' hDw e)
    have hn₃ := hn₂.keeps hk₃
    have hF₃ : RAll (cenv.locals + 1) h₃ ys.toList (((as.take i).filter p).map d) :=
      hF.mono (Nat.le_refl _) fun b o hb e => hk₃ b o (up₂ b o (Nat.ne_of_gt hb) (fun hm => Nat.lt_irrefl _ (Nat.lt_of_lt_of_le (hwr b hm) (Nat.le_of_lt hb))) e)
    cases hpv : p a with
    | false =>
      simp only [Bool.false_eq_true, if_false]
      refine ⟨as.length + 1 - (i + 1), by omega, h₃, tk₃, _, ys, i + 1, rfl, hst₃, hacc₃, hn₃, ?_, hi', rfl, fun b o hbC hbf hbD e => hk₃ b o (up₂ b o hbC hbf (hk b o hbC hbf hbD e))⟩
      rw [take_filter_map p d as i a ha, hpv]; simpa using hF₃
    | true =>
      simp only [if_true]
      have hk3' : ∀ b o, b ≠ cenv.locals → b ∉ wr → b ≠ D → s.heap.get? b = some o → h₃.get? b = some o := fun b o hbC hbf hbD e => hk₃ b o (up₂ b o hbC hbf (hk b o hbC hbf hbD e))
      refine wpAny_mono (helt a v _ _ hmem hav hpv hn₃ (by simp) hk3') (fun y s₄ h₄ => ?_) fun _ _ e => e
      obtain ⟨⟨h₄, tk₄, rfl, hk₄⟩, hy⟩ := h₄
      have hys : ys.size ≤ sizeLine := by
        have e1 := hF.length
        have e2 : (((as.take i).filter p).map d).length ≤ as.length := by
          rw [List.length_map]
          refine Nat.le_trans (List.length_filter_le _ _) ?_
          rw [List.length_take]; omega
        have e4 : ys.toList.length = ys.size := by simp
        omega
      have hCs : cenv.locals + 1 ≤ h₃.objs.size := hn₃.lt
      refine wpAny_list_append_plain (hsz := hys) (hacc₃.at fun o e => hk₄ _ o e) fun h₅ hl₅ hs₅ => ?_
      refine ⟨as.length + 1 - (i + 1), by omega, h₅, tk₄, _, ys.push y, i + 1, rfl, ?_, hl₅, (hn₃.keeps hk₄).sameBut hs₅ (Ne.symm hDC'), ?_, hi', rfl,
        fun b o hbC hbf hbD e => hs₅.extBut b o hbD (hk₄ b o (hk3' b o hbC hbf hbD e))⟩
      · exact W.frame _ _ h₅ hst₃ fun b hb o e => hs₅.extBut b o (fun h => hDf (h ▸ hb)) (hk₄ b o e)
      · rw [take_filter_map p d as i a ha, hpv, if_pos rfl, Array.toList_push]
        have off : ∀ b, cenv.locals + 1 ≤ b → b ≠ D := fun b hb => Nat.ne_of_gt (Nat.lt_trans hDC hb)
        exact (hF₃.mono (Nat.le_refl _) fun b o hb e => hs₅.extBut b o (off b hb) (hk₄ b o e)).append
          (.cons (hy.mono hCs fun b o hb e => hs₅.extBut b o (off b (Nat.le_trans hCs hb)) e) .nil)
  · have hin : i = as.length := by omega
    subst hin
    rw [List.take_length] at hF
    refine W.done _ _ _ hst' fun h₁ tk₁ hk₁ => ?_
    refine hR h₁ tk₁ m' ys (hn'.at' fun o e => hk₁ _ o hCw e) (hacc'.at fun o e => hk₁ _ o hDw e) ?_ fun b o hbC hbf hbD e => hk₁ b o hbf (hk b o hbC hbf hbD e)
    exact hF.mono (Nat.le_refl _) fun b o hb e => hk₁ b o (fun hm => Nat.lt_irrefl _ (Nat.lt_of_lt_of_le (hwr b hm) (Nat.le_of_lt hb))) e
end

section
variable {prog : Program} {w : World} {A : Around} {E : Value → Shared → Prop} {env : Env}
/-- the comprehension: behind the iterator -/
def CompSrc (prog : Program) (w : World) (A : Around) (env : Env) {α : Type} (elt : Expr) (x : Str) (ifs : List Expr) (scope : Scope) (cl : List (Str × Addr)) (p : α → Bool) (d : α → R) (Q : Value → Shared → Prop) (it : Value) (s₂ : Shared) : Prop :=
  ∃ (I : Addr) (fp wr : List Addr) (St : Nat → Heap → Prop) (as : List α) (is : α → Value → Prop), it = .ref I ∧ Walks prog w A I fp wr as.length (fun i v => ∃ a, as[i]? = some a ∧ is a v) St ∧ as.length ≤ sizeLine ∧ St 0 s₂.heap ∧ (∀ b ∈ fp, b < s₂.heap.objs.size) ∧
    (∀ C a v s₃ m₃ E', s₂.heap.objs.size ≤ C → a ∈ as → is a v → s₃.heap.Ns C m₃ → m₃ x = some v → (∀ b o, b ∉ wr → s₂.heap.get? b = some o → s₃.heap.get? b = some o) →
      wpAny (model prog w) A (forIn ifs true fun c r => if r = true then do let ok ← isTrue c (compEnvC scope cl C env) (eval c (compEnvC scope cl C env)); pure (ForInStep.yield ok) else pure (ForInStep.yield r))
        (fun ok s₄ => ok = p a ∧ Keeps s₃ s₄) E' s₃) ∧
    (∀ C a v s₃ m₃ E', s₂.heap.objs.size ≤ C → a ∈ as → is a v → p a = true → s₃.heap.Ns C m₃ → m₃ x = some v → (∀ b o, b ∉ wr → s₂.heap.get? b = some o → s₃.heap.get? b = some o) →
      wpAny (model prog w) A (eval elt (compEnvC scope cl C env)) (fun y s₄ => Keeps s₃ s₄ ∧ RIn s₃.heap.objs.size s₄.heap y (d a)) E' s₃) ∧
    (∀ D h' tk (ys : Array Value), s₂.heap.objs.size ≤ D → h'.PlainList D ys → RAll s₂.heap.objs.size h' ys.toList ((as.filter p).map d) →
      (∀ b o, b ∉ wr → s₂.heap.get? b = some o → h'.get? b = some o) → D < h'.objs.size → Q (.ref D) { s₂ with heap := h', toks := tk })

theorem comp_block {α : Type} {elt iter : Expr} {x : Str} {px : Pos} {ifs : List Expr} {scope : Scope} {cl : List (Str × Addr)} {pos : Pos} {s₂ : Shared} {p : α → Bool} {d : α → R} {Q : Value → Shared → Prop} {it : Value}
    (hcell : ∀ y ∈ scope.names, y.2 ≠ .cell) (hkind : scope.kind = .function) (hx : scope.names.lookup x = some .local)
    (H : CompSrc prog w A env elt x ifs scope cl p d Q it s₂) :
    wpAny (model prog w) A (newList []) (fun acc s₃ => wpAny (model prog w) A (newFunctionEnv scope env.globals cl [] env.qual none .none (some env)) (fun cenv s₄ =>
      codeAny (model prog w) A (.compStart (.ListComp elt [⟨.Name x px, iter, ifs, 0⟩] scope pos) 0 it acc { cenv with scope := relabel scope env }) (compPost (model prog w) A E none Q acc cenv.locals) s₄) E s₃) E s₂ := by
  obtain ⟨I, fp, wr, St, as, is, rfl, W, hsz, hst, hfp, htests, helt, hQ⟩ := H
  refine wpAny_newObj_type (wpAny_newFunctionEnv hcell (by intro y hy; simp at hy) (fun h₁ hns₁ hsb₁ => ?_) hkind)
  dsimp only at hns₁ hsb₁ ⊢
  generalize hH2 : s₂.heap.push { cls := .type "list", dict := none, data := .seq ([] : List Value).toArray } = H2 at hns₁ hsb₁ ⊢
  have hC : H2.objs.size = s₂.heap.objs.size + 1 := by rw [← hH2, Heap.size_push]
  have hDC : s₂.heap.objs.size < H2.objs.size := by rw [hC]; exact Nat.lt_succ_self _
  have below : ∀ b, b < s₂.heap.objs.size → b ≠ H2.objs.size ∧ b ≠ s₂.heap.objs.size := fun b hb => ⟨by rw [hC]; exact Nat.ne_of_lt (Nat.lt_succ_of_lt hb), Nat.ne_of_lt hb⟩
  have hDf : s₂.heap.objs.size ∉ fp := fun hm => Nat.lt_irrefl _ (hfp _ hm)
  have hCf : H2.objs.size ∉ fp := fun hm => by have := hfp _ hm; rw [hC] at this; exact Nat.lt_irrefl _ (Nat.lt_of_succ_lt this)
  have old : ∀ b o, s₂.heap.get? b = some o → h₁.get? b = some o := fun b o e => hsb₁.extBut b o (below b (Heap.lt_size e)).1 (Heap.get?_push_of_some _ (hH2 ▸ Heap.get?_push_of_some _ e))
  have hacc : h₁.PlainList s₂.heap.objs.size #[] := ⟨_, hsb₁.extBut _ _ (Nat.ne_of_lt hDC) (Heap.get?_push_of_some _ (hH2 ▸ Heap.get?_push_size _ rfl))⟩
  have hst₁ : St 0 h₁ := W.frame _ _ _ hst fun b _ o e => old b o e
  have hwr : ∀ b ∈ wr, b < H2.objs.size := fun b hb => Nat.lt_trans (hfp b (W.sub b hb)) hDC
  have loop : ∀ s₃ : Shared, s₃ = { s₂ with heap := h₁, toks := s₂.toks + ([] : List (Str × Value)).length } →
      codeAny (model prog w) A (.compLoop (.ListComp elt [⟨.Name x px, iter, ifs, 0⟩] scope pos) 0 (.ref I) (.ref s₂.heap.objs.size) (compEnvC scope cl H2.objs.size env))
        (compPost (model prog w) A E none Q (.ref s₂.heap.objs.size) H2.objs.size) s₃ := by
    rintro s₃ rfl
    refine comp_loop (hsz := hsz) (cenv := compEnvC scope cl H2.objs.size env) as is p d W (lookup_relabel_local hx) (by simp [compEnvC, relabel, hkind]) hDC hDf hCf hwr hst₁ hacc hns₁
      (fun a v s₃ m₃ ha hv hn hm hk => htests _ a v s₃ m₃ _ (Nat.le_of_lt hDC) ha hv hn hm (fun b o hbf e => hk b o (below b (Heap.lt_size e)).1 hbf (below b (Heap.lt_size e)).2 (old b o e)))
      (fun a v s₃ m₃ ha hv hpv hn hm hk => helt _ a v s₃ m₃ _ (Nat.le_of_lt hDC) ha hv hpv hn hm (fun b o hbf e => hk b o (below b (Heap.lt_size e)).1 hbf (below b (Heap.lt_size e)).2 (old b o e))) fun h' tk m' ys hn hpl hF hk => ?_
    refine ⟨m', hn, fun h'' hs'' => ?_⟩
    have hCn : ∀ b o, s₂.heap.get? b = some o → b ≠ H2.objs.size := fun b o e => (below b (Heap.lt_size e)).1
    refine hQ _ h'' tk ys (Nat.le_refl _) (hpl.extBut hs''.extBut (Nat.ne_of_lt hDC)) (hF.mono (Nat.le_succ_of_le (Nat.le_of_lt hDC)) fun b o hb e => hs''.extBut b o (Nat.ne_of_gt hb) e)
      (fun b o hbf e => hs''.extBut b o (hCn b o e) (hk b o (hCn b o e) hbf (below b (Heap.lt_size e)).2 (old b o e))) ?_
    rw [hs''.1]
    exact Nat.lt_trans hDC hn.lt
  exact codeAny_compStart_list (loop _ rfl) (W.self 0 _ _ _ hst₁ (loop _ rfl))

theorem comp_rule {α : Type} {s : Shared} {elt iter : Expr} {x : Str} {px : Pos} {ifs : List Expr} {scope : Scope} {cl : List (Str × Addr)} {pos : Pos} {Q : Value → Shared → Prop} (p : α → Bool) (d : α → R)
    (hclos : closureFor scope env = pure cl) (hcell : ∀ y ∈ scope.names, y.2 ≠ .cell) (hkind : scope.kind = .function)
    (hnames : ∀ y ∈ scope.names, y.2 = .local → scope.names.lookup y.1 = some .local) (hx : scope.names.lookup x = some .local)
    (h : wpAny (model prog w) A (eval iter env) (fun xv s₁ => wpAny (model prog w) A (pyIter xv) (fun it s₂ => CompSrc prog w A env elt x ifs scope cl p d Q it s₂) E s₁) E s)
    (hs : ∀ x, foldedSetIterable iter env x = pure x) :
    wpAny (model prog w) A (eval (.ListComp elt [⟨.Name x px, iter, ifs, 0⟩] scope pos) env) Q E s := by
  rw [eval_ListComp]
  exact wpAny_comprehension_free (use := none) rfl hs hclos hkind hnames (wpAny_mono h (fun xv s₁ h₁ => wpAny_mono h₁ (fun it s₂ h₂ => comp_block hcell hkind hx h₂) fun _ _ e => e) fun _ _ e => e)
end
end Nest
namespace Nest

/-- the heap grows: nothing that stood is changed -/
structure Grow (h h' : Heap) : Prop where
  size : h.objs.size ≤ h'.objs.size
  keep : ∀ b o, h.get? b = some o → h'.get? b = some o
theorem Grow.refl (h : Heap) : Grow h h := ⟨Nat.le_refl _, fun _ _ e => e⟩
theorem Grow.trans {h h₁ h₂ : Heap} (x : Grow h h₁) (y : Grow h₁ h₂) : Grow h h₂ := ⟨Nat.le_trans x.size y.size, fun b o e => y.keep b o (x.keep b o e)⟩
theorem Grow.push (h : Heap) (o : Obj) : Grow h (h.push o) := ⟨by rw [Heap.size_push]; exact Nat.le_succ _, fun _ _ e => Heap.get?_push_of_some _ e⟩
theorem Grow.fr {h₀ h h' : Heap} {L : Addr} {m : Str → Option Value} (g : Grow h h') (F : Fr h₀ L h m) : Fr h₀ L h' m := F.keeps g.keep
theorem Grow.list {h h' : Heap} {a : Addr} {vs : Array Value} (g : Grow h h') (x : h.PlainList a vs) : h'.PlainList a vs := x.at fun o => g.keep a o
theorem Grow.rin {lo : Nat} {h h' : Heap} (g : Grow h h') {v : Value} {r : R} (x : RIn lo h v r) : RIn lo h' v r := x.mono (Nat.le_refl _) fun b o _ => g.keep b o
theorem Grow.rall {lo : Nat} {h h' : Heap} (g : Grow h h') {v : List Value} {r : List R} (x : RAll lo h v r) : RAll lo h' v r := x.mono (Nat.le_refl _) fun b o _ => g.keep b o
theorem Grow.ns {h h' : Heap} {a : Addr} {m : Str → Option Value} (g : Grow h h') (x : h.Ns a m) : h'.Ns a m := x.keeps g.keep
theorem Grow.cell {h h' : Heap} {a : Addr} {v : Option Value} (g : Grow h h') (x : h.IsCell a v) : h'.IsCell a v := x.keeps g.keep
theorem Grow.of_keeps {s s' : Shared} (k : Keeps s s') (hn : s.heap.objs.size ≤ s'.heap.objs.size) : Grow s.heap s'.heap := by
  obtain ⟨h', tk, rfl, hk⟩ := k
  exact ⟨hn, hk⟩
theorem PlainList.push (h : Heap) (vs : Array Value) : (h.push { cls := .type "list", data := .seq vs }).PlainList h.objs.size vs := ⟨_, Heap.get?_push_size _ rfl⟩

/-- the items are names -/
inductive NmsAre : List Value → List Nm → Prop
  | nil : NmsAre [] []
  | cons (x : Nm) (t : Tok) {vs : List Value} {xs : List Nm} : NmsAre vs xs → NmsAre (.str x.str t :: vs) (x :: xs)
theorem NmsAre.length : ∀ {vs : List Value} {xs : List Nm}, NmsAre vs xs → vs.length = xs.length
  | _, _, .nil => rfl
  | _, _, .cons _ _ h => by rw [List.length_cons, List.length_cons, h.length]
theorem NmsAre.drop : ∀ {vs : List Value} {xs : List Nm} (n : Nat), NmsAre vs xs → NmsAre (vs.drop n) (xs.drop n)
  | _, _, 0, h => h
  | _, _, _ + 1, .nil => .nil
  | _, _, n + 1, .cons _ _ h => h.drop n
theorem NmsAre.take : ∀ {vs : List Value} {xs : List Nm} (n : Nat), NmsAre vs xs → NmsAre (vs.take n) (xs.take n)
  | _, _, 0, _ => .nil
  | _, _, _ + 1, .nil => .nil
  | _, _, n + 1, .cons _ _ h => .cons _ _ (h.take n)
theorem NmsAre.cut {vs : List Value} {xs : List Nm} (p n : Nat) (h : NmsAre vs xs) : NmsAre ((vs.drop p).take n) (cut xs p n) := (h.drop p).take n
theorem NmsAre.append : ∀ {vs ws : List Value} {xs ys : List Nm}, NmsAre vs xs → NmsAre ws ys → NmsAre (vs ++ ws) (xs ++ ys)
  | _, _, _, _, .nil, h => h
  | _, _, _, _, .cons _ _ g, h => .cons _ _ (g.append h)
theorem NmsAre.get : ∀ {vs : List Value} {xs : List Nm} {i : Nat} {v : Value}, NmsAre vs xs → vs[i]? = some v → ∃ x t, xs[i]? = some x ∧ v = .str x.str t
  | _, _, _, _, .nil, e => by simp at e
  | _, _, 0, _, .cons x t _, e => by simp at e; exact ⟨x, t, rfl, e.symm⟩
  | _, _, _ + 1, _, .cons _ _ h, e => h.get (by simpa using e)
/-- the items are naturals -/
inductive NatsAre : List Value → List Nat → Prop
  | nil : NatsAre [] []
  | cons (k : Nat) (t : Tok) {vs : List Value} {ks : List Nat} : NatsAre vs ks → NatsAre (.int (k : Int) t :: vs) (k :: ks)
theorem NatsAre.get : ∀ {vs : List Value} {xs : List Nat} {i : Nat} {v : Value}, NatsAre vs xs → vs[i]? = some v → ∃ x t, xs[i]? = some x ∧ v = .int (x : Int) t
  | _, _, _, _, .nil, e => by simp at e
  | _, _, 0, _, .cons x t _, e => by simp at e; exact ⟨x, t, rfl, e.symm⟩
  | _, _, _ + 1, _, .cons _ _ h, e => h.get (by simpa using e)
theorem NatsAre.length : ∀ {vs : List Value} {xs : List Nat}, NatsAre vs xs → vs.length = xs.length
  | _, _, .nil => rfl
  | _, _, .cons _ _ h => by rw [List.length_cons, List.length_cons, h.length]
theorem RIn.int_inv {lo : Nat} {h : Heap} {v : Value} {r : R} {k : Nat} (x : RIn lo h v r) (e : r = .i k) : ∃ t, v = .int (k : Int) t := by
  cases x with
  | n y t => cases e
  | i j t => cases e; exact ⟨t, rfl⟩
  | list a b c => rename_i rs; cases rs <;> cases e
theorem NatsAre.ofR {lo : Nat} {h : Heap} : ∀ {ks : List Nat} {vs : List Value}, RAll lo h vs (ks.map R.i) → NatsAre vs ks
  | [], _, x => by cases x; exact .nil
  | k :: ks, _, x => by
    cases x with
    | cons a b => obtain ⟨t, rfl⟩ := a.int_inv rfl; exact .cons k t (NatsAre.ofR b)

section
variable {prog : Program} {w : World} {A : Around} {E : Value → Shared → Prop} {s : Shared} {env : Env}

theorem new_list {vs : List Value} {Q : Value → Shared → Prop} (hsz : vs.length ≤ sizeLine)
    (h : ∀ a h', s.heap.objs.size ≤ a → a < h'.objs.size → Grow s.heap h' → h'.PlainList a vs.toArray → Q (.ref a) { s with heap := h' }) :
    wpAny (model prog w) A (newList vs) Q E s :=
  wpAny_newObj_type (h _ _ (Nat.le_refl _) (by rw [Heap.size_push]; exact Nat.lt_succ_self _) (.push _ _) (PlainList.push _ _)) (by show vs.toArray.size ≤ sizeLine; rw [List.size_toArray]; exact hsz)

theorem eval_list0 {pos : Pos} {Q : Value → Shared → Prop}
    (h : ∀ a h', s.heap.objs.size ≤ a → a < h'.objs.size → Grow s.heap h' → h'.PlainList a #[] → Q (.ref a) { s with heap := h' }) :
    wpAny (model prog w) A (eval (.List [] pos) env) Q E s :=
  List_ (spliced_none (new_list (Nat.zero_le _) h))
theorem eval_list1 {e : Expr} {pos : Pos} {Q : Value → Shared → Prop}
    (h : wpAny (model prog w) A (eval e env) (fun v s₁ => ∀ a h', s₁.heap.objs.size ≤ a → a < h'.objs.size → Grow s₁.heap h' → h'.PlainList a #[v] → Q (.ref a) { s₁ with heap := h' }) E s)
    (he : starEach [e] env = (false, eval e env) :: starEach [] env := by rfl) :
    wpAny (model prog w) A (eval (.List [e] pos) env) Q E s :=
  List_ (spliced_more (wpAny_mono h (fun v s₁ h₁ => spliced_none (new_list (show 1 ≤ sizeLine by rw [sizeLine_eq]; decide) h₁)) fun _ _ e => e) he)
theorem eval_list2 {e f : Expr} {pos : Pos} {Q : Value → Shared → Prop}
    (h : wpAny (model prog w) A (eval e env) (fun v s₁ => wpAny (model prog w) A (eval f env) (fun u s₂ => ∀ a h', s₂.heap.objs.size ≤ a → a < h'.objs.size → Grow s₂.heap h' → h'.PlainList a #[v, u] → Q (.ref a) { s₂ with heap := h' }) E s₁) E s)
    (he : starEach [e, f] env = (false, eval e env) :: starEach [f] env := by rfl) (hf : starEach [f] env = (false, eval f env) :: starEach [] env := by rfl) :
    wpAny (model prog w) A (eval (.List [e, f] pos) env) Q E s :=
  List_ (spliced_more (wpAny_mono h (fun v s₁ h₁ => spliced_more (wpAny_mono h₁ (fun u s₂ h₂ => spliced_none (new_list (show 2 ≤ sizeLine by rw [sizeLine_eq]; decide) h₂)) fun _ _ e => e) hf) fun _ _ e => e) he)
theorem eval_list3 {e f g : Expr} {pos : Pos} {Q : Value → Shared → Prop}
    (h : wpAny (model prog w) A (eval e env) (fun v s₁ => wpAny (model prog w) A (eval f env) (fun u s₂ => wpAny (model prog w) A (eval g env) (fun z s₃ => ∀ a h', s₃.heap.objs.size ≤ a → a < h'.objs.size → Grow s₃.heap h' → h'.PlainList a #[v, u, z] → Q (.ref a) { s₃ with heap := h' }) E s₂) E s₁) E s)
    (he : starEach [e, f, g] env = (false, eval e env) :: starEach [f, g] env := by rfl) (hf : starEach [f, g] env = (false, eval f env) :: starEach [g] env := by rfl) (hg : starEach [g] env = (false, eval g env) :: starEach [] env := by rfl) :
    wpAny (model prog w) A (eval (.List [e, f, g] pos) env) Q E s :=
  List_ (spliced_more (wpAny_mono h (fun v s₁ h₁ => spliced_more (wpAny_mono h₁ (fun u s₂ h₂ => spliced_more (wpAny_mono h₂ (fun z s₃ h₃ => spliced_none (new_list (show 3 ≤ sizeLine by rw [sizeLine_eq]; decide) h₃)) fun _ _ e => e) hg) fun _ _ e => e) hf) fun _ _ e => e) he)

theorem add_plain {l b : Addr} {vs ws : Array Value} {Q : Value → Shared → Prop} (hl : s.heap.PlainList l vs) (hb : s.heap.PlainList b ws) (hsz : vs.size + ws.size ≤ sizeLine)
    (h : ∀ a h', s.heap.objs.size ≤ a → a < h'.objs.size → Grow s.heap h' → h'.PlainList a (vs ++ ws) → Q (.ref a) { s with heap := h' }) :
    wpAny (model prog w) A (binaryOp .Add (.ref l) (.ref b)) Q E s := by
  obtain ⟨n, hl⟩ := hl
  obtain ⟨k, hb⟩ := hb
  exact PySem.P.add_list hl hb (h _ _ (Nat.le_refl _) (by rw [Heap.size_push]; exact Nat.lt_succ_self _) (.push _ _) (PlainList.push _ _)) hsz

theorem eval_slice {x : Str} {xp : Pos} {lower upper : Option Expr} {p pos : Pos} {Q : Value → Shared → Prop}
    (h : wpAny (model prog w) A (eval (.Name x xp) env) (fun o s₁ => wpAny (model prog w) A (evalPart lower env) (fun vl s₂ => wpAny (model prog w) A (evalPart upper env) (fun vu s₃ =>
      ∃ l items lo hi, o = .ref l ∧ s₃.heap.IsList l items ∧ items.size ≤ sizeLine ∧ IsPart vl lo ∧ IsPart vu hi ∧
        ∀ D h', s₃.heap.objs.size ≤ D → D < h'.objs.size → Grow s₃.heap h' → h'.PlainList D (slicePick items lo hi none) → Q (.ref D) { s₃ with heap := h' }) E s₂) E s₁) E s) :
    wpAny (model prog w) A (eval (.Subscript (.Name x xp) (.Slice lower upper none p) pos) env) Q E s := by
  refine wpAny_Subscript_list_slice (wpAny_mono h (fun o s₁ h₁ => wpAny_mono h₁ (fun vl s₂ h₂ => wpAny_mono h₂ (fun vu s₃ h₃ => ?_) fun _ _ e => e) fun _ _ e => e) fun _ _ e => e)
  obtain ⟨l, items, lo, hi, rfl, hl, hsz, pl, pu, hQ⟩ := h₃
  refine ⟨l, items, lo, hi, rfl, hl, hsz, pl, pu, hQ _ _ (Nat.le_succ _) ?_ ((Grow.push _ _).trans (Grow.push _ _)) ?_⟩
  · rw [Heap.size_push, Heap.size_push]; exact Nat.lt_succ_self _
  · have := PlainList.push (s₃.heap.push { cls := .type "slice", data := .fields #[vl, vu, .none] }) (slicePick items lo hi none)
    rwa [Heap.size_push] at this

theorem pick_cut (items : Array Value) (a b : Nat) : slicePick items (some (a : Int)) (some (b : Int)) none = ((items.toList.drop a).take (b - a)).toArray := by
  rw [slicePick_plain]
  simp only [Option.elim, clipAt_nat]
  congr 1
  have hl : items.toList.length = items.size := by simp
  rcases Nat.le_total a items.size with h | h
  · rw [Nat.min_eq_left h]
    rcases Nat.le_total b items.size with h' | h'
    · rw [Nat.min_eq_left h']
    · rw [Nat.min_eq_right h', List.take_of_length_le (by rw [List.length_drop, hl]; exact Nat.le_refl _), List.take_of_length_le (by rw [List.length_drop, hl]; omega)]
  · rw [Nat.min_eq_right h, List.drop_of_length_le (by rw [hl]; exact Nat.le_refl _), List.drop_of_length_le (by rw [hl]; exact h)]; simp

/-- a comprehension over a list -/
theorem comp_src_list {α : Type} {elt : Expr} {x : Str} {ifs : List Expr} {scope : Scope} {cl : List (Str × Addr)} {p : α → Bool} {d : α → R} {Q : Value → Shared → Prop} {ax : Addr} {items : Array Value}
    (as : List α) (is : α → Value → Prop) (hh : A.handled = none) (hl : s.heap.IsList ax items) (hn : items.size = as.length) (hi : ∀ (i : Nat) (v : Value), items[i]? = some v → ∃ a, as[i]? = some a ∧ is a v) (hsz : as.length ≤ sizeLine)
    (tests : ∀ C a v s₃ m₃ E', a ∈ as → is a v → s₃.heap.Ns C m₃ → m₃ x = some v → Grow s.heap s₃.heap →
      wpAny (model prog w) A (forIn ifs true fun c r => if r = true then do let ok ← isTrue c (compEnvC scope cl C env) (eval c (compEnvC scope cl C env)); pure (ForInStep.yield ok) else pure (ForInStep.yield r))
        (fun ok s₄ => ok = p a ∧ Keeps s₃ s₄) E' s₃)
    (elts : ∀ C a v s₃ m₃ E', a ∈ as → is a v → p a = true → s₃.heap.Ns C m₃ → m₃ x = some v → Grow s.heap s₃.heap →
      wpAny (model prog w) A (eval elt (compEnvC scope cl C env)) (fun y s₄ => Keeps s₃ s₄ ∧ RIn s₃.heap.objs.size s₄.heap y (d a)) E' s₃)
    (fin : ∀ D h' tk (ys : Array Value), s.heap.objs.size ≤ D → h'.PlainList D ys → RAll s.heap.objs.size h' ys.toList ((as.filter p).map d) → Grow s.heap h' → D < h'.objs.size → Q (.ref D) { s with heap := h', toks := tk }) :
    wpAny (model prog w) A (pyIter (.ref ax)) (fun it s₂ => CompSrc prog w A env elt x ifs scope cl p d Q it s₂) E s := by
  have hlt : ax < s.heap.objs.size := by obtain ⟨_, e, _⟩ := hl; exact Heap.lt_size e
  have up : ∀ {H : Heap}, (∀ b o, b ∉ [s.heap.objs.size] → (s.heap.push { cls := .type "list_iterator", data := .fields #[.ref ax, .int 0 0] }).get? b = some o → H.get? b = some o) → ∀ b o, s.heap.get? b = some o → H.get? b = some o :=
    fun hk b o e => hk b o (fun hm => by rcases List.mem_cons.mp hm with rfl | hm; exact Nat.lt_irrefl _ (Heap.lt_size e); cases hm) (Heap.get?_push_of_some _ e)
  have W := Walks.list (prog := prog) (w := w) hh s.heap.objs.size ax (Nat.ne_of_lt hlt) items
  rw [hn] at W
  have W' : Walks prog w A s.heap.objs.size [s.heap.objs.size, ax] [s.heap.objs.size] as.length (fun i v => ∃ a, as[i]? = some a ∧ is a v) (fun i h => h.IsListIter s.heap.objs.size ax i ∧ h.IsList ax items) :=
    ⟨W.sub, W.frame, fun i s Q E h1 h2 h3 => W.item i s Q E h1 h2 fun v h' tk hv => h3 v h' tk (hi i v hv), W.done, W.self⟩
  refine wpAny_pyIter_list hl ⟨s.heap.objs.size, [s.heap.objs.size, ax], [s.heap.objs.size], _, as, is, rfl, W', hsz,
    ⟨⟨_, Heap.get?_push_size _ rfl, rfl, rfl⟩, hl.push _⟩, ?_, ?_, ?_, ?_⟩
  · intro b hb
    show b < (s.heap.push _).objs.size
    rw [Heap.size_push]
    rcases List.mem_cons.mp hb with rfl | hb
    · exact Nat.lt_succ_self _
    · rcases List.mem_cons.mp hb with rfl | hb
      · exact Nat.lt_succ_of_lt hlt
      · cases hb
  · intro C a v s₃ m₃ E' hC ha hv hns hm hk
    have hC' : s.heap.objs.size + 1 ≤ C := by rw [← Heap.size_push]; exact hC
    exact tests C a v s₃ m₃ E' ha hv hns hm ⟨Nat.le_of_lt (Nat.lt_of_lt_of_le (Nat.lt_of_succ_le hC') (Nat.le_of_lt hns.lt)), up hk⟩
  · intro C a v s₃ m₃ E' hC ha hv hp hns hm hk
    have hC' : s.heap.objs.size + 1 ≤ C := by rw [← Heap.size_push]; exact hC
    exact elts C a v s₃ m₃ E' ha hv hp hns hm ⟨Nat.le_of_lt (Nat.lt_of_lt_of_le (Nat.lt_of_succ_le hC') (Nat.le_of_lt hns.lt)), up hk⟩
  · intro D h' tk ys hD hpl hr hk hDs
    have hD' : s.heap.objs.size + 1 ≤ D := by rw [← Heap.size_push]; exact hD
    have hsz1 : s.heap.objs.size ≤ s.heap.objs.size + 1 := Nat.le_succ _
    refine fin D h' tk ys (Nat.le_of_succ_le hD') hpl (hr.mono ?_ fun _ _ _ e => e) ⟨Nat.le_of_lt (Nat.lt_trans (Nat.lt_of_succ_le hD') hDs), up hk⟩ hDs
    show s.heap.objs.size ≤ (s.heap.push _).objs.size
    rw [Heap.size_push]; exact hsz1
end
end Nest
namespace Nest
set_option maxRecDepth 100000 in
set_option maxHeartbeats 8000000 in
open_top hd for PySem.Challenge.rw_ij0146_01
end Nest
namespace Nest

section
variable {prog : Program} {w : World} {A : Around} {s : Shared} {K : Frag}
/-- a call of a def that never raises, no cells -/
theorem enterP {R : Result → Shared → Prop} {name qual : Str} {params : Arguments} {body : List Stmt} {scope : Scope} {dV kV doc pm cdv ct oc : Value} {an od : Option Addr} {osl : Array (Option Value)} {f : Addr} {args : Args} {binds : List (Str × Value)}
    (X : K.In s.heap) (hlim : s.heap.NoLimit) (ho : K.lookup f = some ⟨oc, od, .func (fnOf name qual params body scope dV kV doc pm an cdv ct), osl⟩) (hcd : codeIn K cdv qual = true) (hroom : A.depth < recursionLimit)
    (hbind : BindsTo s (fnOf name qual params body scope dV kV doc pm an cdv ct) args binds) (hloc : ∀ y ∈ binds, scope.names.lookup y.1 = some .local)
    (h : ∀ L h₁, Fr s.heap L h₁ (fun y => binds.reverse.lookup y) → Grow s.heap h₁ → s.heap.objs.size ≤ L →
      wpAny (model prog w) (A.deeper (envOf qual scope L f cdv)) (execs body (envOf qual scope L f cdv))
        (fun fl s' => R (.ok (.ret (match fl with | .ret v => v | _ => .none))) s') (fun _ _ => False) { s with heap := h₁, toks := s.toks + binds.length })
    (hco : scope.isCoroutine = false) (hgen : scope.isGenerator = false) (hk : scope.kind = .function) (hcell : ∀ x ∈ scope.names, x.2 ≠ .cell) :
    codeAny (model prog w) A (.call (.ref f) args) R s := by
  refine codeAny_call_def (fd := fnOf name qual params body scope dV kV doc pm an cdv ct) (body := body) (binds := binds) hroom (X _ _ ho) rfl hlim (codeRec_of X hcd) rfl hbind hcell hloc (fun h₁ hns hk₁ => ?_) hco hgen hk
  refine wpAny_mono (h s.heap.objs.size h₁ ⟨hns, hk₁, Nat.le_refl _⟩ ⟨Nat.le_of_lt hns.lt, hk₁⟩ (Nat.le_refl _)) (fun fl s' hl => hl) fun _ _ y => y.elim

/-- a call of a def that never raises, with cells -/
theorem enterC {R : Result → Shared → Prop} {name qual : Str} {params : Arguments} {body : List Stmt} {scope : Scope} {dV kV doc pm cdv ct oc : Value} {an od : Option Addr} {osl : Array (Option Value)} {f : Addr} {args : Args} {binds : List (Str × Value)}
    (X : K.In s.heap) (hlim : s.heap.NoLimit) (ho : K.lookup f = some ⟨oc, od, .func (fnOf name qual params body scope dV kV doc pm an cdv ct), osl⟩) (hcd : codeIn K cdv qual = true) (hroom : A.depth < recursionLimit)
    (hbind : BindsTo s (fnOf name qual params body scope dV kV doc pm an cdv ct) args binds)
    (hkind : (binds.all fun y => scope.names.lookup y.1 == some .local || scope.names.lookup y.1 == some .cell) = true)
    (h : ∀ L h₁ tk, Fr s.heap L h₁ (bindL (envOfC qual scope L f cdv).kindOf binds fun _ => none) →
      Cl L (cellsFrom (L + 1) scope.names []) h₁ (bindC (envOfC qual scope L f cdv).kindOf binds fun _ => none) → Grow s.heap h₁ → s.heap.objs.size ≤ L →
      wpAny (model prog w) (A.deeper (envOfC qual scope L f cdv)) (execs body (envOfC qual scope L f cdv))
        (fun fl s' => R (.ok (.ret (match fl with | .ret v => v | _ => .none))) s') (fun _ _ => False) { s with heap := h₁, toks := tk })
    (hco : scope.isCoroutine = false) (hgen : scope.isGenerator = false) (hk : scope.kind = .function) :
    codeAny (model prog w) A (.call (.ref f) args) R s := by
  refine codeAny_call_function hroom (X _ _ ho) rfl hco hgen rfl (codeRec_of X hcd) (hbind _ _ _ _ ?_)
  refine wpAny_newFunctionEnv_cells hk (kindsX hkind _) fun env' he s' x => ?_
  subst he
  refine ⟨hlim.keeps x.toInCall.keep, codeAny_func ?_⟩
  obtain ⟨h₁, tk, rfl, _⟩ := x.done
  have hk₁ := x.toInCall.keep
  refine wpAny_mono (h s.heap.objs.size h₁ tk ⟨x.toInCall.ns, hk₁, Nat.le_refl _⟩ ⟨x.cell, x.apart, x.above⟩ ⟨Nat.le_of_lt x.toInCall.ns.lt, hk₁⟩ (Nat.le_refl _)) (fun fl s' hl => hl) fun _ _ y => y.elim
end
noncomputable abbrev KN (w : World) : Frag := hd.heap_39 w.params
end Nest
namespace Nest
section
variable {prog : Program} {w : World} {A : Around} {s : Shared}
set_option maxRecDepth 100000 in
set_option maxHeartbeats 8000000 in
theorem item_spec {E : Value → Shared → Prop} {Q : Value → Shared → Prop} {ta : Addr} {vs : Array Value} {text : List Nm} {p e : Nat} {t1 t2 : Tok}
    (X : (hd.heap_39 w.params).In s.heap) (hlim : s.heap.NoLimit) (hh : A.handled = none) (hroom : A.depth < recursionLimit)
    (ht : s.heap.PlainList ta vs) (hv : NmsAre vs.toList text) (hsz : text.length ≤ 64)
    (h : ∀ v h' tk', Grow s.heap h' → RIn s.heap.objs.size h' v (item text p e) → Q v { s with heap := h', toks := tk' }) :
    wpAny (model prog w) A (call (.ref 72) [.ref ta, .int (p : Int) t1, .int (e : Int) t2]) Q E s := by
  refine wpAny_call ?_
  refine' enterP X hlim ?k1 ?k2 hroom ?k3 ?k4 ?_ ?c1 ?c2 ?c3 ?c4
  case k1 => exact rfl
  case k2 => exact rfl
  case k3 => exact BindsTo.of_eq rfl
  case k4 => exact locs rfl
  case c1 => exact rfl
  case c2 => exact rfl
  case c3 => exact rfl
  case c4 => decide
  intro L h₁ F G hL
  refine wpAny_execs_cons (wpAny_Return_some (wpAny_BinOp (eval_list1 (eval_list2 (Calls.Constant_str (ld F rfl ?_))))))
  intro a2 h2 s2 z2 g2 l2 a1 h3 s3 z3 g3 l3
  have F3 := g3.fr (g2.fr F)
  have l2' := g3.list l2
  refine comp_rule (α := Nm) (fun _ => true) (fun k => R.two (.n k) .nil) (closureFor_none (by decide)) (by decide) rfl (by decide) rfl ?_ (by intro _; rfl)
  refine eval_slice (ld F3 rfl (ld F3 rfl (wpAny_BinOp (ld F3 rfl (wpAny_Constant_int (add_int ?_))))))
  dsimp only at g2 g3 s2 s3 z2 z3 l2 l3 F3 l2' ⊢
  have T3 : h3.PlainList ta vs := (g3.list (g2.list (G.list ht)))
  have hvs : vs.size = text.length := by rw [← hv.length]; simp
  refine ⟨ta, vs, some (e : Int), some ((e : Int) + 1), rfl, T3.isList, by rw [hvs, sizeLine_eq]; omega, .int _ _, .int _ _, ?_⟩
  intro D h4 sD zD g4 lD
  (try dsimp only at sD g4 lD)
  have e1 : ((e : Int) + 1) = ((e + 1 : Nat) : Int) := by omega
  rw [e1, pick_cut, Nat.add_sub_cancel_left] at lD
  have hc := hv.cut e 1
  refine comp_src_list (cut text e 1) (fun k v => ∃ t, v = .str k.str t) hh lD.isList (by rw [List.size_toArray, hc.length]) (fun i v q => ?_) ?_ ?_ ?_ ?_
  · obtain ⟨x, t, q1, q2⟩ := hc.get (by simpa using q)
    exact ⟨x, q1, t, q2⟩
  · show (cut text e 1).length ≤ sizeLine
    unfold cut
    rw [List.length_take, sizeLine_eq]; omega
  · intro C a v s₃ m₃ E' ha hv hn hm hk
    exact wpAny_tests_nil ⟨rfl, _, _, rfl, fun _ _ q => q⟩
  · intro C k v s₃ m₃ E' hk' hv _ hn hm hk
    obtain ⟨t, rfl⟩ := hv
    refine eval_list2 (ldVarK hn hm (eval_list0 ?_))
    intro a5 h5 s5 z5 g5 l5 a6 h6 s6 z6 g6 l6
    dsimp only at g5 g6 s5 s6 ⊢
    refine ⟨⟨_, _, rfl, fun b o q => (g5.trans g6).keep b o q⟩, ?_⟩
    refine RIn.list (rs := [.n k, .nil]) (Nat.le_trans g5.size s6) l6 (.cons (.n k _) (.cons ?_ .nil))
    exact RIn.list (rs := []) s5 (g6.list l5) .nil
  · intro D5 h5 tk5 ys sD5 pl5 r5 g5 zD5
    dsimp only at sD5 r5 g5 zD5 ⊢
    have L5 := g5.list (g4.list l3)
    refine add_plain L5 pl5 ?_ ?_
    · have := r5.length
      rw [List.length_map] at this
      have e2 : ys.toList.length = ys.size := by simp
      have e3 := List.length_filter_le (fun _ : Nm => true) (cut text e 1)
      have e4 : (cut text e 1).length ≤ 1 := by unfold cut; rw [List.length_take]; omega
      rw [sizeLine_eq]
      simp only [List.size_toArray, List.length_cons, List.length_nil]
      omega
    · intro a6 h6 s6 z6 g6 l6
      dsimp only at s6 g6 ⊢
      have gA : Grow s.heap h6 := G.trans (g2.trans (g3.trans (g4.trans (g5.trans g6))))
      refine h _ _ _ gA ?_
      have b0 : s.heap.objs.size ≤ h₁.objs.size := G.size
      have b1 := g2.size
      have b2 := g3.size
      have b3 := g4.size
      have b4 := g5.size
      have ei : item text p e = R.ofList (R.two (.n .t) (.i p) :: (cut text e 1).map fun k => R.two (.n k) .nil) := by unfold item; rw [mapR_eq]; rfl
      rw [ei]
      refine RIn.list (by omega) l6 ?_
      have ef : (cut text e 1).filter (fun _ : Nm => true) = cut text e 1 := List.filter_eq_self.mpr fun _ _ => rfl
      rw [ef] at r5
      rw [Array.toList_append]
      refine RAll.append (rs := [R.two (.n .t) (.i p)]) ?_ ((g6.rall r5).mono (by omega) fun _ _ _ q => q)
      refine .cons ?_ .nil
      refine RIn.list (rs := [.n .t, .i p]) (by omega) (g6.list (g5.list (g4.list l2'))) (.cons (.n .t _) (.cons (.i p _) .nil))
end
end Nest
namespace Nest

theorem Grow.of_fr {h₀ h : Heap} {L : Addr} {m : Str → Option Value} (F : Fr h₀ L h m) : Grow h₀ h := ⟨Nat.le_trans F.above (Nat.le_of_lt F.ns.lt), F.keep⟩
/-- what the calls ask of the heap beyond their arguments -/
structure Gl (w : World) (mg mb : Str → Option Value) (h : Heap) : Prop where
  X : (hd.heap_39 w.params).In h
  g : h.Ns mainGlobals mg
  b : h.Ns builtinsNs mb
  lim : h.NoLimit
  bi : ∀ x : Str, x ≠ "__name__" → mb x = bootBuiltins x
theorem Gl.keeps {w : World} {mg mb : Str → Option Value} {h h' : Heap} (G : Gl w mg mb h) (k : ∀ b o, h.get? b = some o → h'.get? b = some o) : Gl w mg mb h' :=
  ⟨G.X.keeps k, G.g.keeps k, G.b.keeps k, G.lim.keeps k, G.bi⟩
theorem Gl.grow {w : World} {mg mb : Str → Option Value} {h h' : Heap} (G : Gl w mg mb h) (k : Grow h h') : Gl w mg mb h' := G.keeps k.keep
theorem Gl.fr {w : World} {mg mb : Str → Option Value} {h₀ h : Heap} {L : Addr} {m : Str → Option Value} (G : Gl w mg mb h₀) (F : Fr h₀ L h m) : Gl w mg mb h := G.keeps F.keep

section
variable {M : Model} {A : Around} {E : Value → Shared → Prop} {s : Shared} {env : Env} {w : World} {mg mb : Str → Option Value}

/-- a name of the text's top -/
theorem nm_own {x : Str} {np : Pos} {v : Value} {Q : Value → Shared → Prop} (G : Gl w mg mb s.heap) (e : nsIn (hd.heap_39 w.params) mainGlobals x = some (some v)) (h : Q v s)
    (hg : env.globals = mainGlobals) (hk : env.scope.kind = .function) (hx : env.kindOf x = some .globalImplicit) (hd : (x == ("__debug__" : Str)) = false) :
    wpAny M A (eval (.Name x np) env) Q E s :=
  Calls.Name_function_global hk hx (Calls.loadGlobal_global (env := env) (by rw [hg]; exact G.g) (mg_of G.X G.g e) h) hd
/-- a built-in name -/
theorem nm_bi {x : Str} {np : Pos} {v : Value} {Q : Value → Shared → Prop} (G : Gl w mg mb s.heap) (e : nsIn (hd.heap_39 w.params) mainGlobals x = some none) (hv : bootBuiltins x = some v) (h : Q v s)
    (hg : env.globals = mainGlobals) (hb : env.builtins = builtinsNs) (hk : env.scope.kind = .function) (hx : env.kindOf x = some .globalImplicit) (hd : (x == ("__debug__" : Str)) = false) (hn : x ≠ "__name__") :
    wpAny M A (eval (.Name x np) env) Q E s :=
  Calls.Name_function_global hk hx (Calls.loadGlobal_builtin (env := env) (by rw [hg]; exact G.g) (mg_none_of G.X G.g e) (by rw [hb]; exact G.b) ((G.bi x hn).trans hv) h) hd

theorem call1_builtin {x : Str} {np pos : Pos} {id : String} {e : Expr} {Q : Value → Shared → Prop}
    (hn : ∀ Q' : Value → Shared → Prop, Q' (.builtin id) s → wpAny M A (eval (.Name x np) env) Q' E s)
    (h : wpAny M A (eval e env) (fun v s₁ => wpAny M A (call (.builtin id) [v]) Q E s₁) E s)
    (he : starEach [e] env = (false, eval e env) :: starEach [] env := by rfl) :
    wpAny M A (eval (.Call (.Name x np) [e] [] pos) env) Q E s :=
  wpAny_Call_ofName (hn _ (PyProof.Rows.callWith_builtin1 (spliced_more (wpAny_mono h (fun _ _ h₁ => spliced_none h₁) fun _ _ e => e) he) he))
theorem call2_builtin {x : Str} {np pos : Pos} {id : String} {e f : Expr} {Q : Value → Shared → Prop}
    (hn : ∀ Q' : Value → Shared → Prop, Q' (.builtin id) s → wpAny M A (eval (.Name x np) env) Q' E s)
    (h : wpAny M A (eval e env) (fun v s₁ => wpAny M A (eval f env) (fun u s₂ => wpAny M A (call (.builtin id) [v, u]) Q E s₂) E s₁) E s)
    (he : starEach [e, f] env = (false, eval e env) :: starEach [f] env := by rfl) (hf : starEach [f] env = (false, eval f env) :: starEach [] env := by rfl) :
    wpAny M A (eval (.Call (.Name x np) [e, f] [] pos) env) Q E s :=
  wpAny_Call_ofName (hn _ (PyProof.Rows.callWith_builtin1 (spliced_more (wpAny_mono h (fun _ _ h₁ => spliced_more (wpAny_mono h₁ (fun _ _ h₂ => spliced_none h₂) fun _ _ e => e) hf) fun _ _ e => e) he) he (by rw [hf]; rfl)))
theorem call1_type {x : Str} {np pos : Pos} {T : String} {e : Expr} {Q : Value → Shared → Prop}
    (hn : ∀ Q' : Value → Shared → Prop, Q' (.type T) s → wpAny M A (eval (.Name x np) env) Q' E s)
    (h : wpAny M A (eval e env) (fun v s₁ => wpAny M A (call (.type T) [v]) Q E s₁) E s)
    (he : starEach [e] env = (false, eval e env) :: starEach [] env := by rfl) :
    wpAny M A (eval (.Call (.Name x np) [e] [] pos) env) Q E s :=
  wpAny_Call_ofName (hn _ (PyProof.Rows.callWith_type1 (spliced_more (wpAny_mono h (fun _ _ h₁ => spliced_none h₁) fun _ _ e => e) he) he))
theorem call2_type {x : Str} {np pos : Pos} {T : String} {e f : Expr} {Q : Value → Shared → Prop}
    (hn : ∀ Q' : Value → Shared → Prop, Q' (.type T) s → wpAny M A (eval (.Name x np) env) Q' E s)
    (h : wpAny M A (eval e env) (fun v s₁ => wpAny M A (eval f env) (fun u s₂ => wpAny M A (call (.type T) [v, u]) Q E s₂) E s₁) E s)
    (he : starEach [e, f] env = (false, eval e env) :: starEach [f] env := by rfl) (hf : starEach [f] env = (false, eval f env) :: starEach [] env := by rfl) :
    wpAny M A (eval (.Call (.Name x np) [e, f] [] pos) env) Q E s :=
  wpAny_Call_ofName (hn _ (PyProof.Rows.callWith_type1 (spliced_more (wpAny_mono h (fun _ _ h₁ => spliced_more (wpAny_mono h₁ (fun _ _ h₂ => spliced_none h₂) fun _ _ e => e) hf) fun _ _ e => e) he) he (by rw [hf]; rfl)))

theorem call1_own {x : Str} {np pos : Pos} {f : Addr} {e₁ : Expr} {K : Frag} {Q : Value → Shared → Prop}
    (hn : ∀ Q' : Value → Shared → Prop, Q' (.ref f) s → wpAny M A (eval (.Name x np) env) Q' E s) (X : K.In s.heap) (hk : keepIn K (.ref f) = true)
    (h : wpAny M A (eval e₁ env) (fun v₁ s₁ => K.In s₁.heap ∧ wpAny M A (call (.ref f) [v₁]) Q E s₁) E s)
    (h1 : starEach [e₁] env = (false, eval e₁ env) :: starEach [] env := by rfl) :
    wpAny M A (eval (.Call (.Name x np) [e₁] [] pos) env) Q E s :=
  wpAny_Call_ofName (hn _ (callWith_K X hk (spliced_more (wpAny_mono h (fun _ _ z => spliced_none z) fun _ _ e => e) h1) h1 (by rfl)))
theorem call2_own {x : Str} {np pos : Pos} {f : Addr} {e₁ e₂ : Expr} {K : Frag} {Q : Value → Shared → Prop}
    (hn : ∀ Q' : Value → Shared → Prop, Q' (.ref f) s → wpAny M A (eval (.Name x np) env) Q' E s) (X : K.In s.heap) (hk : keepIn K (.ref f) = true)
    (h : wpAny M A (eval e₁ env) (fun v₁ s₁ => wpAny M A (eval e₂ env) (fun v₂ s₂ => K.In s₂.heap ∧ wpAny M A (call (.ref f) [v₁, v₂]) Q E s₂) E s₁) E s)
    (h1 : starEach [e₁, e₂] env = (false, eval e₁ env) :: starEach [e₂] env := by rfl) (h2 : starEach [e₂] env = (false, eval e₂ env) :: starEach [] env := by rfl) :
    wpAny M A (eval (.Call (.Name x np) [e₁, e₂] [] pos) env) Q E s :=
  wpAny_Call_ofName (hn _ (callWith_K X hk (spliced_more (wpAny_mono h (fun _ _ z => spliced_more (wpAny_mono z (fun _ _ y => spliced_none y) fun _ _ e => e) h2) fun _ _ e => e) h1) h1 (by rw [h2]; rfl)))
theorem call3_own {x : Str} {np pos : Pos} {f : Addr} {e₁ e₂ e₃ : Expr} {K : Frag} {Q : Value → Shared → Prop}
    (hn : ∀ Q' : Value → Shared → Prop, Q' (.ref f) s → wpAny M A (eval (.Name x np) env) Q' E s) (X : K.In s.heap) (hk : keepIn K (.ref f) = true)
    (h : wpAny M A (eval e₁ env) (fun v₁ s₁ => wpAny M A (eval e₂ env) (fun v₂ s₂ => wpAny M A (eval e₃ env) (fun v₃ s₃ => K.In s₃.heap ∧ wpAny M A (call (.ref f) [v₁, v₂, v₃]) Q E s₃) E s₂) E s₁) E s)
    (h1 : starEach [e₁, e₂, e₃] env = (false, eval e₁ env) :: starEach [e₂, e₃] env := by rfl) (h2 : starEach [e₂, e₃] env = (false, eval e₂ env) :: starEach [e₃] env := by rfl) (h3 : starEach [e₃] env = (false, eval e₃ env) :: starEach [] env := by rfl) :
    wpAny M A (eval (.Call (.Name x np) [e₁, e₂, e₃] [] pos) env) Q E s :=
  wpAny_Call_ofName (hn _ (callWith_K X hk (spliced_more (wpAny_mono h (fun _ _ z => spliced_more (wpAny_mono z (fun _ _ y => spliced_more (wpAny_mono y (fun _ _ u => spliced_none u) fun _ _ e => e) h3) fun _ _ e => e) h2) fun _ _ e => e) h1) h1 (by rw [h2, h3]; rfl)))
theorem call4_own {x : Str} {np pos : Pos} {f : Addr} {e₁ e₂ e₃ e₄ : Expr} {K : Frag} {Q : Value → Shared → Prop}
    (hn : ∀ Q' : Value → Shared → Prop, Q' (.ref f) s → wpAny M A (eval (.Name x np) env) Q' E s) (X : K.In s.heap) (hk : keepIn K (.ref f) = true)
    (h : wpAny M A (eval e₁ env) (fun v₁ s₁ => wpAny M A (eval e₂ env) (fun v₂ s₂ => wpAny M A (eval e₃ env) (fun v₃ s₃ => wpAny M A (eval e₄ env) (fun v₄ s₄ => K.In s₄.heap ∧ wpAny M A (call (.ref f) [v₁, v₂, v₃, v₄]) Q E s₄) E s₃) E s₂) E s₁) E s)
    (h1 : starEach [e₁, e₂, e₃, e₄] env = (false, eval e₁ env) :: starEach [e₂, e₃, e₄] env := by rfl) (h2 : starEach [e₂, e₃, e₄] env = (false, eval e₂ env) :: starEach [e₃, e₄] env := by rfl) (h3 : starEach [e₃, e₄] env = (false, eval e₃ env) :: starEach [e₄] env := by rfl)
    (h4 : starEach [e₄] env = (false, eval e₄ env) :: starEach [] env := by rfl) :
    wpAny M A (eval (.Call (.Name x np) [e₁, e₂, e₃, e₄] [] pos) env) Q E s :=
  wpAny_Call_ofName (hn _ (callWith_K X hk (spliced_more (wpAny_mono h (fun _ _ z => spliced_more (wpAny_mono z (fun _ _ y => spliced_more (wpAny_mono y (fun _ _ u => spliced_more (wpAny_mono u (fun _ _ t => spliced_none t) fun _ _ e => e) h4) fun _ _ e => e) h3) fun _ _ e => e) h2) fun _ _ e => e) h1) h1 (by rw [h2, h3, h4]; rfl)))
end

section
variable {prog : Program} {w : World} {A : Around} {E : Value → Shared → Prop} {s : Shared} {env : Env}
/-- range(n), and a comprehension over it -/
theorem comp_src_range {elt : Expr} {x : Str} {ifs : List Expr} {scope : Scope} {cl : List (Str × Addr)} {p : Nat → Bool} {d : Nat → R} {Q : Value → Shared → Prop} {r : Addr} {n : Nat} {t u v : Tok}
    (hh : A.handled = none) (hr : IsRange s.heap r 0 (n : Int) 1 t u v) (hsz : n ≤ 1000)
    (tests : ∀ C k tk s₃ m₃ E', k < n → s₃.heap.Ns C m₃ → m₃ x = some (.int (k : Int) tk) → Grow s.heap s₃.heap →
      wpAny (model prog w) A (forIn ifs true fun c r => if r = true then do let ok ← isTrue c (compEnvC scope cl C env) (eval c (compEnvC scope cl C env)); pure (ForInStep.yield ok) else pure (ForInStep.yield r))
        (fun ok s₄ => ok = p k ∧ Keeps s₃ s₄) E' s₃)
    (elts : ∀ C k tk s₃ m₃ E', k < n → p k = true → s₃.heap.Ns C m₃ → m₃ x = some (.int (k : Int) tk) → Grow s.heap s₃.heap →
      wpAny (model prog w) A (eval elt (compEnvC scope cl C env)) (fun y s₄ => Keeps s₃ s₄ ∧ RIn s₃.heap.objs.size s₄.heap y (d k)) E' s₃)
    (fin : ∀ D h' tk (ys : Array Value), s.heap.objs.size ≤ D → h'.PlainList D ys → RAll s.heap.objs.size h' ys.toList (((List.range n).filter p).map d) → Grow s.heap h' → D < h'.objs.size → Q (.ref D) { s with heap := h', toks := tk }) :
    wpAny (model prog w) A (pyIter (.ref r)) (fun it s₂ => CompSrc prog w A env elt x ifs scope cl p d Q it s₂) E s := by
  have hrs : Builtin.Range.rangeSize 0 (n : Int) 1 = (n : Int) := by
    rw [rangeSize_one]
    split <;> omega
  have up : ∀ {H : Heap}, (∀ b o, b ∉ [s.heap.objs.size] → (s.heap.push { cls := .type "range_iterator", data := .fields #[rawInt 0, rawInt (Builtin.Range.rangeSize 0 (n : Int) 1), rawInt 1] }).get? b = some o → H.get? b = some o) → ∀ b o, s.heap.get? b = some o → H.get? b = some o :=
    fun hk b o e => hk b o (fun hm => by rcases List.mem_cons.mp hm with rfl | hm; exact Nat.lt_irrefl _ (Heap.lt_size e); cases hm) (Heap.get?_push_of_some _ e)
  have W := Walks.range (prog := prog) (w := w) hh s.heap.objs.size 0 1 n
  have W' : Walks prog w A s.heap.objs.size [s.heap.objs.size] [s.heap.objs.size] (List.range n).length (fun i v => ∃ a : Nat, (List.range n)[i]? = some a ∧ (a < n ∧ ∃ tk, v = .int (a : Int) tk)) (fun i h => IsRangeIter h s.heap.objs.size (0 + (i : Nat) * 1) ((n : Int) - (i : Nat)) 1) := by
    rw [List.length_range]
    refine ⟨W.sub, W.frame, fun i s Q E h1 h2 h3 => W.item i s Q E h1 h2 fun v h' tk hv => h3 v h' tk ⟨i, by rw [List.getElem?_range h1], h1, ?_⟩, W.done, W.self⟩
    obtain ⟨t, rfl⟩ := hv
    exact ⟨t, by congr 1; omega⟩
  refine wpAny_pyIter_range hr ?_ ⟨s.heap.objs.size, [s.heap.objs.size], [s.heap.objs.size], _, List.range n, fun a v => a < n ∧ ∃ tk, v = .int (a : Int) tk, rfl, W', by rw [List.length_range, sizeLine_eq]; omega, ?_, ?_, ?_, ?_, ?_⟩
  · exact small_one (by omega) (by omega) (by omega) (by omega)
  · rw [hrs]
    show IsRangeIter _ _ _ _ _
    have := Heap.get?_push_size s.heap (o := { cls := .type "range_iterator", data := .fields #[rawInt 0, rawInt (n : Int), rawInt 1] }) rfl
    simpa using this
  · intro b hb
    show b < (s.heap.push _).objs.size
    rw [Heap.size_push, List.mem_singleton.mp hb]
    exact Nat.lt_succ_self _
  · rintro C a v s₃ m₃ E' hC ha ⟨hlt, tk, rfl⟩ hns hm hk
    have hC' : s.heap.objs.size + 1 ≤ C := by rw [← Heap.size_push]; exact hC
    exact tests C a tk s₃ m₃ E' hlt hns hm ⟨Nat.le_of_lt (Nat.lt_of_lt_of_le (Nat.lt_of_succ_le hC') (Nat.le_of_lt hns.lt)), up hk⟩
  · rintro C a v s₃ m₃ E' hC ha ⟨hlt, tk, rfl⟩ hp hns hm hk
    have hC' : s.heap.objs.size + 1 ≤ C := by rw [← Heap.size_push]; exact hC
    exact elts C a tk s₃ m₃ E' hlt hp hns hm ⟨Nat.le_of_lt (Nat.lt_of_lt_of_le (Nat.lt_of_succ_le hC') (Nat.le_of_lt hns.lt)), up hk⟩
  · intro D h' tk ys hD hpl hr hk hDs
    have hD' : s.heap.objs.size + 1 ≤ D := by rw [← Heap.size_push]; exact hD
    refine fin D h' tk ys (Nat.le_of_succ_le hD') hpl (hr.mono ?_ fun _ _ _ e => e) ⟨Nat.le_of_lt (Nat.lt_trans (Nat.lt_of_succ_le hD') hDs), up hk⟩ hDs
    show s.heap.objs.size ≤ (s.heap.push _).objs.size
    rw [Heap.size_push]; exact Nat.le_succ _
end

section
def nmsPy (xs : List Nm) : List PyData := xs.map fun x => .str x.str
theorem nms_reads {h : Heap} : ∀ {vs : List Value} {xs : List Nm}, NmsAre vs xs → ReadsAll h vs (nmsPy xs) []
  | _, _, .nil => .nil
  | _, _, .cons x t r => ReadsAll.cons (.str _ _) (nms_reads r)
theorem nms_list_reads {h : Heap} {a : Addr} {vs : Array Value} {xs : List Nm} (hl : h.IsList a vs) (hv : NmsAre vs.toList xs) : Reads h (.ref a) (.list (nmsPy xs)) [a] := by
  obtain ⟨o, ho, hc, n, hd⟩ := hl
  exact Reads.list ho hc hd (nms_reads hv)
theorem nms_eqv : ∀ xs ys : List Nm, PyData.eqvAll (nmsPy xs) (nmsPy ys) = eqNm xs ys
  | [], [] => rfl
  | [], _ :: _ => rfl
  | _ :: _, [] => rfl
  | x :: xs, y :: ys => by
    have e : PyData.eqv (.str x.str) (.str y.str) = x.eq y := by cases x <;> cases y <;> decide
    show (PyData.eqv (.str x.str) (.str y.str) && PyData.eqvAll (nmsPy xs) (nmsPy ys)) = _
    rw [e, nms_eqv xs ys, eqNm]
    cases x.eq y <;> rfl
theorem Nm.strOk (x : Nm) : PyData.strOk x.str = true := by cases x <;> decide +kernel
theorem nms_lay : ∀ xs : List Nm, PyData.canLayAll0 (nmsPy xs) = true ∧ PyData.depthAll (nmsPy xs) = 0
  | [] => ⟨rfl, rfl⟩
  | x :: xs => by
    have h := nms_lay xs
    refine ⟨?_, ?_⟩
    · show (PyData.canLay0 (.str x.str) && PyData.canLayAll0 (nmsPy xs)) = true
      rw [h.1, Bool.and_true]; exact x.strOk
    · show max (PyData.depth (.str x.str)) (PyData.depthAll (nmsPy xs)) = 0
      rw [h.2]; rfl
theorem nms_shaped (xs : List Nm) : SeqAt.shaped (.list (nmsPy xs)) = true := by
  unfold SeqAt.shaped
  rw [show PyData.canLay0 (.list (nmsPy xs)) = PyData.canLayAll0 (nmsPy xs) from rfl, show PyData.depth (.list (nmsPy xs)) = PyData.depthAll (nmsPy xs) + 1 from rfl, (nms_lay xs).1, (nms_lay xs).2]
  rfl
variable {prog : Program} {w : World} {A : Around} {E : Value → Shared → Prop} {s : Shared}
theorem eq_nms {a b : Addr} {vs ws : Array Value} {xs ys : List Nm} {Q : Value → Shared → Prop} (ha : s.heap.IsList a vs) (hv : NmsAre vs.toList xs) (hb : s.heap.IsList b ws) (hw : NmsAre ws.toList ys) (hu : A.units + 64 < cLine)
    (h : Q (.bool (eqNm xs ys)) s) : wpAny (model prog w) A (compareOp .Eq (.ref a) (.ref b)) Q E s := by
  refine SeqAt.compareEq_shaped (nms_list_reads ha hv) (nms_list_reads hb hw) (nms_shaped _) (nms_shaped _) hu ?_
  show Q (.bool (PyData.eqvAll (nmsPy xs) (nmsPy ys))) s
  rw [nms_eqv]; exact h
theorem ne_nms {a b : Addr} {vs ws : Array Value} {xs ys : List Nm} {Q : Value → Shared → Prop} (ha : s.heap.IsList a vs) (hv : NmsAre vs.toList xs) (hb : s.heap.IsList b ws) (hw : NmsAre ws.toList ys) (hu : A.units + 64 < cLine)
    (h : Q (.bool (!eqNm xs ys)) s) : wpAny (model prog w) A (compareOp .NotEq (.ref a) (.ref b)) Q E s := by
  refine SeqAt.compareNe_shaped (nms_list_reads ha hv) (nms_list_reads hb hw) (nms_shaped _) (nms_shaped _) hu ?_
  show Q (.bool (!PyData.eqvAll (nmsPy xs) (nmsPy ys))) s
  rw [nms_eqv]; exact h
end
end Nest
namespace Nest
section
variable {prog : Program} {w : World} {A : Around} {s : Shared} {mg mb : Str → Option Value}
set_option maxRecDepth 100000 in
set_option maxHeartbeats 8000000 in
theorem places_spec {E : Value → Shared → Prop} {Q : Value → Shared → Prop} {ta wa : Addr} {vs ws : Array Value} {text word : List Nm}
    (G0 : Gl w mg mb s.heap) (hh : A.handled = none) (hroom : A.depth < recursionLimit) (hu : A.units + 70 < cLine)
    (ht : s.heap.PlainList ta vs) (hv : NmsAre vs.toList text) (hsz : text.length ≤ 64)
    (hw : s.heap.PlainList wa ws) (hvw : NmsAre ws.toList word) (hszw : word.length ≤ text.length)
    (h : ∀ a h' tk' (ys : Array Value), Grow s.heap h' → s.heap.objs.size ≤ a → a < h'.objs.size → h'.PlainList a ys → NatsAre ys.toList (places text word) → Q (.ref a) { s with heap := h', toks := tk' }) :
    wpAny (model prog w) A (call (.ref 67) [.ref ta, .ref wa]) Q E s := by
  refine wpAny_call ?_
  refine' enterC G0.X G0.lim ?k1 ?k2 hroom ?k3 ?k4 ?_ ?c1 ?c2 ?c3
  case k1 => exact rfl
  case k2 => exact rfl
  case k3 => exact BindsTo.of_eq rfl
  case k4 => exact rfl
  case c1 => exact rfl
  case c2 => exact rfl
  case c3 => exact rfl
  intro L h₁ tk F Y G hL
  have G1 := G0.grow G
  refine wpAny_execs_cons (wpAny_Assign_Name (call1_builtin (fun Q' q => nm_bi G1 rfl boot_len q rfl rfl rfl rfl rfl (by decide)) (ldC Y rfl rfl ?_)))
  have gw := G.list hw
  have gt := G.list ht
  have ews : ws.size = word.length := by rw [← hvw.length]; simp
  have evs : vs.size = text.length := by rw [← hv.length]; simp
  refine len_list gw.isList (by rw [ews]; omega) ?_
  rw [ews]
  refine stC F Y rfl fun h2 F2 Y2 => ?_
  dsimp only at F2 Y2 ⊢
  have G2 := Grow.of_fr F2
  refine wpAny_execs_cons (wpAny_Return_some ?_)
  refine' comp_rule (α := Nat) (fun p => eqNm (cut text p word.length) word) (fun p => R.i p) ?hclos (by decide) rfl (by decide) rfl ?_ (by intro _; rfl)
  case hclos => with_unfolding_all rfl
  refine call1_type (fun Q' q => nm_bi (G0.grow G2) rfl boot_range q rfl rfl rfl rfl rfl (by decide)) (wpAny_BinOp (wpAny_BinOp (call1_builtin (fun Q' q => nm_bi (G0.grow G2) rfl boot_len q rfl rfl rfl rfl rfl (by decide)) (ldC Y2 rfl rfl (len_list (G2.list ht).isList (by rw [evs]; omega) (ldC Y2 rfl rfl (sub_int (wpAny_Constant_int (add_int ?_)))))))))
  have er : ((vs.size : Int) - (word.length : Int) + 1) = ((text.length + 1 - word.length : Nat) : Int) := by rw [evs]; omega
  rw [er]
  refine call_range_1 ?_
  refine comp_src_range hh (IsRange.new _ _ _ _ _ _ _) (by omega) ?_ ?_ ?_
  · intro C k tk3 s₃ m₃ E' hk hn hm hg
    dsimp only at hg
    have hg2 : Grow h2 s₃.heap := (Grow.push _ _).trans hg
    have cs : s₃.heap.IsCell (L + 3) (some (.int (word.length : Int) (tk + 1))) := hg2.cell (Y2.cell (PySem.Str.ofString "size") (L + 3) rfl)
    have ct : s₃.heap.IsCell (L + 1) (some (.ref ta)) := hg2.cell (Y2.cell (PySem.Str.ofString "text") (L + 1) rfl)
    have cw : s₃.heap.IsCell (L + 2) (some (.ref wa)) := hg2.cell (Y2.cell (PySem.Str.ofString "word") (L + 2) rfl)
    refine wpAny_tests_one (wpAny_isTrue_Compare1 (eval_slice (ldCellK rfl ct (ldVarK hn hm (wpAny_BinOp (ldVarK hn hm (ldCellK rfl cs (add_int ?_))))))))
    have T3 := hg2.list (G2.list ht)
    have W3 := hg2.list (G2.list hw)
    refine ⟨ta, vs, some (k : Int), some ((k : Int) + (word.length : Int)), rfl, T3.isList, by rw [evs, sizeLine_eq]; omega, .int _ _, .int _ _, ?_⟩
    intro D h4 sD zD g4 lD
    dsimp only at g4 lD ⊢
    have e1 : ((k : Int) + (word.length : Int)) = ((k + word.length : Nat) : Int) := by omega
    rw [e1, pick_cut, Nat.add_sub_cancel_left] at lD
    have cw4 := g4.cell cw
    refine ldCellK rfl cw4 (eq_nms lD.isList (hv.cut k word.length) (g4.list W3).isList hvw (by show A.units + 3 + 64 < cLine; omega) (wpAny_truthy_bool ⟨rfl, _, _, rfl, g4.keep⟩))
  · intro C k tk3 s₃ m₃ E' hk _ hn hm hg
    exact ldVarK hn hm ⟨⟨_, _, rfl, fun _ _ q => q⟩, .i k _⟩
  · intro D h5 tk5 ys sD pl5 r5 g5 zD5
    dsimp only at sD g5 r5 ⊢
    have g6 : Grow h2 h5 := (Grow.push _ _).trans g5
    refine h D h5 _ ys (G2.trans g6) ?_ zD5 pl5 (NatsAre.ofR r5)
    have b1 := G2.size
    rw [Heap.size_push] at sD
    omega
end
end Nest
namespace Nest

section
variable {prog : Program} {w : World} {A : Around} {E : Value → Shared → Prop} {s : Shared} {env : Env}

/-- a local name is stored -/
theorem st_any {x : Str} {v : Value} {h₀ : Heap} {m : Str → Option Value} {Q : Unit → Shared → Prop} (F : Fr h₀ env.locals s.heap m) (hl : env.kindOf x = some .local)
    (h : ∀ h', Fr h₀ env.locals h' (fun y => if y = x then some v else m y) → Heap.SameBut env.locals s.heap h' → Q () { s with heap := h', toks := s.toks + 1 })
    (hp : (env.scope.kind == .class || (env.scope.kind == .module && env.locals != env.globals)) = false := by rfl) : wpAny (model prog w) A (storeName env x v) Q E s :=
  wpAny_storeName_local hl F.ns (fun h' hn hs => h h' (F.set hn hs) hs) hp
theorem st_ns {x : Str} {v : Value} {m : Str → Option Value} {Q : Unit → Shared → Prop} (F : s.heap.Ns env.locals m) (hl : env.kindOf x = some .local)
    (h : ∀ h', h'.Ns env.locals (fun y => if y = x then some v else m y) → Heap.SameBut env.locals s.heap h' → Q () { s with heap := h', toks := s.toks + 1 })
    (hp : (env.scope.kind == .class || (env.scope.kind == .module && env.locals != env.globals)) = false := by rfl) : wpAny (model prog w) A (storeName env x v) Q E s :=
  wpAny_storeName_local hl F (fun h' hn hs => h h' hn hs) hp

theorem ld_ns {x : Str} {pos : Pos} {v : Value} {m : Str → Option Value} {Q : Value → Shared → Prop} (F : s.heap.Ns env.locals m) (hv : m x = some v) (h : Q v s)
    (hk : env.scope.kind = .function := by rfl) (hl : env.kindOf x = some .local := by rfl) (hd : (x == ("__debug__" : Str)) = false := by decide) :
    wpAny (model prog w) A (eval (.Name x pos) env) Q E s := wpAny_Name (wpAny_loadName_local hk hl F hv h) hd

theorem upd_ne {m : Str → Option Value} {x y : Str} {v : Option Value} {u : Option Value} (hne : (x == y) = false) (h : m x = u) : (if x = y then v else m x) = u := by
  have : ¬ x = y := by intro e; rw [e] at hne; simp at hne
  rw [if_neg this]; exact h

theorem ite_notB {b : Bool} {P Q : Prop} (ht : b = true → Q) (hf : b = false → P) : if (!b) = true then P else Q := by
  cases b with
  | true => rw [if_neg (by decide)]; exact ht rfl
  | false => rw [if_pos (by decide)]; exact hf rfl
theorem ite_B {b : Bool} {P Q : Prop} (ht : b = true → P) (hf : b = false → Q) : if b = true then P else Q := by
  cases b with
  | true => rw [if_pos rfl]; exact ht rfl
  | false => rw [if_neg (by decide)]; exact hf rfl

/-- names.append(e) -/
theorem append_expr {x : Str} {xp apos pos : Pos} {e : Expr} {D : Addr} {ys₀ : Array Value} {Q : Value → Shared → Prop}
    (hn : ∀ Q' : Value → Shared → Prop, Q' (.ref D) s → wpAny (model prog w) A (eval (.Name x xp) env) Q' E s) (hD : s.heap.PlainList D ys₀)
    (h : wpAny (model prog w) A (eval e env) (fun v s₁ => ∃ ys : Array Value, s₁.heap.PlainList D ys ∧ ys.size ≤ sizeLine ∧ ∀ h', h'.PlainList D (ys.push v) → Heap.SameBut D s₁.heap h' → Q .none { s₁ with heap := h' }) E s)
    (hbase : attributeBase (.Name x xp) "append" env (eval (.Name x xp) env) = eval (.Name x xp) env) (hline : (apos.endLine == pos.line) = true)
    (htrees : backTo pos (starEach [e] env) = [(false, eval e env)]) :
    wpAny (model prog w) A (eval (.Call (.Attribute (.Name x xp) "append" apos) [e] [] pos) env) Q E s := by
  refine wpAny_Call_method1_late hbase hline htrees (hn _ ⟨"list", "list.append", PySem.F.plainAttrs_list, slot_list_append, type_list_append, ?_, ?_, ?_⟩)
  · obtain ⟨n, e⟩ := hD; exact ⟨_, e, rfl⟩
  · intro a ea; cases ea; obtain ⟨n, e⟩ := hD; exact ⟨_, e, rfl⟩
  · refine Calls.callWith_builtin rfl (Calls.evalArgs_plain (Calls.spliced_cons (wpAny_mono h (fun v s₁ h₁ => Calls.spliced_nil ?_) fun _ _ e => e)))
    obtain ⟨ys, hpl, hsz, hq⟩ := h₁
    exact wpAny_list_append_plain (hsz := hsz) hpl hq

/-- a for over a list: the loop's own word J speaks of the objects at mu alone -/
structure ForList (prog : Program) (w : World) (A : Around) (env : Env) {α : Type} (x : Str) (body : List Stmt) (Q : Flow → Shared → Prop) (ax : Addr) (items : Array Value) (as : List α) (is : α → Value → Prop) (mu : List Addr) (J : Nat → Heap → Prop) (s₁ : Shared) : Prop where
  list : s₁.heap.IsList ax items
  size : items.size = as.length
  items : ∀ (i : Nat) (v : Value), items[i]? = some v → ∃ a, as[i]? = some a ∧ is a v
  axoff : ax ∉ mu
  mutlt : ∀ b ∈ mu, b < s₁.heap.objs.size
  stab : ∀ i h h', J i h → (∀ b ∈ mu, ∀ o, h.get? b = some o → h'.get? b = some o) → J i h'
  init : J 0 s₁.heap
  step : ∀ (i : Nat) (a : α) (v : Value) (h : Heap) (tk : Nat) (E' : Value → Shared → Prop), as[i]? = some a → is a v → J i h → (∀ b o, b ∉ mu → s₁.heap.get? b = some o → h.get? b = some o) →
    wpAny (model prog w) A (storeName env x v) (fun _ s₂ => wpAny (model prog w) A (execs body env) (fun f s₃ => f = .next ∧ ∃ h' tk', s₃ = { s₁ with heap := h', toks := tk' } ∧ J (i + 1) h' ∧ ∀ b o, b ∉ mu → h.get? b = some o → h'.get? b = some o) E' s₂) E' { s₁ with heap := h, toks := tk }
  done : ∀ (h : Heap) (tk : Nat), J as.length h → (∀ b o, b ∉ mu → s₁.heap.get? b = some o → h.get? b = some o) → Q .next { s₁ with heap := h, toks := tk }

theorem for_list {α : Type} {x : Str} {px pos : Pos} {iter : Expr} {body : List Stmt} {Q : Flow → Shared → Prop} (hh : A.handled = none)
    (h : wpAny (model prog w) A (eval iter env) (fun xv s₁ => ∃ ax items, ∃ (as : List α) (is : α → Value → Prop) (mu : List Addr) (J : Nat → Heap → Prop), xv = .ref ax ∧ ForList prog w A env x body Q ax items as is mu J s₁) E s)
    (hs : ∀ x, foldedSetIterable iter env x = pure x := by intro _; rfl) :
    wpAny (model prog w) A (exec (.For (.Name x px) iter body [] pos) env) Q E s := by
  refine wpAny_For (wpAny_mono h (fun xv s₁ h₁ => ?_) fun _ _ e => e) hs
  obtain ⟨ax, items, as, is, mu, J, rfl, H⟩ := h₁
  have hlt : ax < s₁.heap.objs.size := by obtain ⟨_, e, _⟩ := H.list; exact Heap.lt_size e
  have hIm : s₁.heap.objs.size ∉ mu := fun hm => Nat.lt_irrefl _ (H.mutlt _ hm)
  have W := Walks.list (prog := prog) (w := w) hh s₁.heap.objs.size ax (Nat.ne_of_lt hlt) items
  rw [H.size] at W
  refine wpAny_pyIter_list H.list ?_
  refine codeAny_forLoop (fun k s' => ∃ (i : Nat) (h' : Heap) (tk : Nat), s' = { s₁ with heap := h', toks := tk } ∧ i ≤ as.length ∧ k = as.length + 1 - i ∧ J i h' ∧ h'.IsListIter s₁.heap.objs.size ax i ∧ h'.IsList ax items ∧
      (∀ b o, b ∉ mu → s₁.heap.get? b = some o → h'.get? b = some o)) ?_ (as.length + 1)
    ⟨0, _, s₁.toks, rfl, Nat.zero_le _, rfl, H.stab 0 _ _ H.init (fun b _ o e => Heap.get?_push_of_some _ e), ⟨_, Heap.get?_push_size _ rfl, rfl, rfl⟩, H.list.push _, fun b o _ e => Heap.get?_push_of_some _ e⟩
  rintro k s' ⟨i, h', tk, rfl, hi, rfl, hJ, hit, hli, hk⟩
  by_cases hlt' : i < as.length
  · have hi' : i < items.size := by rw [H.size]; exact hlt'
    refine wpAny_pyNext_list_item hit hli (x := items[i]) (by simp [hi']) fun h₂ hit₂ hs₂ => ?_
    obtain ⟨a, ha, hav⟩ := H.items i items[i] (by simp [hi'])
    have up : ∀ b o, b ≠ s₁.heap.objs.size → h'.get? b = some o → h₂.get? b = some o := fun b o hb e => hs₂.extBut b o hb e
    have hk₂ : ∀ b o, b ∉ mu → s₁.heap.get? b = some o → h₂.get? b = some o := fun b o hb e => up b o (Nat.ne_of_lt (Heap.lt_size e)) (hk b o hb e)
    have hJ₂ : J i h₂ := H.stab i _ _ hJ fun b hb o e => up b o (fun q => hIm (q ▸ hb)) e
    refine wpAny_assign_Name (wpAny_mono (H.step i a _ h₂ tk _ ha hav hJ₂ hk₂) (fun _ s₃ h₃ => wpAny_mono h₃ (fun f s₄ h₄ => ?_) fun _ _ e => e) fun _ _ e => e)
    obtain ⟨rfl, h₅, tk₅, rfl, hJ₅, hk₅⟩ := h₄
    refine ⟨as.length + 1 - (i + 1), by omega, i + 1, h₅, tk₅, rfl, hlt', rfl, hJ₅, hit₂.at fun o e => hk₅ _ o hIm e, (hli.extBut hs₂.extBut (Nat.ne_of_lt hlt)).at fun o e => hk₅ _ o H.axoff e, fun b o hb e => hk₅ b o hb (hk₂ b o hb e)⟩
  · have hin : i = as.length := by omega
    subst hin
    refine wpAny_pyNext_list_end hh hit hli (by rw [← H.size]; simp) fun h₂ he₂ => ?_
    have up : ∀ b o, b ≠ s₁.heap.objs.size → h'.get? b = some o → h₂.get? b = some o := fun b o hb e => he₂ b o hb e
    exact wpAny_execs_nil (H.done h₂ tk (H.stab _ _ _ hJ fun b hb o e => up b o (fun q => hIm (q ▸ hb)) e) fun b o hb e => up b o (Nat.ne_of_lt (Heap.lt_size e)) (hk b o hb e))
end
end Nest
namespace Nest
theorem SameBut.plain {L a : Addr} {h h' : Heap} {vs : Array Value} (hs : Heap.SameBut L h h') (hne : a ≠ L) (x : h.PlainList a vs) : h'.PlainList a vs := x.extBut hs.extBut hne
theorem SameBut.rall {L lo : Nat} {h h' : Heap} {vs : List Value} {rs : List R} (hs : Heap.SameBut L h h') (hne : L < lo) (x : RAll lo h vs rs) : RAll lo h' vs rs :=
  x.mono (Nat.le_refl _) fun _ _ hb e => hs.extBut _ _ (Nat.ne_of_gt (Nat.lt_of_lt_of_le hne hb)) e
theorem eqNm_nil (word : List Nm) : eqNm word [] = word.isEmpty := by cases word <;> rfl
theorem hasNm_any (k : Nm) : ∀ xs : List Nm, (nmsPy xs).any (fun y => PyData.eqv y (.str k.str)) = hasNm k xs
  | [] => rfl
  | x :: xs => by
    have e : PyData.eqv (.str x.str) (.str k.str) = x.eq k := by cases x <;> cases k <;> decide
    show (PyData.eqv (.str x.str) (.str k.str) || (nmsPy xs).any _) = _
    rw [e, hasNm_any k xs, hasNm]
    cases x.eq k <;> rfl
section
variable {prog : Program} {w : World} {A : Around} {E : Value → Shared → Prop} {s : Shared}
theorem notIn_nms {b : Addr} {ws : Array Value} {k : Nm} {t : Tok} {ys : List Nm} {Q : Value → Shared → Prop} (hb : s.heap.IsList b ws) (hw : NmsAre ws.toList ys) (hu : A.units + 64 < cLine)
    (h : Q (.bool (!hasNm k ys)) s) : wpAny (model prog w) A (compareOp .NotIn (.str k.str t) (.ref b)) Q E s := by
  refine SeqAt.notIn_list_reads (nms_list_reads hb hw) (.str k.str t) (nms_lay ys).1 k.strOk ?_ ?_
  · rw [(nms_lay ys).2]; simp only [Nat.zero_min]; omega
  · rw [hasNm_any]; exact h
end

theorem places_len (text word : List Nm) : (places text word).length ≤ text.length + 1 := by
  unfold places
  refine Nat.le_trans (List.length_filter_le _ _) ?_
  rw [List.length_range]; omega
def dueHead (text : List Nm) : List Nm → List R
  | [] => []
  | x :: word => [R.two (.n .h) (R.ofList (.n .l :: (places text (x :: word)).map fun p => item text p (p + (x :: word).length)))]
theorem dueHead_of {text word : List Nm} (hw : word ≠ []) : dueHead text word = [R.two (.n .h) (R.ofList (.n .l :: (places text word).map fun p => item text p (p + word.length)))] := by
  cases word with
  | nil => exact absurd rfl hw
  | cons x r => rfl

theorem due_split {text word : List Nm} {f : Nat} {r : R} (h : due text (f + 1) word = some r) :
    ∃ d : Nm → R, (∀ k ∈ nexts text word.length (places text word), due text f (word ++ [k]) = some (d k)) ∧ r = R.ofList (dueHead text word ++ (nexts text word.length (places text word)).map fun k => R.two (.n k) (d k)) := by
  rw [due] at h
  cases hm : mapO (fun k => pairO k (due text f (word ++ [k]))) (nexts text word.length (places text word)) with
  | none => rw [hm] at h; cases h
  | some r' =>
    rw [hm] at h
    obtain ⟨e, hk⟩ := mapO_some (d := fun k => R.two (.n k) ((due text f (word ++ [k])).getD .nil)) hm (fun k _ y hy => by
      cases hd : due text f (word ++ [k]) with
      | none => rw [hd] at hy; cases hy
      | some x => rw [hd] at hy; cases hy; rfl)
    refine ⟨fun k => (due text f (word ++ [k])).getD .nil, fun k hkm => ?_, ?_⟩
    · have := hk k hkm
      cases hd : due text f (word ++ [k]) with
      | none => rw [hd] at this; cases this
      | some x => simp [hd]
    · cases word with
      | nil => cases h; rw [e]; rfl
      | cons x w' => cases h; rw [e, mapR_eq]; rfl
theorem addNew_t {ns : List Nm} {k : Nm} (h : hasNm k ns = true) : addNew ns k = ns := by unfold addNew; rw [h]
theorem addNew_f {ns : List Nm} {k : Nm} (h : hasNm k ns = false) : addNew ns k = ns ++ [k] := by unfold addNew; rw [h]
theorem addNew_len (ns : List Nm) (k : Nm) : (addNew ns k).length ≤ ns.length + 1 := by
  unfold addNew
  split
  · omega
  · rw [List.length_append]; simp
theorem foldNew_len : ∀ (xs ns : List Nm), (xs.foldl addNew ns).length ≤ ns.length + xs.length
  | [], ns => by simp
  | x :: xs, ns => by
    have h1 := foldNew_len xs (addNew ns x)
    have h2 := addNew_len ns x
    rw [List.foldl_cons, List.length_cons]; omega
theorem cut1_len {α : Type} (xs : List α) (p : Nat) : (cut xs p 1).length ≤ 1 := by unfold cut; rw [List.length_take]; omega
theorem nexts_snoc (text : List Nm) (n : Nat) (ps : List Nat) (p : Nat) : nexts text n (ps ++ [p]) = (cut text (p + n) 1).foldl addNew (nexts text n ps) := by
  unfold nexts; rw [List.foldl_append]; rfl
theorem foldStep_len (text : List Nm) (n : Nat) : ∀ (ps : List Nat) (ns : List Nm), (ps.foldl (fun ns p => (cut text (p + n) 1).foldl addNew ns) ns).length ≤ ns.length + ps.length
  | [], ns => by simp
  | p :: ps, ns => by
    have h1 := foldStep_len text n ps ((cut text (p + n) 1).foldl addNew ns)
    have h2 := foldNew_len (cut text (p + n) 1) ns
    have h3 := cut1_len text (p + n)
    rw [List.foldl_cons, List.length_cons]; omega
theorem nexts_len (text : List Nm) (n : Nat) (ps : List Nat) : (nexts text n ps).length ≤ ps.length := by
  have := foldStep_len text n ps []
  unfold nexts; simpa using this
theorem take_snoc {α : Type} {l : List α} {i : Nat} {a : α} (h : l[i]? = some a) : l.take (i + 1) = l.take i ++ [a] := by
  rw [List.take_add_one, h]; rfl
theorem mem_foldNew {k : Nm} : ∀ {xs ns : List Nm}, k ∈ xs.foldl addNew ns → k ∈ ns ∨ k ∈ xs
  | [], _, h => .inl h
  | x :: xs, ns, h => by
    rcases mem_foldNew (xs := xs) h with h | h
    · unfold addNew at h
      split at h
      · exact .inl h
      · rcases List.mem_append.mp h with h | h
        · exact .inl h
        · exact .inr (List.mem_singleton.mp h ▸ .head _)
    · exact .inr (.tail _ h)
theorem mem_nexts {text : List Nm} {n : Nat} {k : Nm} : ∀ {ps : List Nat} {ns : List Nm}, k ∈ ps.foldl (fun ns p => (cut text (p + n) 1).foldl addNew ns) ns → k ∈ ns ∨ n < text.length
  | [], _, h => .inl h
  | p :: ps, ns, h => by
    rcases mem_nexts (ps := ps) h with h | h
    · rcases mem_foldNew h with h | h
      · exact .inl h
      · refine .inr ?_
        unfold cut at h
        have h1 : 0 < ((text.drop (p + n)).take 1).length := List.length_pos_of_mem h
        rw [List.length_take, List.length_drop] at h1
        omega
    · exact .inr h

section
variable {prog : Program} {w : World} {mg mb : Str → Option Value}
set_option maxRecDepth 100000 in
set_option maxHeartbeats 2000000 in
theorem due_spec : ∀ (f : Nat) {A : Around} {s : Shared} {E : Value → Shared → Prop} {Q : Value → Shared → Prop} {ta wa : Addr} {vs ws : Array Value} {text word : List Nm} {r : R}
    (_G0 : Gl w mg mb s.heap) (_hh : A.handled = none) (_hroom : A.depth + f + 1 < recursionLimit) (_hu : A.units + 3 * f + 80 < cLine)
    (_ht : s.heap.PlainList ta vs) (_hv : NmsAre vs.toList text) (_hsz : text.length ≤ 64)
    (_hw : s.heap.PlainList wa ws) (_hvw : NmsAre ws.toList word) (_hszw : word.length ≤ text.length) (_hr : due text f word = some r)
    (_h : ∀ v h' tk', Grow s.heap h' → RIn s.heap.objs.size h' v r → Q v { s with heap := h', toks := tk' }),
    wpAny (model prog w) A (call (.ref 77) [.ref ta, .ref wa]) Q E s := by
  intro f
  induction f with
  | zero => intro A s E Q ta wa vs ws text word r _ _ _ _ _ _ _ _ _ _ hr; cases hr
  | succ f ih =>
  intro A s E Q ta wa vs ws text word r G0 hh hroom hu ht hv hsz hw hvw hszw hr h
  refine wpAny_call ?_
  refine' enterC G0.X G0.lim ?k1 ?k2 (by omega) ?k3 ?k4 ?_ ?c1 ?c2 ?c3
  case k1 => exact rfl
  case k2 => exact rfl
  case k3 => exact BindsTo.of_eq rfl
  case k4 => exact rfl
  case c1 => exact rfl
  case c2 => exact rfl
  case c3 => exact rfl
  intro L h₁ tk F Y G hL
  have ews : ws.size = word.length := by rw [← hvw.length]; simp
  have evs : vs.size = text.length := by rw [← hv.length]; simp
  refine wpAny_execs_cons (wpAny_Assign_Name (call2_own (fun Q' q => nm_own (G0.grow G) rfl q rfl rfl rfl rfl) (G0.grow G).X rfl (ldC Y rfl rfl (ldC Y rfl rfl ⟨(G0.grow G).X, ?_⟩))))
  refine places_spec (G0.grow G) hh (by show A.depth + 1 < _; omega) (by show A.units + 3 + 70 < _; omega) (G.list ht) hv hsz (G.list hw) hvw hszw ?_
  intro P h2 tk2 ps g2 sP zP lP nP
  (try dsimp only at g2); (try dsimp only at sP); (try dsimp only at ⊢)
  refine st_any (g2.fr F) rfl ?_
  intro h3 F3 hs3
  (try dsimp only at F3); (try dsimp only at hs3); (try dsimp only at ⊢)
  have Y3 := (Y.keeps g2.keep).sameBut hs3 (Nat.le_refl _)
  have hLP : L < P := Nat.lt_of_lt_of_le F.ns.lt sP
  have lP3 := SameBut.plain hs3 (Nat.ne_of_gt hLP) lP
  refine wpAny_execs_cons (wpAny_Assign_Name (eval_list0 ?_))
  intro D h4 sD zD g4 lD
  (try dsimp only at sD); (try dsimp only at g4); (try dsimp only at ⊢)
  have hLD : L < D := Nat.lt_of_lt_of_le F3.ns.lt sD
  have hPD : P < D := by have e := hs3.1; omega
  refine st_any (g4.fr F3) rfl ?_
  intro h5 F5 hs5
  (try dsimp only at F5); (try dsimp only at hs5); (try dsimp only at ⊢)
  have Y5 := (Y3.keeps g4.keep).sameBut hs5 (Nat.le_refl _)
  have lP5 := SameBut.plain hs5 (Nat.ne_of_gt hLP) (g4.list lP3)
  have lD5 := SameBut.plain hs5 (Nat.ne_of_gt hLD) lD
  have G5 := Grow.of_fr F5
  have hD5 : D < h5.objs.size := by have e := hs5.1; omega
  refine wpAny_execs_cons (wpAny_mono (Q := fun fl s' => fl = Flow.next ∧ ∃ h' tk', ∃ dys : Array Value, s' = { s with heap := h', toks := tk' } ∧ h5.objs.size ≤ h'.objs.size ∧ (∀ b o, b ≠ D → h5.get? b = some o → h'.get? b = some o) ∧ h'.PlainList D dys ∧ RAll h5.objs.size h' dys.toList (dueHead text word)) (E := fun _ _ => False) ?_ (fun fl s' hq => ?_) (fun _ _ e => e))
  · refine wpAny_If (wpAny_isTrue_Compare1 (ldC Y5 rfl rfl (eval_list0 ?_)))
    intro Z h6 sZ zZ g6 lZ
    (try dsimp only at g6); (try dsimp only at ⊢)
    refine ne_nms (g6.list (G5.list hw)).isList hvw lZ.isList .nil (by show A.units + 3 + 64 < _; omega) (wpAny_truthy_bool ?_)
    rw [eqNm_nil]
    cases hwd : word.isEmpty with
    | true =>
      have hwn : word = [] := by simpa using hwd
      subst hwn
      refine wpAny_execs_nil ⟨rfl, h6, _, #[], rfl, g6.size, fun b o _ e => g6.keep b o e, g6.list lD5, ?_⟩
      exact .nil
    | false =>
      have hwn : word ≠ [] := by intro e; rw [e] at hwd; cases hwd
      simp only [Bool.not_false, if_true]
      have F6 := g6.fr F5
      have Y6 := Y5.keeps g6.keep
      refine wpAny_execs_cons (wpAny_Expr_any (append_expr (fun Q' q => ldLoc F6 rfl q) (g6.list lD5) (eval_list2 (Calls.Constant_str (wpAny_BinOp (eval_list1 (Calls.Constant_str ?_))))) rfl rfl rfl))
      intro l7 h7 s7 z7 g7 p7
      (try dsimp only at g7); (try dsimp only at ⊢)
      have g57 := g6.trans g7
      have F7 := g57.fr F5
      have Y7 := Y5.keeps g57.keep
      have G7 := G5.trans g57
      refine' comp_rule (α := Nat) (fun _ => true) (fun p => item text p (p + word.length)) ?hclos (by decide) rfl (by decide) rfl ?_ (by intro _; rfl)
      case hclos => with_unfolding_all rfl
      refine ldLoc F7 rfl ?_
      refine comp_src_list (places text word) (fun k v => ∃ t, v = .int (k : Int) t) hh (g57.list lP5).isList (by rw [← nP.length]; simp) (fun i v q => ?_) (by have := places_len text word; rw [sizeLine_eq]; omega) ?_ ?_ ?_
      · obtain ⟨x, t, q1, q2⟩ := nP.get (by simpa using q)
        exact ⟨x, q1, t, q2⟩
      · intro C a v s₃ m₃ E' ha hv hn hm hk
        exact wpAny_tests_nil ⟨rfl, _, _, rfl, fun _ _ q => q⟩
      · intro C k v s₃ m₃ E' hk' hv' _ hn hm hg
        obtain ⟨t, rfl⟩ := hv'
        (try dsimp only at hg)
        have ct : s₃.heap.IsCell (L + 1) (some (.ref ta)) := hg.cell (Y7.cell (PySem.Str.ofString "text") (L + 1) rfl)
        have cw : s₃.heap.IsCell (L + 2) (some (.ref wa)) := hg.cell (Y7.cell (PySem.Str.ofString "word") (L + 2) rfl)
        have Gs := G0.grow (G7.trans hg)
        have W3 := hg.list (G7.list hw)
        refine call3_own (fun Q' q => nm_own Gs rfl q rfl rfl rfl rfl) Gs.X rfl (ldCellK rfl ct (ldVarK hn hm (wpAny_BinOp (ldVarK hn hm (call1_builtin (fun Q' q => nm_bi Gs rfl boot_len q rfl rfl rfl rfl rfl (by decide)) (ldCellK rfl cw (len_list W3.isList (by rw [ews]; omega) (add_int ⟨Gs.X, ?_⟩))))))))
        have ea : ((k : Int) + (ws.size : Int)) = ((k + word.length : Nat) : Int) := by rw [ews]; omega
        rw [ea]
        refine item_spec Gs.X Gs.lim hh (by show A.depth + 1 < _; omega) (hg.list (G7.list ht)) hv hsz ?_
        intro v' h' tk' g' r'
        (try dsimp only at g'); (try dsimp only at r'); (try dsimp only at ⊢)
        exact ⟨⟨_, _, rfl, g'.keep⟩, r'⟩
      · intro C8 h8 tk8 ys8 sC8 p8 r8 g8 z8
        (try dsimp only at sC8); (try dsimp only at g8); (try dsimp only at r8); (try dsimp only at ⊢)
        have ef : (places text word).filter (fun _ : Nat => true) = places text word := List.filter_eq_self.mpr fun _ _ => rfl
        rw [ef] at r8
        have e8 : ys8.size = (places text word).length := by
          have := r8.length
          rw [List.length_map] at this
          rw [← this]; simp
        refine add_plain (g8.list p7) p8 (by have := places_len text word; rw [sizeLine_eq, e8]; simp only [List.size_toArray, List.length_cons, List.length_nil]; omega) ?_
        intro l9 h9 s9 z9 g9 p9
        (try dsimp only at s9); (try dsimp only at g9); (try dsimp only at ⊢)
        intro l10 h10 s10 z10 g10 p10
        (try dsimp only at s10); (try dsimp only at g10); (try dsimp only at ⊢)
        have g5A : Grow h5 h10 := g57.trans (g8.trans (g9.trans g10))
        refine ⟨#[], g5A.list lD5, Nat.zero_le _, fun h11 p11 hs11 => ?_⟩
        (try dsimp only at hs11); (try dsimp only at ⊢)
        have b5 := g57.size
        have b8 := g8.size
        have b9 := g9.size
        refine wpAny_execs_nil ⟨rfl, h11, _, _, rfl, by rw [hs11.1]; exact g5A.size, fun b o hb e => hs11.extBut b o hb (g5A.keep b o e), p11, ?_⟩
        have offD : ∀ b o, h5.objs.size ≤ b → h10.get? b = some o → h11.get? b = some o := fun b o hb e => hs11.extBut b o (Nat.ne_of_gt (Nat.lt_of_lt_of_le hD5 hb)) e
        rw [dueHead_of hwn]
        refine RAll.mono (h := h10) (lo := h5.objs.size) (Nat.le_refl _) offD ?_
        refine .cons (RIn.list (rs := [.n .h, _]) (by omega) p10 (.cons (.n .h _) (.cons (RIn.list (by omega) (g10.list p9) ?_) .nil))) .nil
        rw [Array.toList_append]
        exact RAll.append (rs := [.n .l]) (.cons (.n .l _) .nil) (((g9.trans g10).rall r8).mono (by omega) fun _ _ _ e => e)
  · obtain ⟨rfl, h6, tk6, dys, rfl, z6, k6, lD6, rD6⟩ := hq
    have F6 : Fr s.heap L h6 _ := ⟨F5.ns.at' fun o e => k6 L o (Nat.ne_of_lt hLD) e, fun b o e => k6 b o (Nat.ne_of_lt (Nat.lt_trans (Nat.lt_of_lt_of_le (Heap.lt_size e) F5.above) hLD)) (F5.keep b o e), F5.above⟩
    have Y6 : Cl L _ h6 _ := ⟨fun n c e => by
      obtain ⟨o, ho, hd⟩ := Y5.cell n c e
      obtain ⟨o', ho', _⟩ := Y.cell n c e
      exact ⟨o, k6 c o (Nat.ne_of_lt (Nat.lt_trans (Nat.lt_of_lt_of_le (Heap.lt_size ho') sP) hPD)) ho, hd⟩, Y5.apart, Y5.above⟩
    have lP6 : h6.PlainList P ps := lP5.at fun o e => k6 P o (Nat.ne_of_lt hPD) e
    refine wpAny_execs_cons (wpAny_Assign_Name (eval_list0 ?_))
    intro NM h7 sNM zNM g7 lNM
    (try dsimp only at sNM); (try dsimp only at g7)
    have hLN : L < NM := Nat.lt_of_lt_of_le F6.ns.lt sNM
    have hDN : D < NM := by omega
    refine st_any (g7.fr F6) rfl ?_
    intro h8 F8 hs8
    (try dsimp only at F8); (try dsimp only at hs8)
    have Y8 := (Y6.keeps g7.keep).sameBut hs8 (Nat.le_refl _)
    have lP8 := SameBut.plain hs8 (Nat.ne_of_gt hLP) (g7.list lP6)
    have lD8 := SameBut.plain hs8 (Nat.ne_of_gt hLD) (g7.list lD6)
    have lN8 := SameBut.plain hs8 (Nat.ne_of_gt hLN) lNM
    have rD8 : RAll h5.objs.size h8 dys.toList (dueHead text word) := SameBut.rall hs8 (by have := F5.ns.lt; exact this) (g7.rall rD6)
    have hN8 : NM < h8.objs.size := by have e := hs8.1; omega
    refine wpAny_execs_cons (for_list (α := Nat) hh (ldLoc F8 rfl ⟨P, ps, places text word, fun k v => ∃ t, v = .int (k : Int) t, [L, NM],
      fun i h => ∃ m, ∃ ys : Array Value, h.Ns L m ∧ m (PySem.Str.ofString "names") = some (.ref NM) ∧ m (PySem.Str.ofString "due") = some (.ref D) ∧ h.PlainList NM ys ∧ NmsAre ys.toList (nexts text word.length ((places text word).take i)), rfl, ?_⟩))
    refine ⟨lP8.isList, by rw [← nP.length]; simp, fun i v q => ?_, ?_, ?_, ?_, ?_, ?_, ?_⟩
    · obtain ⟨x, t, q1, q2⟩ := nP.get (by simpa using q)
      exact ⟨x, q1, t, q2⟩
    · intro hm
      rcases List.mem_cons.mp hm with e | hm
      · exact Nat.ne_of_gt hLP e
      · exact Nat.ne_of_lt (Nat.lt_trans hPD hDN) (List.mem_singleton.mp hm)
    · intro b hb
      rcases List.mem_cons.mp hb with rfl | hb
      · exact F8.ns.lt
      · rw [List.mem_singleton.mp hb]; exact hN8
    · rintro i h h' ⟨m, ys, a1, a2, a3, a4, a5⟩ hk
      exact ⟨m, ys, a1.at' (hk L (.head _)), a2, a3, a4.at (hk NM (.tail _ (.head _))), a5⟩
    · exact ⟨_, #[], F8.ns, rfl, rfl, lN8, .nil⟩
    · intro i p v h tk9 E' hp hv' hJ hk
      obtain ⟨t, rfl⟩ := hv'
      obtain ⟨m, ys, a1, a2, a3, a4, a5⟩ := hJ
      refine st_ns a1 rfl ?_
      intro h10 n10 hs10
      (try dsimp only at n10); (try dsimp only at hs10)
      have K10 : ∀ b o, b ∉ [L, NM] → h8.get? b = some o → h10.get? b = some o := fun b o hb e => hs10.extBut b o (fun q => hb (q ▸ .head _)) (hk b o hb e)
      have offb : ∀ b, b < s.heap.objs.size → b ∉ [L, NM] := fun b hb hm => by
        rcases List.mem_cons.mp hm with e | hm
        · exact Nat.lt_irrefl _ (Nat.lt_of_lt_of_le (e ▸ hb) hL)
        · exact Nat.lt_irrefl _ (Nat.lt_trans (Nat.lt_of_lt_of_le ((List.mem_singleton.mp hm) ▸ hb) hL) hLN)
      have F10 : Fr s.heap L h10 _ := ⟨n10, fun b o e => K10 b o (offb b (Heap.lt_size e)) (F8.keep b o e), F8.above⟩
      have Y10 : Cl L _ h10 _ := ⟨fun n c e => by
        obtain ⟨o, ho, hd⟩ := Y8.cell n c e
        obtain ⟨o', ho', _⟩ := Y.cell n c e
        refine ⟨o, K10 c o (fun hm => ?_) ho, hd⟩
        rcases List.mem_cons.mp hm with q | hm
        · exact Nat.ne_of_gt (Y8.above n c (mem_of_lookup e)) q
        · exact Nat.ne_of_lt (Nat.lt_trans (Nat.lt_trans (Nat.lt_of_lt_of_le (Heap.lt_size ho') sP) hPD) hDN) (List.mem_singleton.mp hm), Y8.apart, Y8.above⟩
      have lN10 : h10.PlainList NM ys := SameBut.plain hs10 (Nat.ne_of_gt hLN) a4
      have Gs10 := G0.grow (Grow.of_fr F10)
      have T10 := (Grow.of_fr F10).list ht
      have W10 := (Grow.of_fr F10).list hw
      refine wpAny_execs_cons (wpAny_mono (Q := fun fl s' => fl = Flow.next ∧ ∃ h' tk', s' = { s with heap := h', toks := tk' } ∧ (∃ m, ∃ ys : Array Value, h'.Ns L m ∧ m (PySem.Str.ofString "names") = some (.ref NM) ∧ m (PySem.Str.ofString "due") = some (.ref D) ∧ h'.PlainList NM ys ∧ NmsAre ys.toList ((cut text (p + word.length) 1).foldl addNew (nexts text word.length ((places text word).take i)))) ∧ ∀ b o, b ∉ [L, NM] → h10.get? b = some o → h'.get? b = some o) (E := E') ?_ (fun fl s' hq => ?_) (fun _ _ e => e))
      · refine for_list (α := Nm) hh (eval_slice (ldC Y10 rfl rfl (wpAny_BinOp (ldLoc F10 rfl (call1_builtin (fun Q' q => nm_bi Gs10 rfl boot_len q rfl rfl rfl rfl rfl (by decide)) (ldC Y10 rfl rfl (len_list W10.isList (by rw [ews]; omega) (add_int (wpAny_BinOp (wpAny_BinOp (ldLoc F10 rfl (call1_builtin (fun Q' q => nm_bi Gs10 rfl boot_len q rfl rfl rfl rfl rfl (by decide)) (ldC Y10 rfl rfl (len_list W10.isList (by rw [ews]; omega) (add_int (wpAny_Constant_int (add_int ?_)))))))))))))))) )
        refine ⟨ta, vs, some ((p : Int) + (ws.size : Int)), some ((p : Int) + (ws.size : Int) + 1), rfl, T10.isList, by rw [evs, sizeLine_eq]; omega, .int _ _, .int _ _, ?_⟩
        intro S h11 sS zS g11 lS
        (try dsimp only at sS); (try dsimp only at g11)
        have e1 : ((p : Int) + (ws.size : Int)) = ((p + word.length : Nat) : Int) := by rw [ews]; omega
        have e2 : (((p + word.length : Nat) : Int) + 1) = ((p + word.length + 1 : Nat) : Int) := by omega
        rw [e1, e2, pick_cut, Nat.add_sub_cancel_left] at lS
        have hc := hv.cut (p + word.length) 1
        have hLS : L < S := Nat.lt_of_lt_of_le F10.ns.lt sS
        have hNS : NM < S := by
          obtain ⟨q, e⟩ := lN10
          exact Nat.lt_of_lt_of_le (Heap.lt_size e) sS
        refine ⟨S, ((vs.toList.drop (p + word.length)).take 1).toArray, cut text (p + word.length) 1, fun x v => ∃ t, v = .str x.str t, [L, NM],
          fun j h => ∃ m, ∃ ys : Array Value, h.Ns L m ∧ m (PySem.Str.ofString "names") = some (.ref NM) ∧ m (PySem.Str.ofString "due") = some (.ref D) ∧ h.PlainList NM ys ∧ NmsAre ys.toList (((cut text (p + word.length) 1).take j).foldl addNew (nexts text word.length ((places text word).take i))), rfl, ?_⟩
        refine ⟨lS.isList, by rw [List.size_toArray, hc.length], fun i v q => ?_, ?_, ?_, ?_, ?_, ?_, ?_⟩
        · obtain ⟨x, t, q1, q2⟩ := hc.get (by simpa using q)
          exact ⟨x, q1, t, q2⟩
        · intro hm
          rcases List.mem_cons.mp hm with e | hm
          · exact Nat.ne_of_gt hLS e
          · exact Nat.ne_of_gt hNS (List.mem_singleton.mp hm)
        · intro b hb
          rcases List.mem_cons.mp hb with rfl | hb
          · exact Nat.lt_trans hLS zS
          · rw [List.mem_singleton.mp hb]; exact Nat.lt_trans hNS zS
        · rintro i h h' ⟨m, ys, a1, a2, a3, a4, a5⟩ hk
          exact ⟨m, ys, a1.at' (hk L (.head _)), a2, a3, a4.at (hk NM (.tail _ (.head _))), a5⟩
        · exact ⟨_, ys, g11.ns n10, upd_ne (by decide) a2, upd_ne (by decide) a3, g11.list lN10, a5⟩
        · intro j k v h tk12 E'' hkj hv' hJ hk12
          obtain ⟨tt, rfl⟩ := hv'
          obtain ⟨m', ys', b1, b2, b3, b4, b5⟩ := hJ
          refine st_ns b1 rfl ?_
          intro h13 n13 hs13
          (try dsimp only at n13); (try dsimp only at hs13)
          have lN13 : h13.PlainList NM ys' := SameBut.plain hs13 (Nat.ne_of_gt hLN) b4
          have K13 : ∀ b o, b ∉ [L, NM] → h.get? b = some o → h13.get? b = some o := fun b o hb e => hs13.extBut b o (fun q => hb (q ▸ .head _)) e
          refine wpAny_execs_cons (wpAny_If (wpAny_isTrue_Compare1 (ld_ns n13 rfl (ld_ns n13 (upd_ne (by decide) b2) (notIn_nms lN13.isList b5 (by show A.units + 3 + 64 < _; omega) (wpAny_truthy_bool ?_))))))
          have ez : h13.objs.size = h.objs.size := hs13.1
          have eN : ((cut text (p + word.length) 1).take (j + 1)).foldl addNew (nexts text word.length ((places text word).take i)) = addNew (((cut text (p + word.length) 1).take j).foldl addNew (nexts text word.length ((places text word).take i))) k := by
            rw [take_snoc hkj, List.foldl_append]; rfl
          refine ite_notB (fun hin => ?_) (fun hin => ?_)
          · refine wpAny_execs_nil (wpAny_execs_nil ⟨rfl, h13, _, rfl, ⟨_, ys', n13, upd_ne (by decide) b2, upd_ne (by decide) b3, lN13, ?_⟩, K13⟩)
            rw [eN, addNew_t hin]; exact b5
          · refine wpAny_execs_cons (wpAny_Expr_any (append_expr (fun Q' q => ld_ns n13 (upd_ne (by decide) b2) q) lN13 (ld_ns n13 rfl ⟨ys', lN13, ?_, fun h14 p14 hs14 => ?_⟩) rfl rfl rfl))
            · have e3 := b5.length
              have e4 := foldNew_len ((cut text (p + word.length) 1).take j) (nexts text word.length ((places text word).take i))
              have e5 := nexts_len text word.length ((places text word).take i)
              have e6 := places_len text word
              have e7 : ((cut text (p + word.length) 1).take j).length ≤ 1 := Nat.le_trans (by rw [List.length_take]; exact Nat.min_le_right _ _) (cut1_len text (p + word.length))
              have e8 : ((places text word).take i).length ≤ (places text word).length := by rw [List.length_take]; exact Nat.min_le_right _ _
              have e9 : ys'.toList.length = ys'.size := by simp
              rw [sizeLine_eq]; omega
            · (try dsimp only at hs14)
              refine wpAny_execs_nil (wpAny_execs_nil ⟨rfl, h14, _, rfl, ⟨_, _, n13.sameBut hs14 (Nat.ne_of_lt hLN), upd_ne (by decide) b2, upd_ne (by decide) b3, p14, ?_⟩, fun b o hb e => hs14.extBut b o (fun q => hb (q ▸ .tail _ (.head _))) (K13 b o hb e)⟩)
              rw [eN, addNew_f hin, Array.toList_push]
              exact b5.append (.cons k _ .nil)
        · intro h tk15 hJ hk15
          obtain ⟨m', ys', b1, b2, b3, b4, b5⟩ := hJ
          rw [List.take_length] at b5
          refine ⟨rfl, h, _, rfl, ⟨m', ys', b1, b2, b3, b4, b5⟩, fun b o hb e => hk15 b o hb (g11.keep b o e)⟩
      · obtain ⟨rfl, h', tk', rfl, hJ', hk'⟩ := hq
        refine wpAny_execs_nil ⟨rfl, h', _, rfl, ?_, fun b o hb e => hk' b o hb (hs10.extBut b o (fun q => hb (q ▸ .head _)) e)⟩
        obtain ⟨m', ys', b1, b2, b3, b4, b5⟩ := hJ'
        exact ⟨m', ys', b1, b2, b3, b4, by rw [take_snoc hp, nexts_snoc]; exact b5⟩
    · intro h9 tk9 hJ hk9
      obtain ⟨m, ys, a1, a2, a3, a4, a5⟩ := hJ
      rw [List.take_length] at a5
      have offL : ∀ b o, h6.get? b = some o → b ≠ L → h9.get? b = some o := fun b o e hb => hk9 b o (fun hm => by
        rcases List.mem_cons.mp hm with q | hm
        · exact hb q
        · exact Nat.ne_of_lt (Nat.lt_of_lt_of_le (Heap.lt_size e) sNM) (List.mem_singleton.mp hm)) (hs8.extBut b o hb (g7.keep b o e))
      have F9 : Fr s.heap L h9 m := ⟨a1, fun b o e => offL b o (F6.keep b o e) (Nat.ne_of_lt (Nat.lt_of_lt_of_le (Heap.lt_size e) F6.above)), F6.above⟩
      have Y9 : Cl L _ h9 _ := ⟨fun n c e => by
        obtain ⟨o, ho, hd⟩ := Y6.cell n c e
        exact ⟨o, offL c o ho (Nat.ne_of_gt (Y6.above n c (mem_of_lookup e))), hd⟩, Y6.apart, Y6.above⟩
      have lD9 : h9.PlainList D dys := lD6.at fun o e => offL D o e (Nat.ne_of_gt hLD)
      have rD9 : RAll h5.objs.size h9 dys.toList (dueHead text word) := rD6.mono (Nat.le_refl _) fun b o hb e => offL b o e (Nat.ne_of_gt (Nat.lt_of_lt_of_le F5.ns.lt hb))
      have G9 := Grow.of_fr F9
      obtain ⟨dd, hdd, er⟩ := due_split hr
      refine wpAny_execs_cons (wpAny_Return_some (wpAny_BinOp (ldLoc F9 a3 ?_)))
      refine' comp_rule (α := Nm) (fun _ => true) (fun k => R.two (.n k) (dd k)) ?hclos (by decide) rfl (by decide) rfl ?_ (by intro _; rfl)
      case hclos => with_unfolding_all rfl
      refine ldLoc F9 a2 ?_
      have eys : ys.size = (nexts text word.length (places text word)).length := by rw [← a5.length]; simp
      have hnl := nexts_len text word.length (places text word)
      have hpl := places_len text word
      refine comp_src_list (nexts text word.length (places text word)) (fun x v => ∃ t, v = .str x.str t) hh a4.isList eys (fun i v q => ?_) (by rw [sizeLine_eq]; omega) ?_ ?_ ?_
      · obtain ⟨x, t, q1, q2⟩ := a5.get (by simpa using q)
        exact ⟨x, q1, t, q2⟩
      · intro C a v s₃ m₃ E' ha hv hn hm hk
        exact wpAny_tests_nil ⟨rfl, _, _, rfl, fun _ _ q => q⟩
      · intro C k v s₃ m₃ E' hk' hv' _ hn hm hg
        obtain ⟨t, rfl⟩ := hv'
        (try dsimp only at hg)
        have ct : s₃.heap.IsCell (L + 1) (some (.ref ta)) := hg.cell (Y9.cell (PySem.Str.ofString "text") (L + 1) rfl)
        have cw : s₃.heap.IsCell (L + 2) (some (.ref wa)) := hg.cell (Y9.cell (PySem.Str.ofString "word") (L + 2) rfl)
        have Gs := G0.grow (G9.trans hg)
        refine eval_list2 (ldVarK hn hm (call2_own (fun Q' q => nm_own Gs rfl q rfl rfl rfl rfl) Gs.X rfl (ldCellK rfl ct (wpAny_BinOp (ldCellK rfl cw (eval_list1 (ldVarK hn hm ?_)))))))
        intro a1' h11 s11 z11 g11 l11
        have hT := G9.trans hg
        refine add_plain (g11.list (hT.list hw)) l11 (by rw [ews, sizeLine_eq]; simp only [List.size_toArray, List.length_cons, List.length_nil]; omega) ?_
        intro w2 h12 s12 z12 g12 l12
        (try dsimp only at g12); (try dsimp only at s12)
        have g112 := g11.trans g12
        refine ⟨(Gs.grow g112).X, ?_⟩
        have hlt : word.length < text.length := by
          rcases mem_nexts hk' with q | q
          · cases q
          · exact q
        refine ih (Gs.grow g112) hh (by show A.depth + 1 + f + 1 < _; omega) (by show A.units + 3 + 3 * f + 80 < _; omega) (g112.list (hT.list ht)) hv hsz l12 (word := word ++ [k]) ?_ ?_ (hdd k hk') ?_
        · rw [Array.toList_append]; exact hvw.append (.cons k t .nil)
        · rw [List.length_append]; simp only [List.length_cons, List.length_nil]; omega
        · intro v' h13 tk13 g13 r13
          (try dsimp only at g13); (try dsimp only at r13)
          intro l14 h14 s14 z14 g14 p14
          (try dsimp only at g14); (try dsimp only at s14)
          have gA := g112.trans (g13.trans g14)
          refine ⟨⟨_, _, rfl, gA.keep⟩, ?_⟩
          have q1 := g112.size
          have q2 := g13.size
          refine RIn.list (rs := [.n k, dd k]) (by omega) p14 (.cons (.n k _) (.cons ((g14.rin r13).mono q1 fun _ _ _ e => e) .nil))
      · intro D10 h10 tk10 ys10 s10 p10 r10 g10 z10
        (try dsimp only at s10); (try dsimp only at g10); (try dsimp only at r10)
        have ef : (nexts text word.length (places text word)).filter (fun _ : Nm => true) = nexts text word.length (places text word) := List.filter_eq_self.mpr fun _ _ => rfl
        rw [ef] at r10
        have e10 : ys10.size = (nexts text word.length (places text word)).length := by
          have := r10.length
          rw [List.length_map] at this
          rw [← this]; simp
        have edy : dys.size ≤ 1 := by
          have h1 := rD9.length
          have h2 : (dueHead text word).length ≤ 1 := by cases word <;> simp [dueHead]
          have h3 : dys.toList.length = dys.size := by simp
          omega
        refine add_plain (g10.list lD9) p10 (by rw [sizeLine_eq]; omega) ?_
        intro l11 h11 s11 z11 g11 p11
        (try dsimp only at g11); (try dsimp only at s11)
        have gA := G9.trans (g10.trans g11)
        refine h _ _ _ gA ?_
        have q1 := G9.size
        have q2 := g10.size
        have q5 := G5.size
        rw [er]
        refine RIn.list (by omega) p11 ?_
        rw [Array.toList_append]
        exact ((g10.trans g11).rall (rD9.mono q5 fun _ _ _ e => e)).append ((g11.rall r10).mono q1 fun _ _ _ e => e)
end
end Nest
namespace Nest

def Ix.nat : Ix → Nat
  | .one => 1
  | .o p => 2 * p.nat
  | .i p => 2 * p.nat + 1
theorem Ix.nat_succ : ∀ p : Ix, p.succ.nat = p.nat + 1
  | .one => rfl
  | .o p => rfl
  | .i p => by show 2 * p.succ.nat = _; rw [Ix.nat_succ p]; show _ = 2 * p.nat + 1 + 1; omega
theorem BT.get_set_self : ∀ (t : BT) (i : Ix) (y : GO), (t.set i y).get i = some y
  | .nil, .one, _ => rfl
  | .nil, .o p, y => BT.get_set_self .nil p y
  | .nil, .i p, y => BT.get_set_self .nil p y
  | .node _ _ _, .one, _ => rfl
  | .node _ l _, .o p, y => BT.get_set_self l p y
  | .node _ _ r, .i p, y => BT.get_set_self r p y
theorem BT.get_nil : ∀ i : Ix, BT.get .nil i = none
  | .one => rfl
  | .o _ => rfl
  | .i _ => rfl
theorem BT.get_set_ne : ∀ (t : BT) (i j : Ix) (y : GO), j ≠ i → (t.set i y).get j = t.get j
  | .nil, .one, j, y, h => by cases j with
    | one => exact absurd rfl h
    | o q => exact BT.get_nil q
    | i q => exact BT.get_nil q
  | .nil, .o p, j, y, h => by cases j with
    | one => rfl
    | o q => exact (BT.get_set_ne .nil p q y fun e => h (e ▸ rfl)).trans (BT.get_nil q)
    | i q => exact BT.get_nil q
  | .nil, .i p, j, y, h => by cases j with
    | one => rfl
    | o q => exact BT.get_nil q
    | i q => exact (BT.get_set_ne .nil p q y fun e => h (e ▸ rfl)).trans (BT.get_nil q)
  | .node x l r, .one, j, y, h => by cases j with
    | one => exact absurd rfl h
    | o q => rfl
    | i q => rfl
  | .node x l r, .o p, j, y, h => by cases j with
    | one => rfl
    | o q => exact BT.get_set_ne l p q y fun e => h (e ▸ rfl)
    | i q => rfl
  | .node x l r, .i p, j, y, h => by cases j with
    | one => rfl
    | o q => rfl
    | i q => exact BT.get_set_ne r p q y fun e => h (e ▸ rfl)
theorem GH.get_set_self (G : GH) (i : Ix) (y : GO) : (G.set i y).get i = some y := BT.get_set_self _ _ _
theorem GH.get_set_ne (G : GH) {i j : Ix} (y : GO) (h : j ≠ i) : (G.set i y).get j = G.get j := BT.get_set_ne _ _ _ _ h
theorem GH.get_new_self (G : GH) (y : GO) : (G.new y).get G.n = some y := BT.get_set_self _ _ _
theorem GH.get_new_ne (G : GH) {j : Ix} (y : GO) (h : j ≠ G.n) : (G.new y).get j = G.get j := BT.get_set_ne _ _ _ _ h
theorem few_iff {α : Type} : ∀ (n : Nat) (l : List α), few n l = true → l.length < n
  | 0, _, h => by cases h
  | n + 1, [], _ => Nat.succ_pos n
  | n + 1, _ :: r, h => by rw [few] at h; have := few_iff n r h; rw [List.length_cons]; omega

def GVIs (G : GH) (ρ : Ix → Addr) : GV → Value → Prop
  | .ref i, v => v = .ref (ρ i) ∧ (G.get i).isSome = true
  | .int n, v => ∃ t, v = .int (n : Int) t
inductive EsAre (G : GH) (ρ : Ix → Addr) : List (Nm × GV) → List (Str × Value) → Prop
  | nil : EsAre G ρ [] []
  | cons {k : Nm} {g : GV} {v : Value} {es : List (Nm × GV)} {kvs : List (Str × Value)} : GVIs G ρ g v → EsAre G ρ es kvs → EsAre G ρ ((k, g) :: es) ((k.str, v) :: kvs)
inductive XsAre (G : GH) (ρ : Ix → Addr) : List GV → List Value → Prop
  | nil : XsAre G ρ [] []
  | cons {g : GV} {v : Value} {xs : List GV} {vs : List Value} : GVIs G ρ g v → XsAre G ρ xs vs → XsAre G ρ (g :: xs) (v :: vs)
def Ext (G : GH) (ρ : Ix → Addr) (G' : GH) (ρ' : Ix → Addr) : Prop := ∀ i, (G.get i).isSome = true → (G'.get i).isSome = true ∧ ρ' i = ρ i
section
variable {G G' : GH} {ρ ρ' : Ix → Addr}
theorem GVIs.ext (x : Ext G ρ G' ρ') : ∀ {g : GV} {v : Value}, GVIs G ρ g v → GVIs G' ρ' g v
  | .ref i, _, ⟨e, h⟩ => ⟨by rw [(x i h).2]; exact e, (x i h).1⟩
  | .int _, _, h => h
theorem EsAre.ext (x : Ext G ρ G' ρ') : ∀ {es : List (Nm × GV)} {kvs : List (Str × Value)}, EsAre G ρ es kvs → EsAre G' ρ' es kvs
  | _, _, .nil => .nil
  | _, _, .cons h r => .cons (h.ext x) (r.ext x)
theorem XsAre.ext (x : Ext G ρ G' ρ') : ∀ {es : List GV} {kvs : List Value}, XsAre G ρ es kvs → XsAre G' ρ' es kvs
  | _, _, .nil => .nil
  | _, _, .cons h r => .cons (h.ext x) (r.ext x)
theorem EsAre.length : ∀ {es : List (Nm × GV)} {kvs : List (Str × Value)}, EsAre G ρ es kvs → kvs.length = es.length
  | _, _, .nil => rfl
  | _, _, .cons _ r => by rw [List.length_cons, List.length_cons, r.length]
theorem XsAre.length : ∀ {es : List GV} {kvs : List Value}, XsAre G ρ es kvs → kvs.length = es.length
  | _, _, .nil => rfl
  | _, _, .cons _ r => by rw [List.length_cons, List.length_cons, r.length]
theorem EsAre.append : ∀ {es fs : List (Nm × GV)} {kvs lvs : List (Str × Value)}, EsAre G ρ es kvs → EsAre G ρ fs lvs → EsAre G ρ (es ++ fs) (kvs ++ lvs)
  | _, _, _, _, .nil, h => h
  | _, _, _, _, .cons h r, h' => .cons h (r.append h')
theorem XsAre.append : ∀ {es fs : List GV} {kvs lvs : List Value}, XsAre G ρ es kvs → XsAre G ρ fs lvs → XsAre G ρ (es ++ fs) (kvs ++ lvs)
  | _, _, _, _, .nil, h => h
  | _, _, _, _, .cons h r, h' => .cons h (r.append h')
theorem EsAre.get : ∀ {es : List (Nm × GV)} {kvs : List (Str × Value)} {i : Nat} {k : Str} {v : Value}, EsAre G ρ es kvs → kvs[i]? = some (k, v) → ∃ p, es[i]? = some p ∧ p.1.str = k ∧ GVIs G ρ p.2 v
  | _, _, _, _, _, .nil, e => by simp at e
  | _, _, 0, _, _, .cons (k := k) (g := g) h _, e => by simp at e; exact ⟨(k, g), rfl, e.1, e.2 ▸ h⟩
  | _, _, _ + 1, _, _, .cons _ r, e => r.get (by simpa using e)
theorem XsAre.get : ∀ {es : List GV} {kvs : List Value} {i : Nat} {v : Value}, XsAre G ρ es kvs → kvs[i]? = some v → ∃ p, es[i]? = some p ∧ GVIs G ρ p v
  | _, _, _, _, .nil, e => by simp at e
  | _, _, 0, _, .cons (g := g) h _, e => by simp at e; exact ⟨g, rfl, e ▸ h⟩
  | _, _, _ + 1, _, .cons _ r, e => r.get (by simpa using e)
theorem XsAre.lastOf : ∀ {xs : List GV} {vs : List Value}, XsAre G ρ xs vs → ∀ g, lastOf xs = some g → ∃ v, vs.getLast? = some v ∧ GVIs G ρ g v
  | _, _, .nil, _, e => by cases e
  | _, _, .cons h .nil, _, e => by cases e; exact ⟨_, rfl, h⟩
  | _, _, .cons _ (.cons h r), g, e => by
    rw [Nest.lastOf] at e
    obtain ⟨v, e1, e2⟩ := (XsAre.cons h r).lastOf g e
    exact ⟨v, by rw [List.getLast?_cons_cons]; exact e1, e2⟩
theorem EsAre.valueAt : ∀ {es : List (Nm × GV)} {kvs : List (Str × Value)} (k : Nm), EsAre G ρ es kvs →
    (look k es = none ∧ PySem.valueAt kvs k.str = none) ∨ ∃ g v, look k es = some g ∧ PySem.valueAt kvs k.str = some v ∧ GVIs G ρ g v
  | _, _, k, .nil => .inl ⟨rfl, rfl⟩
  | _, _, k, .cons (k := x) (g := g) (v := v) h r => by
    cases hx : x.eq k with
    | true =>
      have := Nm.eq_iff.mp hx
      subst this
      exact .inr ⟨g, v, by rw [look, hx], by simp [PySem.valueAt], h⟩
    | false =>
      have hne : ¬ x.str = k.str := fun e => by rw [Nm.eq_iff.mpr (Nm.str_inj e)] at hx; cases hx
      rcases r.valueAt k with ⟨e1, e2⟩ | ⟨g', v', e1, e2, e3⟩
      · exact .inl ⟨by rw [look, hx]; exact e1, by rw [← e2]; simp [PySem.valueAt, hne]⟩
      · exact .inr ⟨g', v', by rw [look, hx]; exact e1, by rw [← e2]; simp [PySem.valueAt, hne], e3⟩
theorem valueAt_none {kvs : List (Str × Value)} {k : Str} (h : PySem.valueAt kvs k = none) (v : Value) : stored kvs k v = kvs ++ [(k, v)] := by
  unfold stored
  rw [if_neg]
  intro ha
  rw [List.any_eq_true] at ha
  obtain ⟨p, hp, he⟩ := ha
  unfold PySem.valueAt at h
  rw [Option.map_eq_none_iff, List.find?_eq_none] at h
  exact h p hp he
end

def OIn (prog : Program) (w : World) (h : Heap) (G : GH) (ρ : Ix → Addr) (a : Addr) : GO → Prop
  | .dict es => ∃ kvs, h.DictOf (strKind prog w) a kvs ∧ EsAre G ρ es kvs ∧ es.length ≤ 8
  | .list xs => ∃ vs, h.PlainList a vs ∧ XsAre G ρ xs vs.toList ∧ xs.length ≤ 64
/-- the nest lies in the heap -/
structure NestIn (prog : Program) (w : World) (h : Heap) (G : GH) (ρ : Ix → Addr) : Prop where
  obj : ∀ i o, G.get i = some o → OIn prog w h G ρ (ρ i) o
  inj : ∀ i j, (G.get i).isSome = true → (G.get j).isSome = true → ρ i = ρ j → i = j
  fresh : ∀ i, (G.get i).isSome = true → i.nat < G.n.nat
  lo : ∀ i, (G.get i).isSome = true → 3 < ρ i
/-- a nest's address -/
def NA (G : GH) (ρ : Ix → Addr) (b : Addr) : Prop := ∃ i, (G.get i).isSome = true ∧ ρ i = b
/-- what a call may have done -/
structure Step (h : Heap) (G : GH) (ρ : Ix → Addr) (h' : Heap) (G' : GH) (ρ' : Ix → Addr) : Prop where
  ext : Ext G ρ G' ρ'
  fresh : ∀ i, (G'.get i).isSome = true → (G.get i).isSome = true ∨ h.objs.size ≤ ρ' i
  keep : ∀ b o, ¬ NA G ρ b → h.get? b = some o → h'.get? b = some o
  size : h.objs.size ≤ h'.objs.size
section
variable {prog : Program} {w : World} {h h' h'' : Heap} {G G' G'' : GH} {ρ ρ' ρ'' : Ix → Addr}
theorem OIn.lt : ∀ {a : Addr} {o : GO}, OIn prog w h G ρ a o → a < h.objs.size
  | _, .dict _, ⟨_, ⟨_, _, _, e, _⟩, _⟩ => Heap.lt_size e
  | _, .list _, ⟨_, ⟨_, e⟩, _⟩ => Heap.lt_size e
theorem OIn.at : ∀ {a : Addr} {o : GO}, OIn prog w h G ρ a o → (∀ x, h.get? a = some x → h'.get? a = some x) → Ext G ρ G' ρ' → OIn prog w h' G' ρ' a o
  | _, .dict _, ⟨kvs, ⟨o, es, ep, e, r⟩, y⟩, k, x => ⟨kvs, ⟨o, es, ep, k _ e, r⟩, y.1.ext x, y.2⟩
  | _, .list _, ⟨vs, p, y⟩, k, x => ⟨vs, p.at k, y.1.ext x, y.2⟩
theorem Ext.refl : Ext G ρ G ρ := fun _ h => ⟨h, rfl⟩
theorem Ext.trans (x : Ext G ρ G' ρ') (y : Ext G' ρ' G'' ρ'') : Ext G ρ G'' ρ'' := fun i hi => ⟨(y i (x i hi).1).1, (y i (x i hi).1).2.trans (x i hi).2⟩
theorem NestIn.ltOf (N : NestIn prog w h G ρ) {i : Ix} (hi : (G.get i).isSome = true) : ρ i < h.objs.size := by
  obtain ⟨o, e⟩ := Option.isSome_iff_exists.mp hi
  exact (N.obj i o e).lt
theorem NestIn.at (N : NestIn prog w h G ρ) (k : ∀ b, NA G ρ b → ∀ x, h.get? b = some x → h'.get? b = some x) : NestIn prog w h' G ρ :=
  ⟨fun i o e => (N.obj i o e).at (k _ ⟨i, by rw [e]; rfl, rfl⟩) Ext.refl, N.inj, N.fresh, N.lo⟩
theorem NestIn.keeps (N : NestIn prog w h G ρ) (k : ∀ b o, h.get? b = some o → h'.get? b = some o) : NestIn prog w h' G ρ := N.at fun b _ x e => k b x e
theorem NestIn.grow (N : NestIn prog w h G ρ) (k : Grow h h') : NestIn prog w h' G ρ := N.keeps k.keep
theorem NestIn.sameBut (N : NestIn prog w h G ρ) {L : Addr} (k : Heap.SameBut L h h') (hL : ¬ NA G ρ L) : NestIn prog w h' G ρ :=
  N.at fun b hb x e => k.extBut b x (fun q => hL (q ▸ hb)) e
theorem NA.lt (N : NestIn prog w h G ρ) {b : Addr} (x : NA G ρ b) : b < h.objs.size := by
  obtain ⟨i, hi, rfl⟩ := x; exact N.ltOf hi
theorem Step.refl : Step h G ρ h G ρ := ⟨Ext.refl, fun _ h => .inl h, fun _ _ _ e => e, Nat.le_refl _⟩
theorem Step.ofGrow (g : Grow h h') : Step h G ρ h' G ρ := ⟨Ext.refl, fun _ h => .inl h, fun b o _ e => g.keep b o e, g.size⟩
theorem Step.na (x : Step h G ρ h' G' ρ') {b : Addr} (hb : b < h.objs.size) (hn : ¬ NA G ρ b) : ¬ NA G' ρ' b := by
  rintro ⟨i, hi, rfl⟩
  rcases x.fresh i hi with q | q
  · exact hn ⟨i, q, ((x.ext i q).2).symm⟩
  · exact Nat.lt_irrefl _ (Nat.lt_of_lt_of_le hb q)
theorem Step.trans (x : Step h G ρ h' G' ρ') (y : Step h' G' ρ' h'' G'' ρ'') : Step h G ρ h'' G'' ρ'' where
  ext := fun i hi => ⟨(y.ext i (x.ext i hi).1).1, ((y.ext i (x.ext i hi).1).2).trans (x.ext i hi).2⟩
  fresh := fun i hi => by
    rcases y.fresh i hi with q | q
    · rcases x.fresh i q with q' | q'
      · exact .inl q'
      · exact .inr (by rw [(y.ext i q).2]; exact q')
    · exact .inr (Nat.le_trans x.size q)
  keep := fun b o hb e => y.keep b o (x.na (Heap.lt_size e) hb) (x.keep b o hb e)
  size := Nat.le_trans x.size y.size
theorem Ix.eq_iff : ∀ {a b : Ix}, a.eq b = true ↔ a = b := by
  intro a
  induction a with
  | one => intro b; cases b <;> simp [Ix.eq]
  | o p ih => intro b; cases b <;> simp [Ix.eq, ih]
  | i p ih => intro b; cases b <;> simp [Ix.eq, ih]
/-- a new object -/
def put (ρ : Ix → Addr) (i : Ix) (a : Addr) : Ix → Addr := fun j => match j.eq i with | true => a | false => ρ j
theorem put_self (i : Ix) (a : Addr) : put ρ i a i = a := by unfold put; rw [Ix.eq_iff.mpr rfl]
theorem put_ne {i j : Ix} (a : Addr) (hne : j ≠ i) : put ρ i a j = ρ j := by
  unfold put
  cases hx : j.eq i with
  | true => exact absurd (Ix.eq_iff.mp hx) hne
  | false => rfl
theorem NestIn.n_none (N : NestIn prog w h G ρ) : ¬ (G.get G.n).isSome = true := fun e => Nat.lt_irrefl _ (N.fresh _ e)
theorem NestIn.ext_new (N : NestIn prog w h G ρ) (y : GO) (D : Addr) : Ext G ρ (G.new y) (put ρ G.n D) := fun i hi => by
  have hne : i ≠ G.n := fun e => N.n_none (e ▸ hi)
  exact ⟨by rw [G.get_new_ne y hne]; exact hi, put_ne D hne⟩
theorem NestIn.new (N : NestIn prog w h G ρ) (g : Grow h h') {D : Addr} (hD : h.objs.size ≤ D) (h3 : 3 < D) {y : GO} (hy : OIn prog w h' (G.new y) (put ρ G.n D) D y) :
    NestIn prog w h' (G.new y) (put ρ G.n D) where
  obj := fun i o e => by
    cases hx : i.eq G.n with
    | true =>
      have := Ix.eq_iff.mp hx
      subst this
      rw [G.get_new_self] at e
      cases e
      rw [put_self]; exact hy
    | false =>
      have hne : i ≠ G.n := fun e => by rw [Ix.eq_iff.mpr e] at hx; cases hx
      rw [G.get_new_ne y hne] at e
      rw [put_ne D hne]
      exact (N.obj i o e).at (g.keep _) (N.ext_new y D)
  inj := fun i j hi hj e => by
    have key : ∀ i, ((G.new y).get i).isSome = true → i = G.n ∨ (i ≠ G.n ∧ (G.get i).isSome = true ∧ put ρ G.n D i = ρ i) := fun i hi => by
      cases hx : i.eq G.n with
      | true => exact .inl (Ix.eq_iff.mp hx)
      | false =>
        have hne : i ≠ G.n := fun e => by rw [Ix.eq_iff.mpr e] at hx; cases hx
        rw [G.get_new_ne y hne] at hi
        exact .inr ⟨hne, hi, put_ne D hne⟩
    rcases key i hi with rfl | ⟨h1, h2, h3⟩
    · rcases key j hj with rfl | ⟨q1, q2, q3⟩
      · rfl
      · rw [put_self, q3] at e
        exact absurd (N.ltOf q2) (by rw [← e]; exact Nat.not_lt.mpr hD)
    · rcases key j hj with rfl | ⟨q1, q2, q3⟩
      · rw [put_self, h3] at e
        exact absurd (N.ltOf h2) (by rw [e]; exact Nat.not_lt.mpr hD)
      · rw [h3, q3] at e
        exact N.inj i j h2 q2 e
  fresh := fun i hi => by
    show i.nat < G.n.succ.nat
    rw [Ix.nat_succ]
    cases hx : i.eq G.n with
    | true => rw [Ix.eq_iff.mp hx]; exact Nat.lt_succ_self _
    | false =>
      have hne : i ≠ G.n := fun e => by rw [Ix.eq_iff.mpr e] at hx; cases hx
      rw [G.get_new_ne y hne] at hi
      exact Nat.lt_succ_of_lt (N.fresh i hi)
  lo := fun i hi => by
    cases hx : i.eq G.n with
    | true => rw [Ix.eq_iff.mp hx, put_self]; exact h3
    | false =>
      have hne : i ≠ G.n := fun e => by rw [Ix.eq_iff.mpr e] at hx; cases hx
      rw [G.get_new_ne y hne] at hi
      rw [put_ne D hne]
      exact N.lo i hi
theorem NestIn.step_new (N : NestIn prog w h G ρ) (g : Grow h h') {D : Addr} (hD : h.objs.size ≤ D) (y : GO) : Step h G ρ h' (G.new y) (put ρ G.n D) where
  ext := N.ext_new y D
  fresh := fun i hi => by
    cases hx : i.eq G.n with
    | true => rw [Ix.eq_iff.mp hx, put_self]; exact .inr hD
    | false =>
      have hne : i ≠ G.n := fun e => by rw [Ix.eq_iff.mpr e] at hx; cases hx
      rw [G.get_new_ne y hne] at hi
      exact .inl hi
  keep := fun b o _ e => g.keep b o e
  size := g.size
theorem GH.some_set (G : GH) {i : Ix} (y : GO) (hi : (G.get i).isSome = true) (j : Ix) : ((G.set i y).get j).isSome = (G.get j).isSome := by
  cases hx : j.eq i with
  | true => rw [Ix.eq_iff.mp hx, G.get_set_self, hi]; rfl
  | false =>
    have hne : j ≠ i := fun e => by rw [Ix.eq_iff.mpr e] at hx; cases hx
    rw [G.get_set_ne y hne]
theorem Ext.set {i : Ix} (y : GO) (hi : (G.get i).isSome = true) : Ext G ρ (G.set i y) ρ := fun j hj => ⟨by rw [G.some_set y hi]; exact hj, rfl⟩
theorem NestIn.set (N : NestIn prog w h G ρ) {i : Ix} (hi : (G.get i).isSome = true) (hs : Heap.SameBut (ρ i) h h') {y : GO} (hy : OIn prog w h' (G.set i y) ρ (ρ i) y) : NestIn prog w h' (G.set i y) ρ where
  obj := fun j o e => by
    cases hx : j.eq i with
    | true =>
      have := Ix.eq_iff.mp hx
      subst this
      rw [G.get_set_self] at e
      cases e
      exact hy
    | false =>
      have hne : j ≠ i := fun e => by rw [Ix.eq_iff.mpr e] at hx; cases hx
      rw [G.get_set_ne y hne] at e
      have hj : (G.get j).isSome = true := by rw [e]; rfl
      exact (N.obj j o e).at (fun x q => hs.extBut _ _ (fun q => hne (N.inj j i hj hi q)) q) (Ext.set y hi)
  inj := fun a b ha hb => by rw [G.some_set y hi] at ha hb; exact N.inj a b ha hb
  fresh := fun a ha => by rw [G.some_set y hi] at ha; exact N.fresh a ha
  lo := fun a ha => by rw [G.some_set y hi] at ha; exact N.lo a ha
theorem NestIn.step_set {i : Ix} (hi : (G.get i).isSome = true) (hs : Heap.SameBut (ρ i) h h') (y : GO) : Step h G ρ h' (G.set i y) ρ where
  ext := Ext.set y hi
  fresh := fun a ha => by rw [G.some_set y hi] at ha; exact .inl ha
  keep := fun b o hb e => hs.extBut b o (fun q => hb ⟨i, hi, q.symm⟩) e
  size := Nat.le_of_eq hs.1.symm
theorem NestIn.sys (N : NestIn prog w h G ρ) {i : Ix} (hi : (G.get i).isSome = true) : (ρ i == sysModules) = false := by
  have := N.lo i hi
  rw [beq_eq_false_iff_ne]
  intro e
  rw [e] at this
  exact absurd this (by decide)
end
end Nest
namespace Nest
section
variable {prog : Program} {w : World} {A : Around} {E : Value → Shared → Prop} {s : Shared} {env : Env}
/-- a comprehension over a dict's names -/
theorem comp_src_dict {α : Type} {elt : Expr} {x : Str} {ifs : List Expr} {scope : Scope} {cl : List (Str × Addr)} {p : α → Bool} {d : α → R} {Q : Value → Shared → Prop} {ax : Addr} {kvs : List (Str × Value)}
    (as : List α) (is : α → Value → Prop) (hh : A.handled = none) (hl : s.heap.DictOf (strKind prog w) ax kvs) (lo : (ax == sysModules) = false) (hn : kvs.length = as.length)
    (hi : ∀ (i : Nat) (k : Str) (v : Value), kvs[i]? = some (k, v) → ∃ a, as[i]? = some a ∧ ∀ t, is a (.str k t)) (hsz : as.length ≤ sizeLine)
    (tests : ∀ C a v s₃ m₃ E', a ∈ as → is a v → s₃.heap.Ns C m₃ → m₃ x = some v → Grow s.heap s₃.heap →
      wpAny (model prog w) A (forIn ifs true fun c r => if r = true then do let ok ← isTrue c (compEnvC scope cl C env) (eval c (compEnvC scope cl C env)); pure (ForInStep.yield ok) else pure (ForInStep.yield r))
        (fun ok s₄ => ok = p a ∧ Keeps s₃ s₄) E' s₃)
    (elts : ∀ C a v s₃ m₃ E', a ∈ as → is a v → p a = true → s₃.heap.Ns C m₃ → m₃ x = some v → Grow s.heap s₃.heap →
      wpAny (model prog w) A (eval elt (compEnvC scope cl C env)) (fun y s₄ => Keeps s₃ s₄ ∧ RIn s₃.heap.objs.size s₄.heap y (d a)) E' s₃)
    (fin : ∀ D h' tk (ys : Array Value), s.heap.objs.size ≤ D → h'.PlainList D ys → RAll s.heap.objs.size h' ys.toList ((as.filter p).map d) → Grow s.heap h' → D < h'.objs.size → Q (.ref D) { s with heap := h', toks := tk }) :
    wpAny (model prog w) A (pyIter (.ref ax)) (fun it s₂ => CompSrc prog w A env elt x ifs scope cl p d Q it s₂) E s := by
  obtain ⟨ep, hat⟩ := hl.dictAt
  have hlt : ax < s.heap.objs.size := hat.lt_size
  have up : ∀ {H : Heap}, (∀ b o, b ∉ [s.heap.objs.size] → (s.heap.push { cls := .type "dict_keyiterator", data := .fields #[.ref ax, .int 0 0, .int kvs.length 0, .int ep 0] }).get? b = some o → H.get? b = some o) → ∀ b o, s.heap.get? b = some o → H.get? b = some o :=
    fun hk b o e => hk b o (fun hm => by rcases List.mem_cons.mp hm with rfl | hm; exact Nat.lt_irrefl _ (Heap.lt_size e); cases hm) (Heap.get?_push_of_some _ e)
  have W := Walks.dictKeys (prog := prog) (w := w) (knd := strKind prog w) hh s.heap.objs.size ax (Nat.ne_of_lt hlt) kvs ep
  have W' : Walks prog w A s.heap.objs.size [s.heap.objs.size, ax] [s.heap.objs.size] as.length (fun i v => ∃ a, as[i]? = some a ∧ is a v) (fun i h => h.IsKeyIter s.heap.objs.size ax i kvs.length ep ∧ h.DictAt (strKind prog w) ax kvs ep) := by
    rw [← hn]
    exact ⟨W.sub, W.frame, fun i s Q E h1 h2 h3 => W.item i s Q E h1 h2 fun v h' tk hv => h3 v h' tk (by
      obtain ⟨k, x, e, hk⟩ := hv
      obtain ⟨t, rfl⟩ := Value.isStrOf_shape hk
      obtain ⟨a, ha, hia⟩ := hi i k x e
      exact ⟨a, ha, hia t⟩), W.done, W.self⟩
  refine wpAny_pyIter_dict lo hat ⟨s.heap.objs.size, [s.heap.objs.size, ax], [s.heap.objs.size], _, as, is, rfl, W', hsz,
    ⟨⟨_, Heap.get?_push_size _ rfl, rfl, rfl⟩, hat.push _⟩, ?_, ?_, ?_, ?_⟩
  · intro b hb
    show b < (s.heap.push _).objs.size
    rw [Heap.size_push]
    rcases List.mem_cons.mp hb with rfl | hb
    · exact Nat.lt_succ_self _
    · rcases List.mem_cons.mp hb with rfl | hb
      · exact Nat.lt_succ_of_lt hlt
      · cases hb
  · intro C a v s₃ m₃ E' hC ha hv hns hm hk
    have hC' : s.heap.objs.size + 1 ≤ C := by rw [← Heap.size_push]; exact hC
    exact tests C a v s₃ m₃ E' ha hv hns hm ⟨Nat.le_of_lt (Nat.lt_of_lt_of_le (Nat.lt_of_succ_le hC') (Nat.le_of_lt hns.lt)), up hk⟩
  · intro C a v s₃ m₃ E' hC ha hv hp hns hm hk
    have hC' : s.heap.objs.size + 1 ≤ C := by rw [← Heap.size_push]; exact hC
    exact elts C a v s₃ m₃ E' ha hv hp hns hm ⟨Nat.le_of_lt (Nat.lt_of_lt_of_le (Nat.lt_of_succ_le hC') (Nat.le_of_lt hns.lt)), up hk⟩
  · intro D h' tk ys hD hpl hr hk hDs
    have hD' : s.heap.objs.size + 1 ≤ D := by rw [← Heap.size_push]; exact hD
    have hsz1 : s.heap.objs.size ≤ s.heap.objs.size + 1 := Nat.le_succ _
    refine fin D h' tk ys (Nat.le_of_succ_le hD') hpl (hr.mono ?_ fun _ _ _ e => e) ⟨Nat.le_of_lt (Nat.lt_trans (Nat.lt_of_succ_le hD') hDs), up hk⟩ hDs
    show s.heap.objs.size ≤ (s.heap.push _).objs.size
    rw [Heap.size_push]; exact hsz1
end
theorem pairO_some {k : Nm} {o : Option R} {r : R} (h : pairO k o = some r) : ∃ x, o = some x ∧ r = .two (.n k) x := by
  cases o with
  | none => cases h
  | some x => cases h; exact ⟨x, rfl, rfl⟩
theorem listO_some {o : Option R} {r : R} (h : listO o = some r) : ∃ x, o = some x ∧ r = .cons (.n .l) x := by
  cases o with
  | none => cases h
  | some x => cases h; exact ⟨x, rfl, rfl⟩
theorem flat_split {G : GH} {f : Nat} {g : GV} {r : R} (h : flat G (f + 1) g = some r) :
    (∃ k, g = .int k ∧ r = .i k) ∨
    (∃ j es, ∃ d : Nm × GV → R, g = .ref j ∧ G.get j = some (.dict es) ∧ (∀ p ∈ es, flat G f p.2 = some (d p)) ∧ r = R.ofList (es.map fun p => R.two (.n p.1) (d p))) ∨
    (∃ j xs, ∃ d : GV → R, g = .ref j ∧ G.get j = some (.list xs) ∧ (∀ p ∈ xs, flat G f p = some (d p)) ∧ r = R.ofList (.n .l :: xs.map d)) := by
  cases g with
  | int k => rw [flat] at h; cases h; exact .inl ⟨k, rfl, rfl⟩
  | ref j =>
    rw [flat] at h
    cases hg : G.get j with
    | none => rw [hg] at h; cases h
    | some o =>
      rw [hg] at h
      cases o with
      | dict es =>
        refine .inr (.inl ?_)
        obtain ⟨e, hk⟩ := mapO_some (d := fun p => R.two (.n p.1) ((flat G f p.2).getD .nil)) h (fun p _ y hy => by
          obtain ⟨x, e1, e2⟩ := pairO_some hy
          rw [e1, e2]; rfl)
        refine ⟨j, es, fun p => (flat G f p.2).getD .nil, rfl, hg, fun p hp => ?_, e⟩
        obtain ⟨x, e1, e2⟩ := pairO_some (hk p hp)
        show _ = some ((flat G f p.2).getD .nil)
        rw [e1]; rfl
      | list xs =>
        refine .inr (.inr ?_)
        obtain ⟨x, e1, e2⟩ := listO_some h
        obtain ⟨e, hk⟩ := mapO_some (d := fun p => (flat G f p).getD .nil) e1 (fun p _ y hy => by rw [hy]; rfl)
        refine ⟨j, xs, fun p => (flat G f p).getD .nil, rfl, hg, hk, ?_⟩
        rw [e2, e]; rfl
section
variable {prog : Program} {w : World} {mg mb : Str → Option Value}
theorem lt_dict {h : Heap} {kvs : List (Str × Value)} {a : Addr} (x : h.DictOf (strKind prog w) a kvs) : ∃ o, h.get? a = some o ∧ o.cls = .type "dict" := by
  obtain ⟨o, es, ep, ho, hc, _⟩ := x
  exact ⟨o, ho, hc.1⟩
theorem boot_isinstance : bootBuiltins (PySem.Str.ofString "isinstance") = some (.builtin "isinstance") := by decide +kernel
theorem boot_dict : bootBuiltins (PySem.Str.ofString "dict") = some (.type "dict") := by decide +kernel
theorem boot_list : bootBuiltins (PySem.Str.ofString "list") = some (.type "list") := by decide +kernel

set_option maxRecDepth 100000 in
set_option maxHeartbeats 2000000 in
theorem flat_spec {G : GH} {ρ : Ix → Addr} : ∀ (f : Nat) {A : Around} {s : Shared} {E : Value → Shared → Prop} {Q : Value → Shared → Prop} {g : GV} {v : Value} {r : R}
    (_G0 : Gl w mg mb s.heap) (_hh : A.handled = none) (_hroom : A.depth + f + 1 < recursionLimit) (_hu : A.units + 3 * f + 80 < cLine)
    (_N : NestIn prog w s.heap G ρ) (_hv : GVIs G ρ g v) (_hr : flat G f g = some r)
    (_h : ∀ v h' tk', Grow s.heap h' → RIn s.heap.objs.size h' v r → Q v { s with heap := h', toks := tk' }),
    wpAny (model prog w) A (call (.ref 62) [v]) Q E s := by
  intro f
  induction f with
  | zero => intro A s E Q g v r _ _ _ _ _ _ hr; cases hr
  | succ f ih =>
  intro A s E Q g v r G0 hh hroom hu N hv hr h
  refine wpAny_call ?_
  refine' enterC G0.X G0.lim ?k1 ?k2 (by omega) ?k3 ?k4 ?_ ?c1 ?c2 ?c3
  case k1 => exact rfl
  case k2 => exact rfl
  case k3 => exact BindsTo.of_eq rfl
  case k4 => exact rfl
  case c1 => exact rfl
  case c2 => exact rfl
  case c3 => exact rfl
  intro L h₁ tk F Y G' hL
  have G1 := G0.grow G'
  have N1 := N.grow G'
  refine wpAny_execs_cons (wpAny_If (wpAny_isTrue_value (call2_builtin (fun Q' q => nm_bi G1 rfl boot_isinstance q rfl rfl rfl rfl rfl (by decide)) (ldC Y rfl rfl (nm_bi G1 rfl boot_dict ?_ rfl rfl rfl rfl rfl (by decide))))))
  rcases flat_split hr with ⟨k, rfl, rfl⟩ | ⟨j, es, d, rfl, hg, hd, rfl⟩ | ⟨j, xs, d, rfl, hg, hd, rfl⟩
  · obtain ⟨t, rfl⟩ := hv
    refine IsiPair.int_dict (wpAny_truthy_bool (ite_B (by intro e; cases e) fun _ => wpAny_execs_nil ?_))
    refine wpAny_execs_cons (wpAny_If (wpAny_isTrue_value (call2_builtin (fun Q' q => nm_bi G1 rfl boot_isinstance q rfl rfl rfl rfl rfl (by decide)) (ldC Y rfl rfl (nm_bi G1 rfl boot_list ?_ rfl rfl rfl rfl rfl (by decide))))))
    refine IsiPair.int_list (wpAny_truthy_bool (ite_B (by intro e; cases e) fun _ => wpAny_execs_nil ?_))
    refine wpAny_execs_cons (wpAny_Return_some (ldC Y rfl rfl ?_))
    exact h _ _ _ G' (.i k t)
  · obtain ⟨rfl, hsome⟩ := hv
    obtain ⟨kvs, D1, E1, l1⟩ := N1.obj j _ hg
    obtain ⟨o, ho, hc⟩ := lt_dict D1
    refine IsiPair.dict_dict ho hc (wpAny_truthy_bool (ite_B (fun _ => ?_) (by intro e; cases e)))
    refine wpAny_execs_cons (wpAny_Return_some ?_)
    refine' comp_rule (α := Nm × GV) (fun _ => true) (fun p => R.two (.n p.1) (d p)) ?hclos (by decide) rfl (by decide) rfl ?_ (by intro _; rfl)
    case hclos => with_unfolding_all rfl
    refine ldC Y rfl rfl ?_
    refine comp_src_dict es (fun p v => ∃ t x, v = .str p.1.str t ∧ valueAt kvs p.1.str = some x ∧ GVIs G ρ p.2 x) hh D1 (N1.sys hsome) E1.length (fun i k v q => ?_) (by rw [sizeLine_eq]; omega) ?_ ?_ ?_
    · obtain ⟨p, e1, rfl, e3⟩ := E1.get q
      obtain ⟨ep, D2⟩ := D1.dictAt
      exact ⟨p, e1, fun t => ⟨t, v, rfl, valueAt_of_get D2.nodup q, e3⟩⟩
    · intro C a v s₃ m₃ E' ha hv hn hm hk
      exact wpAny_tests_nil ⟨rfl, _, _, rfl, fun _ _ q => q⟩
    · rintro C ⟨k, g⟩ v s₃ m₃ E' hk' hv' _ hn hm hgr
      obtain ⟨t, x, rfl, hx, hgx⟩ := hv'
      dsimp only at hgr hm hx hgx
      have cp : s₃.heap.IsCell (L + 1) (some (.ref (ρ j))) := hgr.cell (Y.cell (PySem.Str.ofString "part") (L + 1) rfl)
      have Gs := G1.grow hgr
      have D3 := D1.keep hgr.keep
      refine eval_list2 (ldVarK hn hm (call1_own (fun Q' q => nm_own Gs rfl q rfl rfl rfl rfl) Gs.X rfl (wpAny_Subscript_Name_late (ldCellK rfl cp (ldVarK hn hm ⟨"dict", _, slot_dict_getitem.lookup, D3.typeIs, wpAny_getItem_of (strKind_is _ _ _ _) D3.mapOf hx ⟨Gs.X, ?_⟩⟩)))))
      refine ih Gs hh (by show A.depth + 1 + f + 1 < _; omega) (by show A.units + 3 + 3 * f + 80 < _; omega) (N1.grow hgr) hgx (hd _ hk') ?_
      intro v' h5 tk5 g5 r5
      (try dsimp only at g5); (try dsimp only at r5)
      intro l6 h6 s6 z6 g6 p6
      (try dsimp only at g6); (try dsimp only at s6)
      have q1 := g5.size
      exact ⟨⟨_, _, rfl, (g5.trans g6).keep⟩, RIn.list (rs := [.n k, d (k, g)]) (by omega) p6 (.cons (.n k _) (.cons (g6.rin r5) .nil))⟩
    · intro D5 h5 tk5 ys5 s5 p5 r5 g5 z5
      (try dsimp only at s5); (try dsimp only at g5); (try dsimp only at r5)
      have ef : es.filter (fun _ : Nm × GV => true) = es := List.filter_eq_self.mpr fun _ _ => rfl
      rw [ef] at r5
      have q1 := G'.size
      exact h _ _ _ (G'.trans g5) (RIn.list (by omega) p5 (r5.mono q1 fun _ _ _ e => e))
  · obtain ⟨rfl, hsome⟩ := hv
    obtain ⟨vs, D1, E1, l1⟩ := N1.obj j _ hg
    obtain ⟨n, ho⟩ := D1
    refine IsiPair.list_dict ho rfl (wpAny_truthy_bool (ite_B (by intro e; cases e) fun _ => wpAny_execs_nil ?_))
    refine wpAny_execs_cons (wpAny_If (wpAny_isTrue_value (call2_builtin (fun Q' q => nm_bi G1 rfl boot_isinstance q rfl rfl rfl rfl rfl (by decide)) (ldC Y rfl rfl (nm_bi G1 rfl boot_list ?_ rfl rfl rfl rfl rfl (by decide))))))
    refine IsiPair.list_list ho rfl (wpAny_truthy_bool (ite_B (fun _ => ?_) (by intro e; cases e)))
    have D1 : h₁.PlainList (ρ j) vs := ⟨n, ho⟩
    refine wpAny_execs_cons (wpAny_Return_some (wpAny_BinOp (eval_list1 (Calls.Constant_str ?_))))
    intro l7 h7 s7 z7 g7 p7
    (try dsimp only at g7); (try dsimp only at s7)
    have Y7 := Y.keeps g7.keep
    have D7 := g7.list D1
    refine' comp_rule (α := GV) (fun _ => true) d ?hclos (by decide) rfl (by decide) rfl ?_ (by intro _; rfl)
    case hclos => with_unfolding_all rfl
    refine ldC Y7 rfl rfl ?_
    have evs : vs.size = xs.length := by rw [← E1.length]; simp
    refine comp_src_list xs (fun p v => p ∈ xs ∧ GVIs G ρ p v) hh D7.isList evs (fun i v q => ?_) (by rw [sizeLine_eq]; omega) ?_ ?_ ?_
    · obtain ⟨p, e1, e2⟩ := E1.get (by simpa using q)
      exact ⟨p, e1, List.mem_of_getElem? e1, e2⟩
    · intro C a v s₃ m₃ E' ha hv hn hm hk
      exact wpAny_tests_nil ⟨rfl, _, _, rfl, fun _ _ q => q⟩
    · rintro C g v s₃ m₃ E' hk' ⟨_, hgx⟩ _ hn hm hgr
      dsimp only at hgr
      have Gs := G1.grow (g7.trans hgr)
      refine call1_own (fun Q' q => nm_own Gs rfl q rfl rfl rfl rfl) Gs.X rfl (ldVarK hn hm ⟨Gs.X, ?_⟩)
      refine ih Gs hh (by show A.depth + 1 + f + 1 < _; omega) (by show A.units + 3 + 3 * f + 80 < _; omega) (N1.grow (g7.trans hgr)) hgx (hd _ hk') ?_
      intro v' h5 tk5 g5 r5
      (try dsimp only at g5); (try dsimp only at r5)
      exact ⟨⟨_, _, rfl, g5.keep⟩, r5⟩
    · intro D5 h5 tk5 ys5 s5 p5 r5 g5 z5
      (try dsimp only at s5); (try dsimp only at g5); (try dsimp only at r5)
      have ef : xs.filter (fun _ : GV => true) = xs := List.filter_eq_self.mpr fun _ _ => rfl
      rw [ef] at r5
      have e5 : ys5.size = xs.length := by
        have := r5.length
        rw [List.length_map] at this
        rw [← this]; simp
      refine add_plain (g5.list p7) p5 (by rw [sizeLine_eq, e5]; simp only [List.size_toArray, List.length_cons, List.length_nil]; omega) ?_
      intro l9 h9 s9 z9 g9 p9
      (try dsimp only at s9); (try dsimp only at g9)
      have q1 := G'.size
      have q2 := g7.size
      have q3 := g5.size
      refine h _ _ _ (G'.trans (g7.trans (g5.trans g9))) (RIn.list (by omega) p9 ?_)
      rw [Array.toList_append]
      exact RAll.append (rs := [.n .l]) (.cons (.n .l _) .nil) ((g9.rall r5).mono (by omega) fun _ _ _ e => e)
end
end Nest
namespace Nest
set_option maxRecDepth 100000
theorem key_raise : ExcRaiseFacts "KeyError" := ⟨excClass_KeyError.base, excClass_KeyError.metaType⟩
theorem boot_key : bootBuiltins (PySem.Str.ofString "KeyError") = some (.type "KeyError") := excClass_KeyError.boot
theorem slot_key_str : Slot "KeyError" "__str__" "KeyError.__str__" := .of (owner := "KeyError") (n := "__str__") (by rw [typeLookup_type, builtinLookup_eq_fast]; kernel_rfl) (by decide +kernel) (by decide +kernel) (by decide +kernel)
    (by first | exact .inl (by decide +kernel) | exact .inr (by decide +kernel)) (by rw [isSubtype_type]; kernel_rfl)
section
variable {prog : Program} {w : World} {A : Around} {E : Value → Shared → Prop} {s : Shared} {e t0 : Addr}
/-- KeyError(..) made -/
theorem call_made {X N I : String} (hc : ExcClass X N I) {rest : List Value} {Q : Value → Shared → Prop} (hrest : rest.length ≤ sizeLine)
    (h : ∀ h' e, Heap.MadeExc s.heap h' e X rest → s.heap.objs.size ≤ e → Q (.ref e) { s with heap := h' }) :
    wpAny (model prog w) A (call (.type X) rest) Q E s := by
  refine wpAny_call (codeAny_of_tree ?_)
  show wpAny _ _ (callAny (.type X) ⟨rest, []⟩) _ _ s
  simp only [callAny]
  refine wpAny_pure ⟨Code.quiet_builtin _ (by decide +kernel), codeAny_builtin entry_type_call ?_⟩
  rw [Around.under_plain (weight_type_call X _ _) (by first | rfl | kernel_rfl | decide +kernel)]
  unfold Builtin.«type.__call__»
  dsimp only
  rw [if_neg (by rw [hc.notType]; exact Bool.false_ne_true), if_neg (by rw [hc.canNew]; exact Bool.false_ne_true)]
  obtain ⟨l, hl, hle⟩ := hc.mro
  refine wpAny_bind (wpAny_of_eq (hc.typeCall rest) (wpAny_bind (wpAny_of_eq hl ?_)))
  rw [if_neg (by rw [hle]; exact Bool.false_ne_true)]
  refine wpAny_bind (wpAny_of_eq hc.madeBy ?_)
  dsimp only
  refine wpAny_bind (wpAny_pure (wpAny_bind (wpAny_holding (new_exc hc ?_ hrest))))
  refine wpAny_bind (wpAny_isInstance (T := X) ⟨_, Heap.get?_push_size _ rfl, rfl⟩ hc.self ?_)
  simp only [Bool.not_true, Bool.false_eq_true, if_false]
  refine wpAny_bind (wpAny_holding (wpAny_callSpecial?_slot (name := Str.ofString "__init__") (T := X) ⟨_, Heap.get?_push_size _ rfl, rfl⟩ hc.init
    (init_exc hc (Heap.get?_push_size _ rfl) rfl rfl rfl ?_ hrest)))
  dsimp only
  rw [if_neg (by simp)]
  refine wpAny_pure (h _ _ ⟨fun b o hb => ?_, Heap.get?_none_of_le (by simp), ?_⟩ (by rw [Heap.size_push]; exact Nat.le_succ _))
  · rw [Heap.get?_update_other _ _ (Nat.ne_of_gt (Nat.lt_of_lt_of_le (Heap.lt_size hb) (by simp)))]
    exact Heap.get?_push_of_some _ (Heap.get?_push_of_some _ (Heap.get?_push_of_some _ hb))
  · refine ⟨_, Heap.get?_update_self _ (Heap.get?_push_of_some _ (Heap.get?_push_size _ rfl)) (Obj.isFreed_of_fields (Obj.data_mapFields rfl _)), Heap.get?_none_of_le (by rw [Heap.size_push, Heap.size_push]; exact Nat.le_succ_of_le (Nat.le_succ _)), ?_⟩
    rw [Heap.get?_update_other _ _ (by simp)]
    exact Heap.get?_push_size _ rfl
theorem strOf_key (hu : A.units < cLine) {m : Str} {tk : Tok} {Q : Value → Shared → Prop} (x : s.heap.ExcAt e "KeyError" (.ref t0)) (ht : s.heap.TupAt t0 [.str m tk]) (hsz : (reprText m).length ≤ sizeLine)
    (hq : Q (.str (reprText m) s.toks) { s with toks := s.toks + 1 }) :
    wpAny (model prog w) A (Builtin.Str.strOf (.ref e)) Q E s := by
  unfold Builtin.Str.strOf
  repeat (first | with_reducible refine wpAny_cRoomFor hu ?_ | with_reducible refine wpAny_callSpecial?_slot x.typeIs slot_key_str (wpAny_call_entry slot_key_str x.typeIs F.entry_keyError_str (keyErrorStr_entry_one x ht ⟨_, rfl, ?_⟩ hsz) (F.args_keyError_str _)) | wp_step)
  exact hq
theorem str_key (hu : A.units + 2 < cLine) {m : Str} {tk : Tok} {Q : Value → Shared → Prop} (x : s.heap.ExcAt e "KeyError" (.ref t0)) (ht : s.heap.TupAt t0 [.str m tk]) (hsz : (reprText m).length ≤ sizeLine)
    (h : Q (.str (reprText m) s.toks) { s with toks := s.toks + 1 }) :
    wpAny (model prog w) A (call (.type "str") [.ref e]) Q E s :=
  callType_new F.called_str (by decide) (F.typeCall_str_1 _) (F.newCall_str_1 _) (fun obj => F.args_object_init_2 obj _) F.entry_str_new
    (meets_str_new (S := fun A' R s' => A'.units + 1 < cLine ∧ s'.heap.ExcAt e "KeyError" (.ref t0) ∧ s'.heap.TupAt t0 [.str m tk] ∧ R (.ok (.ret (.str (reprText m) s'.toks))) { s' with toks := s'.toks + 1 })
      fun _ _ A' _ _ hq => strOf_key (A := A'.in1) hq.1 hq.2.1 hq.2.2.1 hsz hq.2.2.2)
    ⟨(show A.units + 1 + 1 < cLine from hu), x, ht, typeIs_str _ _ _, h⟩
end
end Nest
namespace Nest
abbrev frs (l : List Env) : List Addr := l.filterMap (·.frame)
/-- up to the slots -/
def UpAt (fs : List Addr) (h h' : Heap) (b : Addr) : Prop := ∀ o, h.get? b = some o → ∃ sl, h'.get? b = some { o with slots := sl } ∧ (b ∉ fs → sl = o.slots)
theorem UpAt.of_keep {fs : List Addr} {h h' : Heap} {b : Addr} (k : ∀ o, h.get? b = some o → h'.get? b = some o) : UpAt fs h h' b := fun o e => ⟨o.slots, k o e, fun _ => rfl⟩
theorem UpAt.keep {fs : List Addr} {h h' : Heap} {b : Addr} (k : UpAt fs h h' b) (hb : b ∉ fs) {o : Obj} (e : h.get? b = some o) : h'.get? b = some o := by
  obtain ⟨sl, e', hs⟩ := k o e
  rw [hs hb] at e'; exact e'
theorem UpAt.trans {fs : List Addr} {h h' h'' : Heap} {b : Addr} (x : UpAt fs h h' b) (y : UpAt fs h' h'' b) : UpAt fs h h'' b := fun o e => by
  obtain ⟨s1, e1, k1⟩ := x o e
  obtain ⟨s2, e2, k2⟩ := y _ e1
  exact ⟨s2, e2, fun hb => (k2 hb).trans (k1 hb)⟩
theorem UpAt.ns {fs : List Addr} {h h' : Heap} {b : Addr} {m : Str → Option Value} (x : UpAt fs h h' b) (hn : h.Ns b m) : h'.Ns b m := by
  obtain ⟨o, es, ep, ho, hd, r⟩ := hn
  obtain ⟨sl, hs, _⟩ := x o ho
  exact ⟨_, es, ep, hs, hd, r⟩
/-- what a call may have done, raises too -/
structure StepF (fs : List Addr) (h : Heap) (G : GH) (ρ : Ix → Addr) (h' : Heap) (G' : GH) (ρ' : Ix → Addr) : Prop where
  ext : Ext G ρ G' ρ'
  fresh : ∀ i, (G'.get i).isSome = true → (G.get i).isSome = true ∨ h.objs.size ≤ ρ' i
  up : ∀ b, ¬ NA G ρ b → UpAt fs h h' b
  size : h.objs.size ≤ h'.objs.size
def FF (h : Heap) (l : List Env) : Prop := ∀ env ∈ l, env.scope.kind ≠ .module ∧ ∃ L o, env.frame = some L ∧ h.get? L = some o ∧ ∀ vs, o.data ≠ .fields vs
theorem mem_frs {l : List Env} {b : Addr} (hb : b ∈ frs l) : ∃ env ∈ l, env.frame = some b := by
  obtain ⟨env, he, hf⟩ := List.mem_filterMap.mp hb
  exact ⟨env, he, hf⟩
theorem FF.mem {h : Heap} {l : List Env} (x : FF h l) {b : Addr} (hb : b ∈ frs l) : ∃ o, h.get? b = some o ∧ ∀ vs, o.data ≠ .fields vs := by
  obtain ⟨env, he, hf⟩ := mem_frs hb
  obtain ⟨_, L, o, hf', ho, hd⟩ := x env he
  obtain rfl : L = b := Option.some.inj (hf'.symm.trans hf)
  exact ⟨o, ho, hd⟩
theorem FF.at {h h' : Heap} {l : List Env} (x : FF h l) (k : ∀ b ∈ frs l, ∀ o, h.get? b = some o → (∀ vs, o.data ≠ .fields vs) → ∃ o', h'.get? b = some o' ∧ ∀ vs, o'.data ≠ .fields vs) : FF h' l := fun env he => by
  obtain ⟨hk, L, o, hf, ho, hd⟩ := x env he
  obtain ⟨o', ho', hd'⟩ := k L (List.mem_filterMap.mpr ⟨env, he, hf⟩) o ho hd
  exact ⟨hk, L, o', hf, ho', hd'⟩
theorem FF.fun_ {base h : Heap} : ∀ {l : List Env}, FF h l → (∀ b ∈ frs l, base.get? b = none) → h.FunFrames base l
  | [], _, _ => trivial
  | env :: r, x, hb => by
    obtain ⟨hk, L, o, hf, ho, hd⟩ := x env (.head _)
    exact ⟨hk, ⟨L, o, hf, hb L (List.mem_filterMap.mpr ⟨env, .head _, hf⟩), ho, hd⟩, FF.fun_ (fun e he => x e (.tail _ he)) fun b hb' => hb b (by
      obtain ⟨e, he, hf'⟩ := mem_frs hb'
      exact List.mem_filterMap.mpr ⟨e, .tail _ he, hf'⟩)⟩
section
variable {prog : Program} {w : World} {mg mb : Str → Option Value} {h₀ h h' h'' : Heap} {G G' G'' : GH} {ρ ρ' ρ'' : Ix → Addr} {A : Around} {outer : List Env} {fs : List Addr}
theorem StepF.refl : StepF fs h G ρ h G ρ := ⟨Ext.refl, fun _ h => .inl h, fun _ _ => .of_keep fun _ e => e, Nat.le_refl _⟩
theorem Step.toF (x : Step h G ρ h' G' ρ') : StepF fs h G ρ h' G' ρ' := ⟨x.ext, x.fresh, fun b hb => .of_keep fun o e => x.keep b o hb e, x.size⟩
theorem StepF.na (x : StepF fs h G ρ h' G' ρ') {b : Addr} (hb : b < h.objs.size) (hn : ¬ NA G ρ b) : ¬ NA G' ρ' b := by
  rintro ⟨i, hi, rfl⟩
  rcases x.fresh i hi with q | q
  · exact hn ⟨i, q, ((x.ext i q).2).symm⟩
  · exact Nat.lt_irrefl _ (Nat.lt_of_lt_of_le hb q)
theorem StepF.na_or (x : StepF fs h G ρ h' G' ρ') {b : Addr} (hb : NA G' ρ' b) : NA G ρ b ∨ h.objs.size ≤ b := by
  obtain ⟨i, hi, rfl⟩ := hb
  rcases x.fresh i hi with q | q
  · exact .inl ⟨i, q, ((x.ext i q).2).symm⟩
  · exact .inr q
theorem StepF.trans (x : StepF fs h G ρ h' G' ρ') (y : StepF fs h' G' ρ' h'' G'' ρ'') : StepF fs h G ρ h'' G'' ρ'' where
  ext := fun i hi => ⟨(y.ext i (x.ext i hi).1).1, ((y.ext i (x.ext i hi).1).2).trans (x.ext i hi).2⟩
  fresh := fun i hi => by
    rcases y.fresh i hi with q | q
    · rcases x.fresh i q with q' | q'
      · exact .inl q'
      · exact .inr (by rw [(y.ext i q).2]; exact q')
    · exact .inr (Nat.le_trans x.size q)
  up := fun b hb o e => ((x.up b hb).trans (y.up b (x.na (Heap.lt_size e) hb))) o e
  size := Nat.le_trans x.size y.size
theorem StepF.ofGrow (g : Grow h h') : StepF fs h G ρ h' G ρ := (Step.ofGrow g).toF
/-- stores at an address that was not there -/
theorem StepF.store (x : StepF fs h G ρ h' G' ρ') {L : Addr} (hL : h.objs.size ≤ L) (s : Heap.SameBut L h' h'') : StepF fs h G ρ h'' G' ρ' where
  ext := x.ext
  fresh := x.fresh
  up := fun b hb o e => by
    obtain ⟨sl, e', hs⟩ := x.up b hb o e
    exact ⟨sl, s.extBut b _ (Nat.ne_of_lt (Nat.lt_of_lt_of_le (Heap.lt_size e) hL)) e', hs⟩
  size := by rw [s.1]; exact x.size
/-- the NestedDict -/
def InstN (h : Heap) (x r : Addr) : Prop := ∃ dx es n, h.get? x = some (instObj 46 dx) ∧ h.get? dx = some (dictOf es n) ∧ getL (PySem.Str.ofString "dict") es = some (some (.ref r)) ∧
  getL (PySem.Str.ofString "get_or_create_nest") es = some none ∧ getL (PySem.Str.ofString "append_nest_to_list") es = some none
theorem InstN.keeps {x r : Addr} (i : InstN h x r) (k : ∀ b o, h.get? b = some o → h'.get? b = some o) : InstN h' x r := by
  obtain ⟨dx, es, n, h1, h2, h3⟩ := i
  exact ⟨dx, es, n, k _ _ h1, k _ _ h2, h3⟩
/-- what holds all along -/
structure Amb (prog : Program) (w : World) (mg mb : Str → Option Value) (h₀ : Heap) (x : Addr) (A : Around) (outer : List Env) (h : Heap) (G : GH) (ρ : Ix → Addr) : Prop where
  gl : Gl w mg mb h₀
  stays : ∀ b o, h₀.get? b = some o → h.get? b = some o
  nest : NestIn prog w h G ρ
  nlo : ∀ b, NA G ρ b → h₀.get? b = none
  stack : A.frames = some outer
  ff : FF h outer
  flo : ∀ L ∈ frs outer, h₀.get? L = none
  fna : ∀ L ∈ frs outer, ¬ NA G ρ L
  inst : InstN h₀ x (ρ .one)
  root : (G.get .one).isSome = true
variable {x : Addr}
theorem Amb.now (a : Amb prog w mg mb h₀ x A outer h G ρ) : Gl w mg mb h := a.gl.keeps a.stays
theorem Amb.self (a : Amb prog w mg mb h₀ x A outer h G ρ) : InstN h x (ρ .one) := a.inst.keeps a.stays
theorem Amb.above (a : Amb prog w mg mb h₀ x A outer h G ρ) {b : Addr} (hb : h.objs.size ≤ b) : h₀.get? b = none := by
  cases q : h₀.get? b with
  | none => rfl
  | some o => exact absurd (Heap.lt_size (a.stays b o q)) (Nat.not_lt.mpr hb)
theorem Amb.off (a : Amb prog w mg mb h₀ x A outer h G ρ) {b : Addr} (hb : h.objs.size ≤ b) : b ∉ frs outer ∧ ¬ NA G ρ b :=
  ⟨fun hm => by
    obtain ⟨o, ho, _⟩ := a.ff.mem hm
    exact Nat.lt_irrefl _ (Nat.lt_of_lt_of_le (Heap.lt_size ho) hb), fun hm => Nat.lt_irrefl _ (Nat.lt_of_lt_of_le (NA.lt a.nest hm) hb)⟩
theorem Amb.step (a : Amb prog w mg mb h₀ x A outer h G ρ) (N : NestIn prog w h' G' ρ') (z : StepF (frs outer) h G ρ h' G' ρ') : Amb prog w mg mb h₀ x A outer h' G' ρ' where
  gl := a.gl
  stays := fun b o e => (z.up b fun hb => by rw [a.nlo b hb] at e; cases e).keep (fun hm => by rw [a.flo b hm] at e; cases e) (a.stays b o e)
  nest := N
  nlo := fun b hb => (z.na_or hb).elim (a.nlo b) fun q => a.above q
  stack := a.stack
  ff := a.ff.at fun b hb o e hd => by
    obtain ⟨sl, e', _⟩ := z.up b (a.fna b hb) o e
    exact ⟨_, e', hd⟩
  flo := a.flo
  fna := fun L hL => by
    obtain ⟨o, ho, _⟩ := a.ff.mem hL
    exact z.na (Heap.lt_size ho) (a.fna L hL)
  inst := by rw [(z.ext .one a.root).2]; exact a.inst
  root := (z.ext .one a.root).1
theorem Amb.grow (a : Amb prog w mg mb h₀ x A outer h G ρ) (g : Grow h h') : Amb prog w mg mb h₀ x A outer h' G ρ := a.step (a.nest.grow g) (.ofGrow g)
/-- the own frame's names are stored -/
theorem Amb.store (a : Amb prog w mg mb h₀ x A outer h G ρ) {L : Addr} {m : Str → Option Value} (hL : L ∈ frs outer) (s : Heap.SameBut L h h') (hn : h'.Ns L m) : Amb prog w mg mb h₀ x A outer h' G ρ where
  gl := a.gl
  stays := fun b o e => s.extBut b o (fun q => by rw [q, a.flo L hL] at e; cases e) (a.stays b o e)
  nest := a.nest.sameBut s (a.fna L hL)
  nlo := a.nlo
  stack := a.stack
  ff := a.ff.at fun b hb o e hd => by
    by_cases q : b = L
    · subst q
      obtain ⟨o', es, ep, ho, hd', _⟩ := hn
      exact ⟨o', ho, fun vs q => by rw [hd'] at q; cases q⟩
    · exact ⟨o, s.extBut b o q e, hd⟩
  flo := a.flo
  fna := a.fna
  inst := a.inst
  root := a.root
/-- a def is entered -/
theorem Amb.push (a : Amb prog w mg mb h₀ x A outer h G ρ) {L : Addr} {m : Str → Option Value} {env : Env} (g : Grow h h') (hn : h'.Ns L m) (hL : h.objs.size ≤ L) (hf : env.frame = some L) (hk : env.scope.kind ≠ .module) :
    Amb prog w mg mb h₀ x (A.deeper env) (env :: outer) h' G ρ where
  gl := a.gl
  stays := fun b o e => g.keep b o (a.stays b o e)
  nest := a.nest.grow g
  nlo := a.nlo
  stack := Around.frames_deeper a.stack
  ff := fun e he => by
    rcases List.mem_cons.mp he with rfl | he
    · obtain ⟨o', es, ep, ho, hd', _⟩ := hn
      exact ⟨hk, L, o', hf, ho, fun vs q => by rw [hd'] at q; cases q⟩
    · obtain ⟨k, L', o, hf', ho, hd⟩ := a.ff e he
      exact ⟨k, L', o, hf', g.keep _ _ ho, hd⟩
  flo := fun b hb => by
    obtain ⟨e, he, hf'⟩ := mem_frs hb
    rcases List.mem_cons.mp he with rfl | he
    · obtain rfl : L = b := Option.some.inj (hf.symm.trans hf')
      exact a.above hL
    · exact a.flo b (List.mem_filterMap.mpr ⟨e, he, hf'⟩)
  fna := fun b hb hna => by
    obtain ⟨e, he, hf'⟩ := mem_frs hb
    rcases List.mem_cons.mp he with rfl | he
    · obtain rfl : L = b := Option.some.inj (hf.symm.trans hf')
      exact Nat.lt_irrefl _ (Nat.lt_of_lt_of_le (NA.lt a.nest hna) hL)
    · exact a.fna b (List.mem_filterMap.mpr ⟨e, he, hf'⟩) hna
  inst := a.inst
  root := a.root
end
end Nest
namespace Nest
section
variable {prog : Program} {w : World} {A : Around} {s : Shared} {K : Frag}
/-- the same def, another time -/
abbrev Amb.to {prog : Program} {w : World} {mg mb : Str → Option Value} {h₀ : Heap} {x : Addr} {A : Around} {outer : List Env} {h : Heap} {G : GH} {ρ : Ix → Addr} (_ : Amb prog w mg mb h₀ x A outer h G ρ) (h' : Heap) (G' : GH) (ρ' : Ix → Addr) : Prop := Amb prog w mg mb h₀ x A outer h' G' ρ'
/-- a call of a def that may raise, no cells -/
theorem enterR {R : Result → Shared → Prop} {name qual : Str} {params : Arguments} {body : List Stmt} {scope : Scope} {dV kV doc pm cdv ct oc : Value} {an od : Option Addr} {osl : Array (Option Value)} {f : Addr} {args : Args} {binds : List (Str × Value)}
    (X : K.In s.heap) (hlim : s.heap.NoLimit) (ho : K.lookup f = some ⟨oc, od, .func (fnOf name qual params body scope dV kV doc pm an cdv ct), osl⟩) (hcd : codeIn K cdv qual = true) (hroom : A.depth < recursionLimit)
    (hbind : BindsTo s (fnOf name qual params body scope dV kV doc pm an cdv ct) args binds) (hloc : ∀ y ∈ binds, scope.names.lookup y.1 = some .local)
    (h : ∀ L h₁, Fr s.heap L h₁ (fun y => binds.reverse.lookup y) → Grow s.heap h₁ → s.heap.objs.size ≤ L →
      wpAny (model prog w) (A.deeper (envOf qual scope L f cdv)) (execs body (envOf qual scope L f cdv))
        (fun fl s' => R (.ok (.ret (match fl with | .ret v => v | _ => .none))) s')
        (fun e s' => wpAny (model prog w) (A.deeper (envOf qual scope L f cdv)) (leaving (envOf qual scope L f cdv) e) (fun _ s'' => R (.error e) s'') (fun e' s'' => R (.error e') s'') s') { s with heap := h₁, toks := s.toks + binds.length })
    (hco : scope.isCoroutine = false) (hgen : scope.isGenerator = false) (hk : scope.kind = .function) (hcell : ∀ x ∈ scope.names, x.2 ≠ .cell) :
    codeAny (model prog w) A (.call (.ref f) args) R s := by
  refine codeAny_call_def (fd := fnOf name qual params body scope dV kV doc pm an cdv ct) (body := body) (binds := binds) hroom (X _ _ ho) rfl hlim (codeRec_of X hcd) rfl hbind hcell hloc (fun h₁ hns hk₁ => ?_) hco hgen hk
  exact wpAny_mono (h s.heap.objs.size h₁ ⟨hns, hk₁, Nat.le_refl _⟩ ⟨Nat.le_of_lt hns.lt, hk₁⟩ (Nat.le_refl _)) (fun fl s' hl => hl) fun _ _ y => y
end
/-- a KeyError in flight -/
structure Boom (prog : Program) (w : World) (outer : List Env) (h : Heap) (G : GH) (ρ : Ix → Addr) (msg : Str) (e : Addr) (h' : Heap) (G' : GH) (ρ' : Ix → Addr) : Prop where
  nest : NestIn prog w h' G' ρ'
  step : StepF (frs outer) h G ρ h' G' ρ'
  above : h.objs.size ≤ e
  fly : ∃ B t tk, Heap.FlyingW B outer e (.type "KeyError") (.ref t) h' ∧ B.get? t = none ∧ h'.TupAt t [.str msg tk] ∧
    ∀ b o, b ∉ frs outer → ((∃ o', h.get? b = some o') ∨ NA G' ρ' b) → h'.get? b = some o → B.get? b = some o
section
variable {prog : Program} {w : World} {mg mb : Str → Option Value} {h₀ h h' h'' hr : Heap} {G G' G'' : GH} {ρ ρ' ρ'' : Ix → Addr} {A : Around} {outer : List Env} {fs : List Addr} {env : Env} {L xN : Addr}
theorem mem_frs_cons (hf : env.frame = some L) {b : Addr} (hb : b ∈ frs (env :: outer)) : b = L ∨ b ∈ frs outer := by
  obtain ⟨e, he, hf'⟩ := mem_frs hb
  rcases List.mem_cons.mp he with rfl | he
  · exact .inl (Option.some.inj (hf'.symm.trans hf))
  · exact .inr (List.mem_filterMap.mpr ⟨e, he, hf'⟩)
theorem frs_self (hf : env.frame = some L) : L ∈ frs (env :: outer) := List.mem_filterMap.mpr ⟨env, .head _, hf⟩
theorem frs_more {b : Addr} (hb : b ∈ frs outer) : b ∈ frs (env :: outer) := by
  obtain ⟨e, he, hf'⟩ := mem_frs hb
  exact List.mem_filterMap.mpr ⟨e, .tail _ he, hf'⟩
theorem off_cons {h : Heap} {A' : Around} {b : Addr} (_ : Amb prog w mg mb h₀ xN A' (env :: outer) h G ρ) (hf : env.frame = some L) (h1 : b ≠ L) (h2 : b ∉ frs outer) : b ∉ frs (env :: outer) := fun hm => (mem_frs_cons hf hm).elim h1 h2
/-- a step of a call made from a def's body -/
theorem StepF.trans_in (x : StepF (frs outer) h G ρ h' G' ρ') (y : StepF (frs (env :: outer)) h' G' ρ' h'' G'' ρ'') (hf : env.frame = some L) (hL : h.objs.size ≤ L) : StepF (frs outer) h G ρ h'' G'' ρ'' where
  ext := fun i hi => ⟨(y.ext i (x.ext i hi).1).1, ((y.ext i (x.ext i hi).1).2).trans (x.ext i hi).2⟩
  fresh := fun i hi => by
    rcases y.fresh i hi with q | q
    · rcases x.fresh i q with q' | q'
      · exact .inl q'
      · exact .inr (by rw [(y.ext i q).2]; exact q')
    · exact .inr (Nat.le_trans x.size q)
  up := fun b hb o e => by
    have hbL : b ≠ L := Nat.ne_of_lt (Nat.lt_of_lt_of_le (Heap.lt_size e) hL)
    obtain ⟨s1, e1, k1⟩ := x.up b hb o e
    obtain ⟨s2, e2, k2⟩ := y.up b (x.na (Heap.lt_size e) hb) _ e1
    exact ⟨s2, e2, fun hn => (k2 fun hm => (mem_frs_cons hf hm).elim hbL hn).trans (k1 hn)⟩
  size := Nat.le_trans x.size y.size
theorem NA.get (N : NestIn prog w h G ρ) {b : Addr} (x : NA G ρ b) : ∃ o, h.get? b = some o := by
  obtain ⟨i, hi, rfl⟩ := x
  obtain ⟨o, e⟩ := Option.isSome_iff_exists.mp hi
  have := N.obj i o e
  cases o with
  | dict es => obtain ⟨_, ⟨o, _, _, ho, _⟩, _⟩ := this; exact ⟨o, ho⟩
  | list xs => obtain ⟨_, ⟨_, ho⟩, _⟩ := this; exact ⟨_, ho⟩
/-- the exception leaves the frame in which it was raised -/
theorem leave_boom {M : Model} {E : Value → Shared → Prop} {s' : Shared} {e : Addr} {msg : Str} {tk : Tok} {Q : Unit → Shared → Prop}
    (a : Amb prog w mg mb h₀ xN (A.deeper env) (env :: outer) hr G' ρ') (st : StepF (frs outer) h G ρ hr G' ρ') (hx : Heap.MadeExc hr s'.heap e "KeyError" [.str msg tk]) (he : hr.objs.size ≤ e) (hf : env.frame = some L) (hL : h.objs.size ≤ L)
    (hQ : ∀ h', Boom prog w outer h G ρ msg e h' G' ρ' → Q () { s' with heap := h' }) : wpAny M (A.deeper env) (leaving env (.ref e)) Q E s' := by
  have hx' : Heap.MadeExcOf hr s'.heap e (.type "KeyError") [.str msg tk] := ⟨hx.keeps, hx.new, hx.there⟩
  refine wpAny_leaves_madeW (base := hideAll hr (frs (env :: outer))) a.stack hf (fun b o q => of_hideAll _ q) (a.ff.fun_ fun b hb => hideAll_none _ hb) hx' fun h' t x1 x2 x3 x4 => hQ h' ?_
  have kb : ∀ b o, b ∉ frs (env :: outer) → hr.get? b = some o → h'.get? b = some o := fun b o hb q => x1.1 b o (hideAll_get _ q hb)
  have inR : ∀ b, b ∉ frs outer → ((∃ o', h.get? b = some o') ∨ NA G' ρ' b) → b ∉ frs (env :: outer) ∧ ∃ o, hr.get? b = some o := fun b hb hc => by
    have na : NA G' ρ' b → b ∉ frs (env :: outer) ∧ ∃ o, hr.get? b = some o := fun q => ⟨fun hm => a.fna b hm q, NA.get a.nest q⟩
    rcases hc with ⟨o', q⟩ | q
    · by_cases hna : NA G' ρ' b
      · exact na hna
      · have hna' : ¬ NA G ρ b := fun ⟨i, hi, e⟩ => hna ⟨i, (st.ext i hi).1, (st.ext i hi).2.trans e⟩
        obtain ⟨sl, q', _⟩ := st.up b hna' o' q
        exact ⟨fun hm => (mem_frs_cons hf hm).elim (Nat.ne_of_lt (Nat.lt_of_lt_of_le (Heap.lt_size q) hL)) hb, _, q'⟩
    · exact na q
  refine ⟨a.nest.at fun b hb x q => kb b x (fun hm => a.fna b hm hb) q, ⟨st.ext, st.fresh, fun b hb o q => ?_, ?_⟩, ?_, _, t, tk, x1, x3, x2, fun b o hb hc q => ?_⟩
  · obtain ⟨sl, q', k⟩ := st.up b hb o q
    by_cases hm : b ∈ frs outer
    · obtain ⟨o'', q'', hd⟩ := a.ff.mem (frs_more (env := env) hm)
      rw [q'] at q''; cases q''
      obtain ⟨sl', z⟩ := x4 b _ (hx.keeps _ _ q') hd
      exact ⟨sl', z, fun hn => absurd hm hn⟩
    · exact ⟨sl, kb b _ (fun hm' => (mem_frs_cons hf hm').elim (Nat.ne_of_lt (Nat.lt_of_lt_of_le (Heap.lt_size q) hL)) hm) q', k⟩
  · obtain ⟨o, q, hd⟩ := a.ff.mem (frs_self (outer := outer) hf)
    obtain ⟨sl, z⟩ := x4 L _ (hx.keeps _ _ q) hd
    exact Nat.le_trans hL (Nat.le_of_lt (Heap.lt_size z))
  · obtain ⟨o, q, hd⟩ := a.ff.mem (frs_self (outer := outer) hf)
    exact Nat.le_trans hL (Nat.le_trans (Nat.le_of_lt (Heap.lt_size q)) he)
  · obtain ⟨h1, o', h2⟩ := inR b hb hc
    have := kb b o' h1 h2
    rw [q] at this; cases this
    exact hideAll_get _ h2 h1
end

section
variable {prog : Program} {w : World} {A : Around} {s : Shared} {mg mb : Str → Option Value} {h₀ : Heap} {G : GH} {ρ : Ix → Addr} {outer : List Env} {xN : Addr}
/-- the same, with what holds all along -/
theorem enterA {R : Result → Shared → Prop} {name qual : Str} {params : Arguments} {body : List Stmt} {scope : Scope} {dV kV doc pm cdv ct oc : Value} {an od : Option Addr} {osl : Array (Option Value)} {f : Addr} {args : Args} {binds : List (Str × Value)}
    (a : Amb prog w mg mb h₀ xN A outer s.heap G ρ) (ho : (hd.heap_39 w.params).lookup f = some ⟨oc, od, .func (fnOf name qual params body scope dV kV doc pm an cdv ct), osl⟩) (hcd : codeIn (hd.heap_39 w.params) cdv qual = true) (hroom : A.depth < recursionLimit)
    (hbind : BindsTo s (fnOf name qual params body scope dV kV doc pm an cdv ct) args binds) (hloc : ∀ y ∈ binds, scope.names.lookup y.1 = some .local)
    (h : ∀ L h₁, h₁.Ns L (fun y => binds.reverse.lookup y) → Grow s.heap h₁ → s.heap.objs.size ≤ L → Amb prog w mg mb h₀ xN (A.deeper (envOf qual scope L f cdv)) (envOf qual scope L f cdv :: outer) h₁ G ρ →
      wpAny (model prog w) (A.deeper (envOf qual scope L f cdv)) (execs body (envOf qual scope L f cdv))
        (fun fl s' => R (.ok (.ret (match fl with | .ret v => v | _ => .none))) s')
        (fun e s' => wpAny (model prog w) (A.deeper (envOf qual scope L f cdv)) (leaving (envOf qual scope L f cdv) e) (fun _ s'' => R (.error e) s'') (fun e' s'' => R (.error e') s'') s') { s with heap := h₁, toks := s.toks + binds.length })
    (hco : scope.isCoroutine = false) (hgen : scope.isGenerator = false) (hk : scope.kind = .function) (hcell : ∀ x ∈ scope.names, x.2 ≠ .cell) :
    codeAny (model prog w) A (.call (.ref f) args) R s :=
  enterR a.now.X a.now.lim ho hcd hroom hbind hloc (fun L h₁ F g hL => h L h₁ F.ns g hL (a.push g F.ns hL rfl (by show scope.kind ≠ .module; rw [hk]; decide))) hco hgen hk hcell
end
section
variable {prog : Program} {w : World} {mg mb : Str → Option Value} {h₀ hc : Heap} {G G' : GH} {ρ ρ' : Ix → Addr} {A : Around} {outer : List Env} {E : Value → Shared → Prop} {s' : Shared} {L a e xN : Addr} {m : Str → Option Value} {name : Str} {scope : Scope} {cd : Value}
  {n : Str} {b₀ : Stmt} {suite : List Stmt} {pos np : Pos} {rest : List ExceptHandler} {Q : Flow → Shared → Prop} {msg : Str}
/-- and is caught -/
theorem caught_boom (am : Amb prog w mg mb h₀ xN (A.deeper (envOf name scope L a cd)) (envOf name scope L a cd :: outer) hc G ρ) (hn : hc.Ns L m) (hk : scope.kind = .function)
    (b : Boom prog w (envOf name scope L a cd :: outer) hc G ρ msg e s'.heap G' ρ') (hx : (envOf name scope L a cd).kindOf (PySem.Str.ofString "KeyError") = some .globalImplicit) (ex : nsIn (hd.heap_39 w.params) mainGlobals (PySem.Str.ofString "KeyError") = some none) (hlo : (envOf name scope L a cd).kindOf n = some .local)
    (k : ∀ h7 t tk tk7, Amb prog w mg mb h₀ xN (A.deeper (envOf name scope L a cd)) (envOf name scope L a cd :: outer) h7 G' ρ' → (∀ h1 G1 ρ1, StepF (frs outer) h1 G1 ρ1 hc G ρ → h1.objs.size ≤ L → StepF (frs outer) h1 G1 ρ1 h7 G' ρ') →
      h7.Ns L (fun y => if y = n then some (.ref e) else m y) → h7.ExcAt e "KeyError" (.ref t) → h7.TupAt t [.str msg tk] →
      wpAny (model prog w) ((A.deeper (envOf name scope L a cd)).mark (some (.ref e))) (execs (b₀ :: suite) (envOf name scope L a cd))
        (fun f s₄ => wpAny (model prog w) (A.deeper (envOf name scope L a cd)) (do bindName (envOf name scope L a cd) n .none; unbindBehindTheSuite (envOf name scope L a cd) n pos) (fun _ s₅ => Q f s₅) E s₄)
        (AsSuiteRaised (model prog w) ((A.deeper (envOf name scope L a cd)).mark (some (.ref e))) (envOf name scope L a cd) n pos (notedBy (model prog w) ((A.deeper (envOf name scope L a cd)).mark (some (.ref e))) (envOf name scope L a cd) (cameBackBy (model prog w) (A.deeper (envOf name scope L a cd)) (envOf name scope L a cd) E)))
        { s' with heap := h7, toks := tk7 }) :
    wpAny (model prog w) (A.deeper (envOf name scope L a cd)) (noteFrame (.ref e) (envOf name scope L a cd))
      (fun _ s₂ => wpAny (model prog w) (A.deeper (envOf name scope L a cd)) (setFlight (.ref e) none) (fun _ s₃ =>
        wpAny (model prog w) (A.deeper (envOf name scope L a cd)) (handleBy (.ref e) (envOf name scope L a cd) (.ExceptHandler (some (.Name (PySem.Str.ofString "KeyError") np)) (some n) (b₀ :: suite) pos :: rest)) Q E s₃) E s₂) E s' := by
  obtain ⟨B, t, tk, hfl, hnew, htup, hB⟩ := b.fly
  have hf : (envOf name scope L a cd).frame = some L := rfl
  have key : ∀ {h6 : Heap}, s'.heap.UpToSlots h6 → B.StaysIn h6 → (∃ o, h6.get? e = some o) → NestIn prog w h6 G' ρ' ∧ StepF (frs (envOf name scope L a cd :: outer)) hc G ρ h6 G' ρ' := fun {h6} up st he => by
    have am1 := am.step b.nest b.step
    refine ⟨b.nest.at fun x hx z q => st x z (hB x z (fun hm => am1.fna x hm hx) (.inr hx) q), b.step.ext, b.step.fresh, fun x hx o q => ?_, ?_⟩
    · obtain ⟨sl, q', kk⟩ := b.step.up x hx o q
      by_cases hm : x ∈ frs (envOf name scope L a cd :: outer)
      · obtain ⟨o'', q'', hd⟩ := am1.ff.mem hm
        rw [q'] at q''; cases q''
        obtain ⟨sl', z⟩ := up x _ q' hd
        exact ⟨sl', z, fun hn => absurd hm hn⟩
      · exact ⟨sl, st x _ (hB x _ hm (.inl ⟨o, q⟩) q'), kk⟩
    · obtain ⟨o, q⟩ := he
      exact Nat.le_trans b.above (Nat.le_of_lt (Heap.lt_size q))
  refine wpAny_looks_onW am.stack rfl hfl fun h₄ hheld₄ hsm₄ => ?_
  refine wpAny_landsW hheld₄ fun h₅ hheld hsm₅' => ?_
  have hsm₅ := hsm₄.trans hsm₅'
  obtain ⟨N5, S5⟩ := key hsm₅ hheld.1 (hheld.there.imp fun _ q => q.1)
  have am5 := am.step N5 S5
  obtain ⟨ob, hob, hobc⟩ := hheld.there
  refine wpAny_handleBy_builtin_as (X := "KeyError") (T := "KeyError") (b := true) kr_isExc_KeyError kr_notTuple_KeyError excClass_KeyError.self (nm_bi am5.now ex boot_key ⟨rfl, ⟨ob, hob, hobc⟩, ?_⟩ rfl rfl hk hx (by decide) (by decide))
  refine lands_againW hheld fun h₆ hfl₆ hsm₆ => ?_
  obtain ⟨N6, S6⟩ := key (hsm₅.trans hsm₆) hfl₆.1 (hfl₆.there.imp fun _ q => q.1)
  have am6 := am.step N6 S6
  obtain ⟨oe, ws, hoe, hoec, hoed, hoe0⟩ := hfl₆.first
  have ht6 := (htup.of_slots hsm₅).of_slots hsm₆
  have n6 : h₆.Ns L m := (S6.up L (am.fna L (frs_self hf))).ns hn
  refine st_ns n6 hlo (fun h₇ n7 hs7 => ?_) (by show (scope.kind == .class || (scope.kind == .module && L != mainGlobals)) = false; rw [hk]; rfl)
  have ne : e ≠ L := fun q => by
    obtain ⟨o', es, ep, ho', hd', _⟩ := n6
    rw [q, ho'] at hoe; cases hoe
    rw [hd'] at hoed; cases hoed
  have nt : t ≠ L := fun q => by
    obtain ⟨o', es, ep, ho', hd', _⟩ := n6
    obtain ⟨o, z, h1, _, h2⟩ := ht6
    rw [q, ho'] at h1; cases h1
    rw [hd'] at h2; cases h2
  refine k h₇ t tk _ (am6.store (frs_self hf) hs7 n7) (fun h1 G1 ρ1 st hL => (st.trans_in S6 hf hL).store hL hs7) n7 ⟨oe, ws, hs7.extBut _ _ ne hoe, hoec, hoed, hoe0⟩ ?_
  obtain ⟨o, z, h1, h2, h3⟩ := ht6
  exact ⟨o, z, hs7.extBut _ _ nt h1, h2, h3⟩
end
end Nest
namespace Nest
section
variable {prog : Program} {w : World} {A : Around} {E : Value → Shared → Prop} {s : Shared} {env : Env}
/-- a for whose body may raise, may return and may change the nest -/
structure ForW (prog : Program) (w : World) (A : Around) (env : Env) (x : Str) (body : List Stmt) (Q : Flow → Shared → Prop) (E : Value → Shared → Prop) (I : Addr) (fp wr : List Addr) (n : Nat) (P : Nat → Value → Prop) (St : Nat → Heap → Prop) (Inv : Nat → Heap → Prop) (s₂ : Shared) : Prop where
  walks : Walks prog w A I fp wr n P St
  start : St 0 s₂.heap
  init : Inv 0 s₂.heap
  stab : ∀ i h h', Inv i h → (∀ b o, b ∉ wr → h.get? b = some o → h'.get? b = some o) → Inv i h'
  step : ∀ (i : Nat) (v : Value) (h : Heap) (tk : Nat), i < n → P i v → Inv i h → St (i + 1) h →
    wpAny (model prog w) A (storeName env x v) (fun _ s₃ => wpAny (model prog w) A (execs body env) (fun f s₄ => match f with
      | .next => ∃ h' tk', s₄ = { s₂ with heap := h', toks := tk' } ∧ Inv (i + 1) h' ∧ ∀ b ∈ fp, ∀ o, h.get? b = some o → h'.get? b = some o
      | .ret v => Q (.ret v) s₄
      | _ => False) E s₃) E { s₂ with heap := h, toks := tk }
  done : ∀ (h : Heap) (tk : Nat), Inv n h → Q .next { s₂ with heap := h, toks := tk }

theorem for_walk {x : Str} {px pos : Pos} {iter : Expr} {body : List Stmt} {Q : Flow → Shared → Prop} (hE : PassesOwn (model prog w) A env E)
    (h : wpAny (model prog w) A (eval iter env) (fun xv s₁ => wpAny (model prog w) A (pyIter xv) (fun it s₂ => ∃ I fp wr n P St Inv, it = .ref I ∧ ForW prog w A env x body Q E I fp wr n P St Inv s₂) E s₁) E s)
    (hs : ∀ x, foldedSetIterable iter env x = pure x := by intro _; rfl) :
    wpAny (model prog w) A (exec (.For (.Name x px) iter body [] pos) env) Q E s := by
  refine wpAny_For (wpAny_mono h (fun xv s₁ h₁ => wpAny_mono h₁ (fun it s₂ h₂ => ?_) fun _ _ e => e) fun _ _ e => e) hs
  obtain ⟨I, fp, wr, n, P, St, Inv, rfl, W⟩ := h₂
  refine codeAny_forLoop (fun k s' => ∃ (i : Nat) (h' : Heap) (tk : Nat), s' = { s₂ with heap := h', toks := tk } ∧ i ≤ n ∧ k = n + 1 - i ∧ Inv i h' ∧ St i h') ?_ (n + 1)
    ⟨0, _, s₂.toks, rfl, Nat.zero_le _, rfl, W.init, W.start⟩
  rintro k s' ⟨i, h', tk, rfl, hi, rfl, hJ, hst⟩
  by_cases hlt' : i < n
  · refine W.walks.item i _ _ _ hlt' hst fun v h₂ tk₂ hP hst₂ hk₂ => ?_
    have hJ₂ := W.stab i _ _ hJ hk₂
    refine wpAny_assign_Name (wpAny_mono (wpAny_passesOwn hE (W.step i v h₂ tk₂ hlt' hP hJ₂ hst₂)) (fun _ s₃ h₃ => ?_) fun _ _ e => e)
    refine wpAny_mono (wpAny_passesOwn hE h₃) (fun f s₄ h₄ => ?_) fun _ _ e => e
    cases f with
    | next =>
      obtain ⟨h₅, tk₅, rfl, hJ₅, hk₅⟩ := h₄
      exact ⟨n + 1 - (i + 1), by omega, i + 1, h₅, tk₅, rfl, hlt', rfl, hJ₅, W.walks.frame _ _ _ hst₂ hk₅⟩
    | ret v => exact h₄
    | cont => exact h₄.elim
    | brk => exact h₄.elim
  · have hin : i = n := by omega
    subst hin
    refine W.walks.done _ _ _ hst fun h₂ tk₂ hk₂ => ?_
    exact wpAny_execs_nil (W.done h₂ tk₂ (W.stab _ _ _ hJ hk₂))
end
section
variable {prog : Program} {w : World} {mg mb : Str → Option Value} {h₀ h h' h'' hr : Heap} {G G' G'' : GH} {ρ ρ' ρ'' : Ix → Addr} {A : Around} {outer : List Env} {fs : List Addr} {env : Env} {L xN I : Addr}
/-- an iterator has gone on -/
theorem StepF.iter (x : StepF fs h G ρ h' G' ρ') (k : ∀ b o, b ∉ [I] → h'.get? b = some o → h''.get? b = some o) (hI : h.objs.size ≤ I) (hs : h.objs.size ≤ h''.objs.size) : StepF fs h G ρ h'' G' ρ' where
  ext := x.ext
  fresh := x.fresh
  up := fun b hb o e => by
    obtain ⟨sl, e', hh⟩ := x.up b hb o e
    exact ⟨sl, k b _ (fun q => Nat.ne_of_lt (Nat.lt_of_lt_of_le (Heap.lt_size e) hI) (List.mem_singleton.mp q)) e', hh⟩
  size := hs
theorem Amb.iter (a : Amb prog w mg mb h₀ xN A outer h G ρ) (k : ∀ b o, b ∉ [I] → h.get? b = some o → h'.get? b = some o) (h1 : I ∉ frs outer) (h2 : ¬ NA G ρ I) (h3 : h₀.get? I = none) : Amb prog w mg mb h₀ xN A outer h' G ρ where
  gl := a.gl
  stays := fun b o e => k b o (fun q => by rw [List.mem_singleton.mp q, h3] at e; cases e) (a.stays b o e)
  nest := a.nest.at fun b hb x e => k b x (fun q => h2 (List.mem_singleton.mp q ▸ hb)) e
  nlo := a.nlo
  stack := a.stack
  ff := a.ff.at fun b hb o e hd => ⟨o, k b o (fun q => h1 (List.mem_singleton.mp q ▸ hb)) e, hd⟩
  flo := a.flo
  fna := a.fna
  inst := a.inst
  root := a.root
end
end Nest
namespace Nest
theorem binds_ns {s : Shared} {fd : FuncData} {args : Args} {binds : List (Str × Value)} {K : Frag} {d : Addr} {name : Str} {v : Value} {k : Option Value → Sem (List (Str × Value))} (X : K.In s.heap) (e : nsIn K d name = some (some v))
    (h₁ : bindArgs fd args = nsGet d name >>= k) (h₂ : k (some v) = pure binds) : BindsTo s fd args binds := fun M A E Q hq => by
  rw [h₁]
  exact wpAny_bind ((looks_nsIn (M := M) X e).here (h₂ ▸ wpAny_pure hq))
theorem Fr.toNs {h₀ h : Heap} {L : Addr} {m : Str → Option Value} (F : Fr h₀ L h m) : h.Ns L m := F.ns
def noNest : Str := PySem.Str.ofString "There is no nest behind this key"
theorem look_snoc (k : Nm) (v : GV) : ∀ es : List (Nm × GV), look k es = none → look k (es ++ [(k, v)]) = some v
  | [], _ => by show (match k.eq k with | true => some v | false => none) = some v; rw [Nm.eq_iff.mpr rfl]
  | (y, u) :: r, h => by
    rw [look] at h
    rw [List.cons_append, look]
    cases hx : y.eq k with
    | true => rw [hx] at h; cases h
    | false => rw [hx] at h; exact look_snoc k v r h
theorem walkN_dict {acc : Bool} {k : Nm} {ks : List Nm} {G G1 : GH} {i j : Ix} {v : GV} (h1 : enter G i k = some (G1, v)) (h2 : behind acc G1 v = .dict j) : walkN acc (k :: ks) G i = walkN acc ks G1 j := by
  rw [walkN, h1]; simp only [h2]
theorem walkN_key {acc : Bool} {k : Nm} {ks : List Nm} {G G1 : GH} {i : Ix} {v : GV} (h1 : enter G i k = some (G1, v)) (h2 : behind acc G1 v = .key) : walkN acc (k :: ks) G i = .key G1 := by
  rw [walkN, h1]; simp only [h2]
theorem walkN_bad {acc : Bool} {k : Nm} {ks : List Nm} {G G1 : GH} {i : Ix} {v : GV} (h1 : enter G i k = some (G1, v)) (h2 : behind acc G1 v = .bad) : walkN acc (k :: ks) G i = .bad := by
  rw [walkN, h1]; simp only [h2]
theorem walkN_none {acc : Bool} {k : Nm} {ks : List Nm} {G : GH} {i : Ix} (h1 : enter G i k = none) : walkN acc (k :: ks) G i = .bad := by
  rw [walkN, h1]
theorem behind_cases (acc : Bool) (G : GH) (gv : GV) : (∃ n, gv = .int n ∧ behind acc G gv = .key) ∨ (∃ j es, gv = .ref j ∧ G.get j = some (.dict es) ∧ behind acc G gv = .dict j) ∨
    (∃ j xs, gv = .ref j ∧ G.get j = some (.list xs) ∧ acc = false ∧ behind acc G gv = .key) ∨
    (∃ j xs j' es, gv = .ref j ∧ G.get j = some (.list xs) ∧ acc = true ∧ lastOf xs = some (.ref j') ∧ G.get j' = some (.dict es) ∧ behind acc G gv = .dict j') ∨ behind acc G gv = .bad := by
  cases gv with
  | int n => exact .inl ⟨n, rfl, rfl⟩
  | ref j =>
    right
    cases hg : G.get j with
    | none => right; right; right; simp [behind, hg]
    | some o =>
      cases o with
      | dict es => left; exact ⟨j, es, rfl, hg, by simp [behind, hg]⟩
      | list xs =>
        cases acc with
        | false => right; left; exact ⟨j, xs, rfl, hg, rfl, by simp [behind, hg]⟩
        | true =>
          cases hl : lastOf xs with
          | none => right; right; right; simp [behind, hg, hl]
          | some g =>
            cases g with
            | int n => right; right; right; simp [behind, hg, hl]
            | ref j' =>
              cases hk : G.get j' with
              | none => right; right; right; simp [behind, hg, hl, hk]
              | some o' =>
                cases o' with
                | dict es => right; right; left; exact ⟨j, xs, j', es, rfl, hg, rfl, hl, hk, by simp [behind, hg, hl, hk]⟩
                | list ys => right; right; right; simp [behind, hg, hl, hk]
theorem drop_get {α : Type} {l : List α} {i : Nat} {a : α} (h : l[i]? = some a) : l.drop i = a :: l.drop (i + 1) := by
  obtain ⟨hi, e⟩ := List.getElem?_eq_some_iff.mp h
  rw [List.drop_eq_getElem_cons hi, e]
def kwOf : Bool → List (Str × Value)
  | true => []
  | false => [(PySem.Str.ofString "access_lists", .bool false)]
section
variable {prog : Program} {w : World} {mg mb : Str → Option Value} {h₀ : Heap} {G : GH} {ρ : Ix → Addr} {A : Around} {outer : List Env} {x : Addr}
/-- the loop's word -/
def GetInv (prog : Program) (w : World) (mg mb : Str → Option Value) (h₀ : Heap) (x : Addr) (A' : Around) (o' : List Env) (outer : List Env) (hs : Heap) (G : GH) (ρ : Ix → Addr) (L I : Addr) (acc : Bool) (names : List Nm) (i : Nat) (h : Heap) : Prop :=
  ∃ Gi c ρi m, walkN acc names G .one = walkN acc (names.drop i) Gi c ∧ (Gi.get c).isSome = true ∧ h.Ns L m ∧ m (PySem.Str.ofString "access_lists") = some (.bool acc) ∧ m (PySem.Str.ofString "cont") = some (.ref (ρi c)) ∧
    Amb prog w mg mb h₀ x A' o' h Gi ρi ∧ StepF (frs outer) hs G ρ h Gi ρi ∧ ¬ NA Gi ρi I
/-- the dict of the instance -/
theorem get_dict {s : Shared} {E Q : Value → Shared → Prop} {r : Addr} (X : (hd.heap_39 w.params).In s.heap) (i : InstN s.heap x r) (h : Q (.ref r) { s with toks := s.toks + 1 }) :
    wpAny (model prog w) A (getAttr (.ref x) (PySem.Str.ofString "dict") true) Q E s := by
  obtain ⟨dx, es, n, h1, h2, h3, _⟩ := i
  exact get_value X ⟨h1, rfl, rfl, h2⟩ rfl (findObj_own (K := hd.heap_39 w.params) (C := 46) rfl rfl rfl (show lookIn _ (dictOf es n) = _ from h3)) rfl h
set_option maxRecDepth 100000 in
set_option maxHeartbeats 2000000 in
theorem get_spec {acc : Bool} {names : List Nm} {s : Shared} {E Q : Value → Shared → Prop} {ka : Addr} {vs : Array Value}
    (a : Amb prog w mg mb h₀ x A outer s.heap G ρ) (hh : A.handled = none) (hroom : A.depth < recursionLimit)
    (ht : s.heap.IsTuple ka vs) (hv : NmsAre vs.toList names) (hka : ka ∉ frs outer ∧ ¬ NA G ρ ka)
    (hok : ∀ G' i, walkN acc names G .one = .ok G' i → ∀ h' tk' ρ', NestIn prog w h' G' ρ' → (G'.get i).isSome = true → StepF (frs outer) s.heap G ρ h' G' ρ' → Q (.ref (ρ' i)) { s with heap := h', toks := tk' })
    (hkey : ∀ G', walkN acc names G .one = .key G' → ∀ e h' tk' ρ', Boom prog w outer s.heap G ρ noNest e h' G' ρ' → E (.ref e) { s with heap := h', toks := tk' })
    (hbad : walkN acc names G .one ≠ .bad) :
    wpAny (model prog w) A (call (.ref 36) [.ref x, .ref ka] (kwOf acc)) Q E s := by
  refine wpAny_call ?_
  have X := a.now.X
  refine' enterA (binds := [(PySem.Str.ofString "self", .ref x), (PySem.Str.ofString "key", .ref ka), (PySem.Str.ofString "access_lists", .bool acc)]) a ?k1 ?k2 hroom ?k3 ?k4 ?_ ?c1 ?c2 ?c3 ?c4
  case k1 => exact rfl
  case k2 => exact rfl
  case k3 =>
    cases acc with
    | true =>
      intro M A' E' Q' hq
      with_unfolding_all exact nd_load (a := 29) (X 29 _ rfl) (nd_pure hq)
    | false => exact BindsTo.of_eq rfl
  case k4 => exact locs rfl
  case c1 => exact rfl
  case c2 => exact rfl
  case c3 => exact rfl
  case c4 => decide
  intro L h₁ n1 G' hL am1
  dsimp only
  refine wpAny_execs_cons (wpAny_Assign_Name (Attribute_name (ld_ns n1 rfl (get_dict am1.now.X am1.self ?_))))
  refine st_ns n1 rfl ?_
  intro h2 n2 hs2
  (try dsimp only at n2); (try dsimp only at hs2)
  have am2 := am1.store (frs_self rfl) hs2 n2
  have st2 : StepF (frs outer) s.heap G ρ h2 G ρ := (StepF.ofGrow G').store hL hs2
  have hkaL : ka ≠ L := by
    obtain ⟨o, ho, _⟩ := ht
    exact Nat.ne_of_lt (Nat.lt_of_lt_of_le (Heap.lt_size ho) hL)
  have ht2 : h2.IsTuple ka vs := by
    obtain ⟨o, ho, hr⟩ := ht
    exact ⟨o, hs2.extBut _ _ hkaL (G'.keep _ _ ho), hr⟩
  have hIL : h2.objs.size ≠ L := Nat.ne_of_gt n2.lt
  obtain ⟨hIf, hIn⟩ := am2.off (Nat.le_refl h2.objs.size)
  have hI0 := am2.above (Nat.le_refl h2.objs.size)
  have hIs : s.heap.objs.size ≤ h2.objs.size := st2.size
  have hkaF : ka < s.heap.objs.size := by
    obtain ⟨o, ho, _⟩ := ht
    exact Heap.lt_size ho
  have hkaI : ka ≠ h2.objs.size := Nat.ne_of_lt (Nat.lt_of_lt_of_le hkaF hIs)
  have evs : vs.size = names.length := by rw [← hv.length]; simp
  refine wpAny_execs_cons (for_walk (by passes_own) (ld_ns n2 rfl (wpAny_pyIter_tuple ht2 ?_)))
  dsimp only
  have inv0 : GetInv prog w mg mb h₀ x _ _ outer s.heap G ρ L h2.objs.size acc names 0 (h2.push { cls := .type "tuple_iterator", data := .fields #[.ref ka, .int 0 0] }) :=
    ⟨G, .one, ρ, _, rfl, am2.root, n2.keeps fun b o e => Heap.get?_push_of_some _ e, rfl, rfl, am2.grow (Grow.push _ _), st2.trans (.ofGrow (Grow.push _ _)), hIn⟩
  refine ⟨h2.objs.size, [h2.objs.size, ka], [h2.objs.size], vs.size, (fun i v => vs[i]? = some v), (fun i h => h.IsTupleIter h2.objs.size ka i ∧ h.IsTuple ka vs),
    GetInv prog w mg mb h₀ x _ _ outer s.heap G ρ L h2.objs.size acc names, rfl, ⟨Walks.tuple (A := A.deeper _) hh h2.objs.size ka hkaI vs, ?start, inv0, ?stab, ?step, ?done⟩⟩
  case start =>
    obtain ⟨o, ho, hr⟩ := ht2
    exact ⟨⟨_, Heap.get?_push_size _ rfl, rfl, rfl⟩, ⟨o, Heap.get?_push_of_some _ ho, hr⟩⟩
  case stab =>
    rintro i h h' ⟨Gi, c, ρi, m, e1, e2, n, e3, e4, am, st, hn⟩ hk
    have n' : h'.Ns L m := n.at' fun o e => hk L o (fun q => hIL (List.mem_singleton.mp q).symm) e
    exact ⟨Gi, c, ρi, m, e1, e2, n', e3, e4, am.iter hk hIf hn hI0, st.iter hk hIs (Nat.le_trans hL (Nat.le_of_lt n'.lt)), hn⟩
  case done =>
    rintro h tk ⟨Gi, c, ρi, m, e1, e2, n, e3, e4, am, st, hn⟩
    refine wpAny_execs_cons (wpAny_Return_some (ld_ns n e4 ?_))
    rw [evs, List.drop_length] at e1
    exact hok Gi c e1 h _ ρi am.nest e2 st
  case step =>
    rintro i v h tk hi hP ⟨Gi, c, ρi, m, e1, e2, n, e3, e4, am, st, hn⟩ ⟨⟨oI, hoI, _⟩, _⟩
    have hIh : h2.objs.size < h.objs.size := Heap.lt_size hoI
    obtain ⟨k, t, hk, rfl⟩ := hv.get (by simpa using hP)
    rw [drop_get hk] at e1
    refine st_ns n rfl ?_
    intro h3 n3 hs3
    (try dsimp only at n3); (try dsimp only at hs3)
    have am3 := am.store (frs_self rfl) hs3 n3
    have st3 := st.store hL hs3
    have kp3 : ∀ b, b ≠ L → ∀ o, h.get? b = some o → h3.get? b = some o := fun b hb o e => hs3.extBut b o hb e
    cases hg : Gi.get c with
    | none => rw [hg] at e2; cases e2
    | some oc =>
    cases oc with
    | list xs => exact absurd (e1.trans (walkN_none (by unfold enter; rw [hg]))) hbad
    | dict es =>
    obtain ⟨kvs, D3, E3, l3⟩ := am3.nest.obj c _ hg
    have hsys := am3.nest.sys e2
    refine wpAny_execs_cons (wpAny_mono (Q := fun f s' => f = Flow.next ∧ ∃ h4 tk4 G1 ρ1 m1 gv es1, s' = { s with heap := h4, toks := tk4 } ∧ enter Gi c k = some (G1, gv) ∧ G1.get c = some (.dict es1) ∧ look k es1 = some gv ∧
        h4.Ns L m1 ∧ m1 (PySem.Str.ofString "access_lists") = some (.bool acc) ∧ m1 (PySem.Str.ofString "k") = some (.str k.str t) ∧ m1 (PySem.Str.ofString "cont") = some (.ref (ρ1 c)) ∧
        am2.to h4 G1 ρ1 ∧ StepF (frs outer) s.heap G ρ h4 G1 ρ1 ∧ ¬ NA G1 ρ1 h2.objs.size ∧
        ∀ b, b ≠ L → ¬ NA Gi ρi b → ∀ o, h.get? b = some o → h4.get? b = some o) ?_ (fun f s' hq => ?_) (fun _ _ e => e))
    · refine wpAny_If (wpAny_isTrue_Compare1 (ld_ns n3 rfl (ld_ns n3 (upd_ne (by decide) e4) (wpAny_notIn_of (strKind_is _ _ _ _) hsys D3.mapOf (wpAny_truthy_bool ?_)))))
      rcases E3.valueAt k with ⟨q1, q2⟩ | ⟨gv, v, q1, q2, q3⟩
      · rw [q2]
        refine ite_B (fun _ => ?_) (by intro e; cases e)
        have hfew : few 8 es = true := by
          cases hf : few 8 es with
          | true => rfl
          | false => exact absurd (e1.trans (walkN_none (by unfold enter; rw [hg]; simp only [q1, hf]))) hbad
        have hent : enter Gi c k = some ((Gi.new (.dict [])).set c (.dict (es ++ [(k, .ref Gi.n)])), .ref Gi.n) := by unfold enter; rw [hg]; simp only [q1, hfew]
        refine wpAny_execs_cons (wpAny_Assign_Subscript (wpAny_Dict_empty ?_))
        dsimp only
        have g4 : Grow h3 (h3.push { cls := .type "dict", data := .dict #[] }) := Grow.push _ _
        have hD3 : 3 < h3.objs.size := am3.now.g.lt
        have D4 := Heap.DictOf.new (knd := strKind prog w) h3
        have N4 := am3.nest.new (y := .dict []) g4 (Nat.le_refl _) hD3 ⟨[], D4, .nil, Nat.zero_le _⟩
        have S4 := am3.nest.step_new g4 (Nat.le_refl h3.objs.size) (.dict [])
        have hcn : c ≠ Gi.n := fun e => am3.nest.n_none (e ▸ e2)
        have hc4 : ((Gi.new (.dict [])).get c).isSome = true := (S4.ext c e2).1
        have hρc : put ρi Gi.n h3.objs.size c = ρi c := put_ne _ hcn
        have n4 := n3.keeps g4.keep
        refine ld_ns n4 (upd_ne (by decide) e4) (ld_ns n4 rfl (wpAny_setItem_pairs (strKind_is _ _ _ _) (D3.push _) (fun h5 D5 hs5 => ?_) (by rw [E3.length, sizeLine_eq]; omega)))
        dsimp only at D5 hs5
        rw [valueAt_none q2] at D5
        rw [← hρc] at D5 hs5
        have hx4 := am3.nest.ext_new (.dict []) h3.objs.size
        have hx5 := hx4.trans (Ext.set (ρ := put ρi Gi.n h3.objs.size) (.dict (es ++ [(k, .ref Gi.n)])) hc4)
        have hself : ((((Gi.new (.dict [])).set c (.dict (es ++ [(k, .ref Gi.n)]))).get Gi.n)).isSome = true := by
          rw [GH.some_set _ _ hc4, GH.get_new_self]; rfl
        have hgv : GVIs ((Gi.new (.dict [])).set c (.dict (es ++ [(k, .ref Gi.n)]))) (put ρi Gi.n h3.objs.size) (.ref Gi.n) (.ref h3.objs.size) := ⟨by rw [put_self], hself⟩
        have N5 := N4.set hc4 hs5 (y := .dict (es ++ [(k, .ref Gi.n)])) ⟨_, D5, (E3.ext hx5).append (.cons hgv .nil), by
          have := few_iff 8 es hfew
          rw [List.length_append]; simp only [List.length_cons, List.length_nil]; omega⟩
        have S5 := S4.trans (NestIn.step_set hc4 hs5 (.dict (es ++ [(k, .ref Gi.n)])))
        have am5 := am3.step N5 S5.toF
        have hLc : L ≠ put ρi Gi.n h3.objs.size c := by
          rw [hρc]
          exact fun e => am3.fna L (frs_self rfl) ⟨c, e2, e.symm⟩
        have hz3 : h3.objs.size = h.objs.size := hs3.1
        refine wpAny_execs_nil ⟨rfl, h5, _, _, _, _, _, _, rfl, hent, GH.get_set_self _ _ _, look_snoc k _ es q1, n4.sameBut hs5 hLc, upd_ne (by decide) e3, rfl, upd_ne (by decide) ?_, am5, st3.trans S5.toF, (S5.toF (fs := [])).na (by rw [hz3]; exact hIh) hn, fun b hb hna o e => S5.keep b o hna (kp3 b hb o e)⟩
        rw [hρc]; exact e4
      · rw [q2]
        refine ite_B (by intro e; cases e) fun _ => wpAny_execs_nil ⟨rfl, h3, _, Gi, ρi, _, gv, es, rfl, by unfold enter; rw [hg]; simp only [q1], hg, q1, n3, upd_ne (by decide) e3, rfl, upd_ne (by decide) e4, am3, st3, hn, fun b hb _ o e => kp3 b hb o e⟩
    · obtain ⟨rfl, h4, tk4, G1, ρ1, m1, gv, es1, rfl, hent, hg1, hlk, n4, f1, f2, f3, am4, st4, hn4, kp4⟩ := hq
      obtain ⟨kvs1, D4, E4, l4⟩ := am4.nest.obj c _ hg1
      dsimp only
      rcases E4.valueAt k with ⟨q1, _⟩ | ⟨g', v, q1, q2, q3⟩
      · rw [hlk] at q1; cases q1
      · rw [hlk] at q1
        cases q1
        refine wpAny_execs_cons (wpAny_Assign_Name (wpAny_Subscript_Name_late (ld_ns n4 f3 (ld_ns n4 f2 ⟨"dict", _, slot_dict_getitem.lookup, D4.typeIs, wpAny_getItem_of (strKind_is _ _ _ _) D4.mapOf q2 ?_⟩))))
        refine st_ns n4 rfl ?_
        intro h5 n5 hs5
        (try dsimp only at n5); (try dsimp only at hs5)
        have am5 := am4.store (frs_self rfl) hs5 n5
        have st5 := st4.store hL hs5
        have kp5 : ∀ b, b ≠ L → ¬ NA Gi ρi b → ∀ o, h.get? b = some o → h5.get? b = some o := fun b hb hna o e => hs5.extBut b o hb (kp4 b hb hna o e)
        have f1' := upd_ne (x := PySem.Str.ofString "access_lists") (y := PySem.Str.ofString "cont") (v := some v) (by decide) f1
        refine wpAny_execs_cons (wpAny_mono (Q := fun f s' => f = Flow.next ∧ ∃ h6 tk6 m6 v6, s' = { s with heap := h6, toks := tk6 } ∧ h6.Ns L m6 ∧ m6 (PySem.Str.ofString "access_lists") = some (.bool acc) ∧ m6 (PySem.Str.ofString "cont") = some v6 ∧
          am2.to h6 G1 ρ1 ∧ StepF (frs outer) s.heap G ρ h6 G1 ρ1 ∧ (∀ b, b ≠ L → ¬ NA Gi ρi b → ∀ o, h.get? b = some o → h6.get? b = some o) ∧
          ((∃ j es, behind acc G1 gv = .dict j ∧ G1.get j = some (.dict es) ∧ v6 = .ref (ρ1 j)) ∨ (behind acc G1 gv = .key ∧ ((∃ n t, v6 = .int n t) ∨ ∃ j xs, G1.get j = some (.list xs) ∧ v6 = .ref (ρ1 j))))) ?_ (fun f s' hq => ?_) (fun _ _ e => e))
        · refine wpAny_If (wpAny_isTrue_BoolOp (wpAny_allTrue_And_cons (wpAny_isTrue_value (ld_ns n5 f1' (wpAny_truthy_bool ?_)))))
          cases acc with
          | false =>
            refine ite_B (by intro e; cases e) fun _ => ?_
            refine ite_B (by intro e; cases e) fun _ => wpAny_execs_nil ?_
            refine ⟨rfl, h5, _, _, v, rfl, n5, f1', rfl, am5, st5, kp5, ?_⟩
            rcases behind_cases false G1 gv with ⟨n', rfl, hb⟩ | ⟨j, es', rfl, hj, hb⟩ | ⟨j, xs, rfl, hj, _, hb⟩ | ⟨j, xs, j', es', rfl, hj, he, _⟩ | hb
            · obtain ⟨t', rfl⟩ := q3
              exact .inr ⟨hb, .inl ⟨n', t', rfl⟩⟩
            · obtain ⟨rfl, _⟩ := q3
              exact .inl ⟨j, es', hb, hj, rfl⟩
            · obtain ⟨rfl, _⟩ := q3
              exact .inr ⟨hb, .inr ⟨j, xs, hj, rfl⟩⟩
            · cases he
            · exact absurd (e1.trans (walkN_bad hent hb)) hbad
          | true =>
            refine ite_B (fun _ => ?_) (by intro e; cases e)
            refine wpAny_allTrue_And_cons (wpAny_isTrue_value (call2_builtin (fun Q' q => nm_bi am5.now rfl boot_isinstance q rfl rfl rfl rfl rfl (by decide)) (ld_ns n5 rfl (nm_bi am5.now rfl boot_list ?_ rfl rfl rfl rfl rfl (by decide)))))
            rcases behind_cases true G1 gv with ⟨n', rfl, hb⟩ | ⟨j, es', rfl, hj, hb⟩ | ⟨j, xs, rfl, hj, he, hb⟩ | ⟨j, xs, j', es', rfl, hj, _, hlast, hj', hb⟩ | hb
            · obtain ⟨t', rfl⟩ := q3
              refine IsiPair.int_list (wpAny_truthy_bool (ite_B (by intro e; cases e) fun _ => ?_))
              refine ite_B (by intro e; cases e) fun _ => wpAny_execs_nil ?_
              exact ⟨rfl, h5, _, _, _, rfl, n5, f1', rfl, am5, st5, kp5, .inr ⟨hb, .inl ⟨n', t', rfl⟩⟩⟩
            · obtain ⟨rfl, _⟩ := q3
              obtain ⟨kvs', D', _⟩ := am5.nest.obj j _ hj
              obtain ⟨o, ho, hc⟩ := lt_dict D'
              refine IsiPair.dict_list ho hc (wpAny_truthy_bool (ite_B (by intro e; cases e) fun _ => ?_))
              refine ite_B (by intro e; cases e) fun _ => wpAny_execs_nil ?_
              exact ⟨rfl, h5, _, _, _, rfl, n5, f1', rfl, am5, st5, kp5, .inl ⟨j, es', hb, hj, rfl⟩⟩
            · cases he
            · obtain ⟨rfl, _⟩ := q3
              obtain ⟨vs', pl', X', l'⟩ := am5.nest.obj j _ hj
              obtain ⟨n0, ho⟩ := id pl'
              obtain ⟨v', hv', hg'⟩ := X'.lastOf _ hlast
              obtain ⟨rfl, _⟩ := hg'
              refine IsiPair.list_list ho rfl (wpAny_truthy_bool (ite_B (fun _ => wpAny_allTrue_And_nil (ite_B (fun _ => ?_) (by intro e; cases e))) (by intro e; cases e)))
              have hsz' : 0 < vs'.size := by
                rw [← Array.length_toList]
                cases hvv : vs'.toList with
                | nil => rw [hvv] at hv'; cases hv'
                | cons _ _ => simp
              refine wpAny_execs_cons (wpAny_Assign_Name (PySem.Subscript_UnaryOp (ld_ns n5 rfl (wpAny_UnaryOp (wpAny_Constant_int (P.neg_int ⟨"list", _, slot_list_getitem.lookup, pl'.isList.typeIs, wpAny_getItem_list_neg (x := .ref (ρ1 j')) pl'.isList (by decide) (by omega) (by decide) ?_ ?_⟩))))))
              · rw [List.getLast?_eq_getElem?] at hv'
                have e9 : (-1 + (vs'.size : Int)).toNat = vs'.toList.length - 1 := by rw [Array.length_toList]; omega
                show vs'[(-1 + (vs'.size : Int)).toNat]? = _
                rw [e9]
                simpa using hv'
              · refine st_ns n5 rfl ?_
                intro h6 n6 hs6
                (try dsimp only at n6); (try dsimp only at hs6)
                refine wpAny_execs_nil ⟨rfl, h6, _, _, _, rfl, n6, upd_ne (by decide) f1', rfl, am5.store (frs_self rfl) hs6 n6, st5.store hL hs6, fun b hb hna o e => hs6.extBut b o hb (kp5 b hb hna o e), .inl ⟨j', es', hb, hj', rfl⟩⟩
            · exact absurd (e1.trans (walkN_bad hent hb)) hbad
        · obtain ⟨rfl, h6, tk6, m6, v6, rfl, n6, f16, f26, am6, st6, kp6, hcase⟩ := hq
          dsimp only
          refine wpAny_execs_cons (wpAny_If (wpAny_mono (Q := fun b s' => (∃ tk, s' = { s with heap := h6, toks := tk }) ∧ ((b = false ∧ ∃ j es, behind acc G1 gv = .dict j ∧ G1.get j = some (.dict es) ∧ v6 = .ref (ρ1 j)) ∨ (b = true ∧ behind acc G1 gv = .key))) ?_ (fun b s' hq => ?_) (fun _ _ e => e)))
          · refine wpAny_isTrue_Not (wpAny_isTrue_value (call2_builtin (fun Q' q => nm_bi am6.now rfl boot_isinstance q rfl rfl rfl rfl rfl (by decide)) (ld_ns n6 f26 (nm_bi am6.now rfl boot_dict ?_ rfl rfl rfl rfl rfl (by decide)))))
            rcases hcase with ⟨j, es', hb, hj, rfl⟩ | ⟨hb, ⟨n', t', rfl⟩ | ⟨j, xs, hj, rfl⟩⟩
            · obtain ⟨kvs', D', _⟩ := am6.nest.obj j _ hj
              obtain ⟨o, ho, hc⟩ := lt_dict D'
              exact IsiPair.dict_dict ho hc (wpAny_truthy_bool ⟨⟨_, rfl⟩, .inl ⟨rfl, j, es', hb, hj, rfl⟩⟩)
            · exact IsiPair.int_dict (wpAny_truthy_bool ⟨⟨_, rfl⟩, .inr ⟨rfl, hb⟩⟩)
            · obtain ⟨vs', ⟨n0, ho⟩, X', l'⟩ := am6.nest.obj j _ hj
              exact IsiPair.list_dict ho rfl (wpAny_truthy_bool ⟨⟨_, rfl⟩, .inr ⟨rfl, hb⟩⟩)
          · obtain ⟨⟨tk7, rfl⟩, hq⟩ := hq
            rcases hq with ⟨rfl, j, es', hb, hj, rfl⟩ | ⟨rfl, hb⟩
            · refine ite_B (by intro e; cases e) fun _ => wpAny_execs_nil ?_
              refine wpAny_execs_nil ⟨h6, _, rfl, ⟨G1, j, ρ1, m6, e1.trans (walkN_dict hent hb), by rw [hj]; rfl, n6, f16, f26, am6, st6, hn4⟩, ?_⟩
              intro b hb' o e
              rcases List.mem_cons.mp hb' with rfl | hb'
              · exact kp6 _ hIL hn o e
              · rcases List.mem_cons.mp hb' with rfl | hb'
                · exact kp6 _ hkaL (st.na hkaF hka.2) o e
                · cases hb'
            · refine ite_B (fun _ => ?_) (by intro e; cases e)
              refine wpAny_execs_cons (wpAny_Raise_made key_raise hh (call1_type (fun Q' q => nm_bi am6.now rfl boot_key q rfl rfl rfl rfl rfl (by decide)) (wpAny_Constant_str (call_made excClass_KeyError (show 1 ≤ sizeLine by rw [sizeLine_eq]; decide) fun h8 e hx he => ?_))))
              dsimp only at hx he
              obtain ⟨t8, ht8, _⟩ := id hx.there
              refine ⟨e, t8, rfl, ht8, ?_⟩
              exact leave_boom am6 st6 hx he rfl hL (fun h9 B => hkey G1 (e1.trans (walkN_key hent hb)) e h9 _ ρ1 B)
end
end Nest
namespace Nest
section
variable {prog : Program} {w : World} {A : Around} {E : Value → Shared → Prop} {s : Shared} {env : Env}
theorem adjust_to (n : Nat) (hn : 1 ≤ n) : Builtin.Slice.sliceAdjust none (some (-1)) 1 (n : Int) = (0, ((n - 1 : Nat) : Int)) := by
  unfold Builtin.Slice.sliceAdjust
  have h1 : ¬ ((1 : Int) < 0) := by omega
  simp only [h1, if_false]
  congr 1
  simp
  omega
theorem sliceApplied_to {sl : Addr} {n : Nat} {u : Tok} {Q : Int × Int × Nat → Shared → Prop} (hs : s.heap.IsSliceOf sl .none (.int (-1) u) .none) (hn : 1 ≤ n) (h : Q (0, 1, n - 1) s) :
    wpAny (model prog w) A (Builtin.Slice.sliceApplied (.ref sl) (pure (n : Int))) Q E s := by
  obtain ⟨os, hos, hcs, hds⟩ := id hs
  unfold Builtin.Slice.sliceApplied Builtin.Slice.sliceFields
  refine wpAny_bind (wpAny_bind (wpAny_field hos hds (x := .none) rfl (wpAny_bind (wpAny_field hos hds (x := .int (-1) u) rfl (wpAny_bind (wpAny_field hos hds (x := .none) rfl (wpAny_pure ?_)))))))
  refine wpAny_bind (slicePart_none ?_)
  show wpAny _ _ (if ((1 : Int) == 0) = true then _ else _) _ _ s
  rw [if_neg (by decide)]
  refine wpAny_bind (slicePart_none (wpAny_bind (slicePart_int (wpAny_bind (wpAny_pure ?_)))))
  show wpAny _ _ (match Builtin.Slice.sliceAdjust none (some (-1)) 1 (n : Int) with | (lo, hi) => pure (lo, (1 : Int), Builtin.Slice.slicePlaces lo hi 1)) _ _ s
  rw [adjust_to n hn]
  show wpAny _ _ (pure ((0 : Int), (1 : Int), Builtin.Slice.slicePlaces 0 ((n - 1 : Nat) : Int) 1)) _ _ s
  have e : Builtin.Slice.slicePlaces 0 ((n - 1 : Nat) : Int) 1 = n - 1 := by
    unfold Builtin.Slice.slicePlaces
    have h1 : (1 : Int) > 0 := by omega
    simp only [h1, if_true, Int.ediv_one]
    split <;> omega
  rw [e]
  exact wpAny_pure h
theorem pick_to (xs : Array Value) (m : Nat) : ((List.range m).filterMap fun (k : Nat) => xs[((0 : Int) + (k : Int) * 1).toNat]?).toArray = (xs.toList.take m).toArray := by
  have e : (fun (k : Nat) => xs[((0 : Int) + (k : Int) * 1).toNat]?) = fun k => xs[0 + k]? := by
    funext k
    have : ((0 : Int) + (k : Int) * 1).toNat = 0 + k := by omega
    rw [this]
  rw [e]
  have := pick_run xs 0 m
  rw [List.filterMap_map] at this
  have e2 : ((fun x => xs[x]?) ∘ fun x => 0 + x) = fun k => xs[0 + k]? := rfl
  rw [e2] at this
  rw [this]; rfl
/-- all but the last -/
theorem getItem_init {t sl : Addr} {items : Array Value} {u : Tok} {Q : Value → Shared → Prop} (ht : IsTup s.heap t items) (hs : s.heap.IsSliceOf sl .none (.int (-1) u) .none) (h1 : 1 ≤ items.size) (hsz : items.size ≤ sizeLine)
    (h : Q (.ref s.heap.objs.size) { s with heap := s.heap.push { cls := .type "tuple", data := .seq (items.toList.take (items.size - 1)).toArray } }) : wpAny (model prog w) A (getItem (.ref t) (.ref sl)) Q E s := by
  have hdrop : sizeOk (.seq (items.toList.take (items.size - 1)).toArray) := by
    show (items.toList.take (items.size - 1)).toArray.size ≤ sizeLine
    rw [List.size_toArray, List.length_take, Array.length_toList]
    omega
  obtain ⟨os, hos, hcs, hds⟩ := id hs
  have hTs : s.TypeIs (.ref sl) "slice" := ⟨os, hos, hcs⟩
  unfold getItem
  try with_reducible refine wpAny_holding ?_
  first | refine wpAny_bind (wpAny_pure ?_) | skip
  refine wpAny_bind (wpAny_sequenceKey ht.typeIs (by decide) ?_)
  refine wpAny_bind (wpAny_callSpecial?_slot (name := Str.ofString "__getitem__") ht.typeIs slot_tuple_getitem
    (wpAny_call_entry slot_tuple_getitem ht.typeIs entry_tuple_getitem ?_ (args_tuple_getitem _ _)))
  show wpAny _ _ (Builtin.Tuple.tupleItemsOf (.ref t) >>= _) _ _ s
  refine wpAny_bind (tupleItemsOf_ ht ?_)
  refine wpAny_bind (wpAny_typeOf hTs ?_)
  rw [if_pos (by decide)]
  refine wpAny_bind (sliceApplied_to hs h1 ?_)
  have hno : ¬ (((0 : Int) == 0 && (1 : Int) == 1 && (items.size - 1) == items.size) = true) := by
    have : ((items.size - 1) == items.size) = false := by rw [beq_eq_false_iff_ne]; omega
    rw [this]; simp
  show wpAny _ _ (if ((0 : Int) == 0 && (1 : Int) == 1 && (items.size - 1) == items.size) = true then _ else _) _ _ s
  rw [if_neg hno, pick_to items]
  first
    | exact wpAny_bind (m := Builtin.Tuple.tupleExact _) (wpAny_newObj_type (wpAny_pure ⟨_, rfl, wpAny_pure h⟩) hdrop)
    | exact wpAny_bind (m := Builtin.Tuple.tupleExact _) (wpAny_newObj_type (wpAny_bind (wpAny_pure (wpAny_pure ⟨_, rfl, wpAny_pure h⟩))) hdrop)
    | exact wpAny_bind (wpAny_bind (m := Builtin.Tuple.tupleExact _) (wpAny_newObj_type (wpAny_pure (wpAny_pure ⟨_, rfl, wpAny_pure h⟩)) hdrop))
    | exact wpAny_bind (wpAny_bind (m := Builtin.Tuple.tupleExact _) (wpAny_newObj_type (wpAny_pure ⟨_, rfl, wpAny_pure h⟩) hdrop))
theorem eval_init {x : Str} {xp p pos : Pos} {upper : Expr} {Q : Value → Shared → Prop}
    (h : wpAny (model prog w) A (eval (.Name x xp) env) (fun o s₁ => wpAny (model prog w) A (eval upper env) (fun vu s₂ => ∃ t items u, o = .ref t ∧ IsTup s₂.heap t items ∧ 1 ≤ items.size ∧ items.size ≤ sizeLine ∧ vu = .int (-1) u ∧
      ∀ D h', s₂.heap.objs.size ≤ D → D < h'.objs.size → Grow s₂.heap h' → IsTup h' D (items.toList.take (items.size - 1)).toArray → Q (.ref D) { s₂ with heap := h' }) E s₁) E s) :
    wpAny (model prog w) A (eval (.Subscript (.Name x xp) (.Slice none (some upper) none p) pos) env) Q E s := by
  refine wpAny_Subscript_Slice (T := "tuple") slot_tuple_getitem.lookup (wpAny_mono h (fun o s₁ h₁ => wpAny_Slice ?_) fun _ _ e => e)
  rw [evalPart_none]
  refine wpAny_pure (wpAny_mono h₁ (fun vu s₂ h₂ => ?_) fun _ _ e => e)
  obtain ⟨t, items, u, rfl, ht, h1, hsz, rfl, hq⟩ := h₂
  have ht' : IsTup (s₂.heap.push { cls := .type "slice", data := .fields #[.none, .int (-1) u, .none] }) t items := ht.keeps fun _ _ e => Heap.get?_push_of_some _ e
  refine wpAny_pure ⟨ht'.typeIs, getItem_init ht' (Heap.IsSliceOf.new ..) h1 hsz (hq _ _ ?_ ?_ ((Grow.push _ _).trans (Grow.push _ _)) ?_)⟩
  · show s₂.heap.objs.size ≤ (s₂.heap.push _).objs.size
    rw [Heap.size_push]; exact Nat.le_succ _
  · show (s₂.heap.push _).objs.size < ((s₂.heap.push _).push _).objs.size
    rw [Heap.size_push (h := s₂.heap.push _)]; exact Nat.lt_succ_self _
  · exact ⟨_, Heap.get?_push_size _ rfl, rfl, _, rfl⟩
end
section
variable {prog : Program} {w : World} {A : Around} {E : Value → Shared → Prop} {s : Shared} {env : Env}
/-- a method of the NestedDict, found -/
theorem meth_nest {x r f : Addr} {name : Str} {pl : Sem Bool} {Q : Value × List Value → Shared → Prop} (X : (hd.heap_39 w.params).In s.heap) (i : InstN s.heap x r)
    (hf : findIn (hd.heap_39 w.params) (.ref 46) name = some (some (.ref f))) (ht : typeIn (hd.heap_39 w.params) (.ref f) = some (.type "function")) (hn : name = PySem.Str.ofString "get_or_create_nest" ∨ name = PySem.Str.ofString "append_nest_to_list")
    (h : Q (.ref f, [.ref x]) s) : wpAny (model prog w) A (getMethod (.ref x) name pl) Q E s := by
  obtain ⟨dx, es, n, h1, h2, h3, h4, h5⟩ := i
  refine method_fn (od := some (dictOf es n)) X ⟨h1, rfl, rfl, h2⟩ rfl rfl hf ht ?_ h
  show (lookIn name (dictOf es n)).map (·.isSome) = some false
  rw [lookIn_dict]
  rcases hn with rfl | rfl
  · rw [h4]; rfl
  · rw [h5]; rfl
/-- such a method called -/
theorem call_nest {x r f : Addr} {name n : Str} {np apos pos : Pos} {e : Expr} {pl : Sem Bool} {Q : Value → Shared → Prop} (X : (hd.heap_39 w.params).In s.heap) (i : InstN s.heap x r)
    (hn : ∀ Q' : Value → Shared → Prop, Q' (.ref x) s → wpAny (model prog w) A (eval (.Name n np) env) Q' E s)
    (hf : findIn (hd.heap_39 w.params) (.ref 46) name = some (some (.ref f))) (ht : typeIn (hd.heap_39 w.params) (.ref f) = some (.type "function")) (hk : keepIn (hd.heap_39 w.params) (.ref f) = true)
    (hname : name = PySem.Str.ofString "get_or_create_nest" ∨ name = PySem.Str.ofString "append_nest_to_list")
    (h : wpAny (model prog w) A (eval e env) (fun v s₁ => (hd.heap_39 w.params).In s₁.heap ∧ wpAny (model prog w) A (call (.ref f) [.ref x, v]) Q E s₁) E s)
    (he : eval (.Call (.Attribute (.Name n np) name apos) [e] [] pos) env = (do
      let ov ← eval (.Name n np) env
      standAt apos.atName
      let (f, first) ← holding [ov] (getMethod ov name pl)
      callWith pos f first (backTo pos (starEach [e] env)) []) := by rfl)
    (hs : starEach [e] env = (false, eval e env) :: starEach [] env := by rfl) :
    wpAny (model prog w) A (eval (.Call (.Attribute (.Name n np) name apos) [e] [] pos) env) Q E s :=
  MethodCall_ (hn _ (meth_nest X i hf ht hname (callWith_K X hk (spliced_more (wpAny_mono h (fun _ _ z => spliced_none z) fun _ _ e => e) hs) hs (by rfl)))) he
/-- the same with the keyword -/
theorem call_nest_kw {x r : Addr} {n : Str} {np apos pos kp p2 : Pos} {e : Expr} {pl : Sem Bool} {Q : Value → Shared → Prop} (X : (hd.heap_39 w.params).In s.heap) (i : InstN s.heap x r)
    (hn : ∀ Q' : Value → Shared → Prop, Q' (.ref x) s → wpAny (model prog w) A (eval (.Name n np) env) Q' E s)
    (h : wpAny (model prog w) A (eval e env) (fun v s₁ => (hd.heap_39 w.params).In s₁.heap ∧ wpAny (model prog w) A (call (.ref 36) [.ref x, v] [(PySem.Str.ofString "access_lists", .bool false)]) Q E s₁) E s)
    (he : eval (.Call (.Attribute (.Name n np) (PySem.Str.ofString "get_or_create_nest") apos) [e] [⟨some (PySem.Str.ofString "access_lists"), .Constant (.bool false) 0 p2, kp⟩] pos) env = (do
      let ov ← eval (.Name n np) env
      standAt apos.atName
      let (f, first) ← holding [ov] (getMethod ov (PySem.Str.ofString "get_or_create_nest") pl)
      callWith pos f first (backTo pos (starEach [e] env)) (backToKw pos (keywordEach [⟨some (PySem.Str.ofString "access_lists"), .Constant (.bool false) 0 p2, kp⟩] env))) := by rfl)
    (hs : starEach [e] env = (false, eval e env) :: starEach [] env := by rfl) :
    wpAny (model prog w) A (eval (.Call (.Attribute (.Name n np) (PySem.Str.ofString "get_or_create_nest") apos) [e] [⟨some (PySem.Str.ofString "access_lists"), .Constant (.bool false) 0 p2, kp⟩] pos) env) Q E s := by
  refine methodCall_KW (hn _ (meth_nest X i (f := 36) rfl rfl (.inl rfl) (callWith_KW X rfl rfl (spliced_more (wpAny_mono h (fun v s₁ z => spliced_none ?_) fun _ _ e => e) hs) (by rw [hs]; rfl) hs))) he
  exact kwAll_cons (wpAny_Constant_bool (kwAll_nil z))
end
end Nest
namespace Nest
def otherNest : Str := PySem.Str.ofString "An object other than list found behind this key"
section
variable {prog : Program} {w : World} {mg mb : Str → Option Value} {h₀ : Heap} {G : GH} {ρ : Ix → Addr} {A : Around} {outer : List Env} {x : Addr}
set_option maxRecDepth 100000 in
set_option maxHeartbeats 2000000 in
theorem app_spec {init : List Nm} {k : Nm} {s : Shared} {E Q : Value → Shared → Prop} {ka : Addr} {vs : Array Value}
    (a : Amb prog w mg mb h₀ x A outer s.heap G ρ) (hh : A.handled = none) (hroom : A.depth + 1 < recursionLimit)
    (ht : s.heap.IsTuple ka vs) (hv : NmsAre vs.toList (init ++ [k])) (hsz : init.length ≤ 64) (hka : ka ∉ frs outer ∧ ¬ NA G ρ ka)
    (hok : ∀ G', appN G init k = .ok G' → ∀ h' tk' ρ', NestIn prog w h' G' ρ' → StepF (frs outer) s.heap G ρ h' G' ρ' → Q .none { s with heap := h', toks := tk' })
    (hother : ∀ G', appN G init k = .other G' → ∀ e h' tk' ρ', Boom prog w outer s.heap G ρ otherNest e h' G' ρ' → E (.ref e) { s with heap := h', toks := tk' })
    (hbad : appN G init k ≠ .bad) :
    wpAny (model prog w) A (call (.ref 43) [.ref x, .ref ka]) Q E s := by
  refine wpAny_call ?_
  refine' enterA (binds := [(PySem.Str.ofString "self", .ref x), (PySem.Str.ofString "key", .ref ka)]) a ?k1 ?k2 (by omega) ?k3 ?k4 ?_ ?c1 ?c2 ?c3 ?c4
  case k1 => exact rfl
  case k2 => exact rfl
  case k3 => exact BindsTo.of_eq rfl
  case k4 => exact locs rfl
  case c1 => exact rfl
  case c2 => exact rfl
  case c3 => exact rfl
  case c4 => decide
  intro L h₁ n1 G' hL am1
  dsimp only
  have hkaF : ka < s.heap.objs.size := by
    obtain ⟨o, ho, _⟩ := ht
    exact Heap.lt_size ho
  have hkaL : ka ≠ L := Nat.ne_of_lt (Nat.lt_of_lt_of_le hkaF hL)
  have ht1 : h₁.IsTuple ka vs := by
    obtain ⟨o, ho, hr⟩ := ht
    exact ⟨o, G'.keep _ _ ho, hr⟩
  have evs : vs.size = init.length + 1 := by rw [← Array.length_toList, hv.length]; simp
  refine wpAny_execs_cons (wpAny_Assign_Name (call_nest am1.now.X am1.self (fun Q' q => ld_ns n1 rfl q) (f := 36) rfl rfl rfl (.inl rfl) (eval_init (ld_ns n1 rfl (wpAny_UnaryOp (wpAny_Constant_int (P.neg_int ?_)))))))
  refine ⟨ka, vs, _, rfl, ht1, by omega, by rw [evs, sizeLine_eq]; omega, rfl, ?_⟩
  intro D h2 sD zD g2 tD
  (try dsimp only at sD); (try dsimp only at g2); (try dsimp only)
  have am2 := am1.grow g2
  have offD := am1.off sD
  refine ⟨am2.now.X, ?_⟩
  have hvi : NmsAre (vs.toList.take (vs.size - 1)) init := by
    have h1 := hv.take (vs.size - 1)
    have e2 : (init ++ [k]).take (vs.size - 1) = init := by rw [evs, Nat.add_sub_cancel, List.take_left']; rfl
    rwa [e2] at h1
  refine get_spec (acc := true) (names := init) am2 hh (by show A.depth + 1 < _; omega) tD (by simpa using hvi) offD ?_ ?_ ?_
  rotate_left
  · intro G2 hw
    exact absurd (by unfold appN; rw [hw]) hbad
  · intro hw
    exact absurd (by unfold appN; rw [hw]) hbad
  intro G2 i hw h3 tk3 ρ2 N3 hi st3
  have am3 := am2.step N3 st3
  have n3 := (st3.up L (am2.fna L (frs_self rfl))).ns (n1.keeps g2.keep)
  have sf3 : StepF (frs outer) s.heap G ρ h3 G2 ρ2 := ((StepF.ofGrow G').trans (StepF.ofGrow g2)).trans_in st3 rfl hL
  have hkaf := off_cons am1 rfl hkaL hka.1
  refine st_ns n3 rfl ?_
  intro h4 n4 hs4
  (try dsimp only at n4); (try dsimp only at hs4); (try dsimp only)
  have am4 := am3.store (frs_self rfl) hs4 n4
  have sf4 := sf3.store hL hs4
  have ht4 : IsTup h4 ka vs := by
    obtain ⟨o, ho, hr⟩ := ht1
    exact ⟨o, hs4.extBut _ _ hkaL ((st3.up ka hka.2).keep hkaf (g2.keep _ _ ho)), hr⟩
  obtain ⟨t, hlast⟩ : ∃ t, vs[init.length]? = some (.str k.str t) := by
    have hlt : init.length < vs.size := by omega
    obtain ⟨y, t, e1, e2⟩ := hv.get (i := init.length) (v := vs[init.length]) (by simp)
    simp at e1
    subst e1
    exact ⟨t, by rw [← e2]; simp [hlt]⟩
  have hidx : seqIndex? (-1) vs.size = some init.length := by
    rw [seqIndex_neg (by decide) (by omega), evs]
    congr 1
    omega
  refine wpAny_execs_cons (wpAny_Assign_Name (PySem.Subscript_UnaryOp (ld_ns n4 rfl (wpAny_UnaryOp (wpAny_Constant_int (P.neg_int ⟨"tuple", _, slot_tuple_getitem.lookup, ht4.typeIs, PyProof.Rows.getItem_tuple ht4 (by decide) (by decide) hidx hlast ?_⟩))))))
  refine st_ns n4 rfl ?_
  intro h5 n5 hs5
  (try dsimp only at n5); (try dsimp only at hs5); (try dsimp only)
  have am5 := am4.store (frs_self rfl) hs5 n5
  have sf5 := sf4.store hL hs5
  cases hg : G2.get i with
  | none => rw [hg] at hi; cases hi
  | some oc =>
  cases oc with
  | list xs => exact absurd (by unfold appN; simp only [hw, hg]) hbad
  | dict es =>
  obtain ⟨kvs, D5, E5, l5⟩ := am5.nest.obj i _ hg
  have hsys := am5.nest.sys hi
  refine wpAny_execs_cons (wpAny_If (wpAny_isTrue_Compare1 (ld_ns n5 rfl (ld_ns n5 rfl (wpAny_in_of (strKind_is _ _ _ _) hsys D5.mapOf (wpAny_truthy_bool ?_))))))
  rcases E5.valueAt k with ⟨q1, q2⟩ | ⟨gv, v, q1, q2, q3⟩
  · rw [q2]
    (try dsimp only)
    refine ite_B (fun e => Bool.noConfusion e) fun _ => ?_
    have hfew : few 8 es = true := by
      cases hf : few 8 es with
      | true => rfl
      | false => exact absurd (by unfold appN; simp only [hw, hg, q1, hf]) hbad
    have happ : appN G init k = .ok (((G2.new (.dict [])).new (.list [.ref G2.n])).set i (.dict (es ++ [(k, .ref (G2.new (.dict [])).n)]))) := by
      unfold appN; simp only [hw, hg, q1, hfew]
    refine wpAny_execs_cons (wpAny_Assign_Subscript (eval_list1 (wpAny_Dict_empty ?_)))
    intro l6 h6 sl6 zl6 g6 p6
    dsimp only at sl6 g6 ⊢
    have g4 : Grow h5 (h5.push { cls := .type "dict", data := .dict #[] }) := Grow.push _ _
    have hD3 : 3 < h5.objs.size := am5.now.g.lt
    have N6 := am5.nest.new (y := .dict []) g4 (Nat.le_refl _) hD3 ⟨[], Heap.DictOf.new (knd := strKind prog w) h5, .nil, Nat.zero_le _⟩
    have S6 := am5.nest.step_new g4 (Nat.le_refl h5.objs.size) (.dict [])
    have hself : GVIs (G2.new (.dict [])) (put ρ2 G2.n h5.objs.size) (.ref G2.n) (.ref h5.objs.size) := ⟨by rw [put_self], by rw [GH.get_new_self]; rfl⟩
    have hx7 := N6.ext_new (.list [.ref G2.n]) l6
    have N7 := N6.new (y := .list [.ref G2.n]) g6 sl6 (Nat.lt_of_lt_of_le hD3 (Nat.le_trans g4.size sl6)) ⟨_, p6, .cons (hself.ext hx7) .nil, show 1 ≤ 64 by decide⟩
    have S7 := N6.step_new g6 sl6 (.list [.ref G2.n])
    have n6 := n5.keeps (g4.trans g6).keep
    have D6 := D5.keep (g4.trans g6).keep
    have S67 := S6.trans S7
    have hρi := (S67.ext i hi).2
    have hi7 := (S67.ext i hi).1
    refine ld_ns n6 rfl (ld_ns n6 rfl (wpAny_setItem_pairs (strKind_is _ _ _ _) D6 (fun h8 D8 hs8 => ?_) (by rw [E5.length, sizeLine_eq]; omega)))
    dsimp only at D8 hs8 ⊢
    rw [valueAt_none q2] at D8
    rw [← hρi] at D8 hs8
    have hx8 := S67.ext.trans (Ext.set (ρ := put (put ρ2 G2.n h5.objs.size) (G2.new (.dict [])).n l6) (.dict (es ++ [(k, .ref (G2.new (.dict [])).n)])) hi7)
    have hgv : GVIs (((G2.new (.dict [])).new (.list [.ref G2.n])).set i (.dict (es ++ [(k, .ref (G2.new (.dict [])).n)]))) (put (put ρ2 G2.n h5.objs.size) (G2.new (.dict [])).n l6) (.ref (G2.new (.dict [])).n) (.ref l6) :=
      ⟨by rw [put_self], by rw [GH.some_set _ _ hi7, GH.get_new_self]; rfl⟩
    have N8 := N7.set hi7 hs8 (y := .dict (es ++ [(k, .ref (G2.new (.dict [])).n)])) ⟨_, D8, (E5.ext hx8).append (.cons hgv .nil), by
      have := few_iff 8 es hfew
      rw [List.length_append]; simp only [List.length_cons, List.length_nil]; omega⟩
    have S8 := S67.trans (NestIn.step_set hi7 hs8 (.dict (es ++ [(k, .ref (G2.new (.dict [])).n)])))
    refine wpAny_execs_nil (wpAny_execs_nil ?_)
    exact hok _ happ h8 _ _ N8 (sf5.trans S8.toF)
  · rw [q2]
    (try dsimp only)
    refine ite_B (fun _ => ?_) (fun e => Bool.noConfusion e)
    refine wpAny_execs_cons (wpAny_Assign_Name (wpAny_Subscript_Name_late (ld_ns n5 rfl (ld_ns n5 rfl ⟨"dict", _, slot_dict_getitem.lookup, D5.typeIs, wpAny_getItem_of (strKind_is _ _ _ _) D5.mapOf q2 ?_⟩))))
    refine st_ns n5 rfl ?_
    intro h6 n6 hs6
    (try dsimp only at n6); (try dsimp only at hs6); (try dsimp only)
    have am6 := am5.store (frs_self rfl) hs6 n6
    have sf6 := sf5.store hL hs6
    refine wpAny_execs_cons (wpAny_If (wpAny_mono (Q := fun b s' => (∃ tk, s' = { s with heap := h6, toks := tk }) ∧ ((b = true ∧ appN G init k = .other G2) ∨ (b = false ∧ ∃ j xs, gv = .ref j ∧ G2.get j = some (.list xs) ∧ v = .ref (ρ2 j)))) ?_ (fun b s' hq => ?_) (fun _ _ e => e)))
    · refine wpAny_isTrue_Not (wpAny_isTrue_value (call2_builtin (fun Q' q => nm_bi am6.now rfl boot_isinstance q rfl rfl rfl rfl rfl (by decide)) (ld_ns n6 rfl (nm_bi am6.now rfl boot_list ?_ rfl rfl rfl rfl rfl (by decide)))))
      cases gv with
      | int n' =>
        obtain ⟨t', rfl⟩ := q3
        exact IsiPair.int_list (wpAny_truthy_bool ⟨⟨_, rfl⟩, .inl ⟨rfl, by unfold appN; simp only [hw, hg, q1]⟩⟩)
      | ref j =>
        obtain ⟨rfl, hj⟩ := q3
        rcases hgj : G2.get j with _ | o
        · rw [hgj] at hj; cases hj
        · cases o with
          | dict es' =>
            obtain ⟨kvs', D', _⟩ := am6.nest.obj j _ hgj
            obtain ⟨o, ho, hc⟩ := lt_dict D'
            exact IsiPair.dict_list ho hc (wpAny_truthy_bool ⟨⟨_, rfl⟩, .inl ⟨rfl, by unfold appN; simp only [hw, hg, q1, hgj]⟩⟩)
          | list xs =>
            obtain ⟨vs', ⟨n0, ho⟩, X', l'⟩ := am6.nest.obj j _ hgj
            exact IsiPair.list_list ho rfl (wpAny_truthy_bool ⟨⟨_, rfl⟩, .inr ⟨rfl, j, xs, rfl, hgj, rfl⟩⟩)
    · obtain ⟨⟨tk7, rfl⟩, hq⟩ := hq
      rcases hq with ⟨rfl, happ⟩ | ⟨rfl, j, xs, rfl, hgj, rfl⟩
      · refine ite_B (fun _ => ?_) (fun e => Bool.noConfusion e)
        refine wpAny_execs_cons (wpAny_Raise_made key_raise hh (call1_type (fun Q' q => nm_bi am6.now rfl boot_key q rfl rfl rfl rfl rfl (by decide)) (wpAny_Constant_str (call_made excClass_KeyError (show 1 ≤ sizeLine by rw [sizeLine_eq]; decide) fun h8 e hx he => ?_))))
        dsimp only at hx he
        obtain ⟨t8, ht8, _⟩ := id hx.there
        refine ⟨e, t8, rfl, ht8, ?_⟩
        exact leave_boom am6 sf6 hx he rfl hL (fun h9 B => hother G2 happ e h9 _ ρ2 B)
      · refine ite_B (fun e => Bool.noConfusion e) fun _ => wpAny_execs_nil ?_
        (try dsimp only)
        have hj : (G2.get j).isSome = true := by rw [hgj]; rfl
        have hfew : few 64 xs = true := by
          cases hf : few 64 xs with
          | true => rfl
          | false => exact absurd (by unfold appN; simp only [hw, hg, q1, hgj, hf]) hbad
        have happ : appN G init k = .ok ((G2.new (.dict [])).set j (.list (xs ++ [.ref G2.n]))) := by
          unfold appN; simp only [hw, hg, q1, hgj, hfew]
        obtain ⟨vs', pl6, X6, l6⟩ := am6.nest.obj j _ hgj
        have g7 : Grow h6 (h6.push { cls := .type "dict", data := .dict #[] }) := Grow.push _ _
        have N7 := am6.nest.new (y := .dict []) g7 (Nat.le_refl _) am6.now.g.lt ⟨[], Heap.DictOf.new (knd := strKind prog w) h6, .nil, Nat.zero_le _⟩
        have S7 := am6.nest.step_new g7 (Nat.le_refl h6.objs.size) (.dict [])
        have hj7 := (S7.ext j hj).1
        have hρj := (S7.ext j hj).2
        refine wpAny_execs_cons (wpAny_Expr_any (append_expr (fun Q' q => ld_ns n6 rfl q) pl6 (wpAny_Dict_empty ?_) rfl rfl rfl))
        dsimp only
        refine ⟨vs', g7.list pl6, by
          have := X6.length
          rw [Array.length_toList] at this
          rw [this, sizeLine_eq]; omega, fun h8 p8 hs8 => ?_⟩
        (try dsimp only at hs8); (try dsimp only)
        rw [← hρj] at p8 hs8
        have hgv : GVIs ((G2.new (.dict [])).set j (.list (xs ++ [.ref G2.n]))) (put ρ2 G2.n h6.objs.size) (.ref G2.n) (.ref h6.objs.size) :=
          ⟨by rw [put_self], by rw [GH.some_set _ _ hj7, GH.get_new_self]; rfl⟩
        have hx8 := S7.ext.trans (Ext.set (ρ := put ρ2 G2.n h6.objs.size) (.list (xs ++ [.ref G2.n])) hj7)
        have N8 := N7.set hj7 hs8 (y := .list (xs ++ [.ref G2.n])) ⟨_, p8, by rw [Array.toList_push]; exact (X6.ext hx8).append (.cons hgv .nil), by
          have := few_iff 64 xs hfew
          rw [List.length_append]; simp only [List.length_cons, List.length_nil]; omega⟩
        have S8 := S7.trans (NestIn.step_set hj7 hs8 (.list (xs ++ [.ref G2.n])))
        refine wpAny_execs_nil (wpAny_execs_nil ?_)
        exact hok _ happ h8 _ _ N8 (sf6.trans S8.toF)
end
end Nest
namespace Nest
theorem boot_str : bootBuiltins (PySem.Str.ofString "str") = some (.type "str") := by decide +kernel
/-- a call that must be refused -/
inductive Refuse (G : GH) : Int → List Nm → Str → GH → Prop
  | zero {names : List Nm} {G' : GH} : walkN false names G .one = .key G' → Refuse G 0 names noNest G'
  | one {names : List Nm} {G' : GH} : walkN true names G .one = .key G' → Refuse G 1 names noNest G'
  | two {init : List Nm} {k : Nm} {G' : GH} : appN G init k = .other G' → Refuse G 2 (init ++ [k]) otherNest G'
theorem msg_fits {G G' : GH} {kd : Int} {names : List Nm} {msg : Str} (r : Refuse G kd names msg G') : (reprText msg).length ≤ sizeLine := by
  rw [sizeLine_eq]
  cases r <;> decide +kernel
abbrev Amb.boom {prog : Program} {w : World} {mg mb : Str → Option Value} {h₀ : Heap} {x : Addr} {A : Around} {outer : List Env} {h : Heap} {G : GH} {ρ : Ix → Addr} (_ : Amb prog w mg mb h₀ x A outer h G ρ) (msg : Str) (e : Addr) (h' : Heap) (G' : GH) (ρ' : Ix → Addr) : Prop := Boom prog w outer h G ρ msg e h' G' ρ'
section
variable {prog : Program} {w : World} {mg mb : Str → Option Value} {h₀ : Heap} {G : GH} {ρ : Ix → Addr} {A : Around} {outer : List Env} {x : Addr}
set_option maxRecDepth 100000 in
set_option maxHeartbeats 2000000 in
theorem ref_spec {kd : Int} {tk : Tok} {names : List Nm} {msg : Str} {G' : GH} {s : Shared} {E Q : Value → Shared → Prop} {ka : Addr} {vs : Array Value}
    (a : Amb prog w mg mb h₀ x A outer s.heap G ρ) (hh : A.handled = none) (hroom : A.depth + 2 < recursionLimit) (hu : A.units + 40 < cLine)
    (ht : s.heap.IsTuple ka vs) (hv : NmsAre vs.toList names) (hsz : names.length ≤ 64) (hka : ka ∉ frs outer ∧ ¬ NA G ρ ka) (hr : Refuse G kd names msg G')
    (hok : ∀ h' tk' t ρ', NestIn prog w h' G' ρ' → StepF (frs outer) s.heap G ρ h' G' ρ' → Q (.str (reprText msg) t) { s with heap := h', toks := tk' }) :
    wpAny (model prog w) A (call (.ref 57) [.ref x, .int kd tk, .ref ka]) Q E s := by
  refine wpAny_call ?_
  refine' enterA (binds := [(PySem.Str.ofString "nest", .ref x), (PySem.Str.ofString "kind", .int kd tk), (PySem.Str.ofString "key", .ref ka)]) a ?k1 ?k2 (by omega) ?k3 ?k4 ?_ ?c1 ?c2 ?c3 ?c4
  case k1 => exact rfl
  case k2 => exact rfl
  case k3 => exact BindsTo.of_eq rfl
  case k4 => exact locs rfl
  case c1 => exact rfl
  case c2 => exact rfl
  case c3 => exact rfl
  case c4 => decide
  intro L h₁ n1 g1 hL am1
  dsimp only
  have hkaF : ka < s.heap.objs.size := by
    obtain ⟨o, ho, _⟩ := ht
    exact Heap.lt_size ho
  have hkaL : ka ≠ L := Nat.ne_of_lt (Nat.lt_of_lt_of_le hkaF hL)
  have ht1 : h₁.IsTuple ka vs := by
    obtain ⟨o, ho, hr⟩ := ht
    exact ⟨o, g1.keep _ _ ho, hr⟩
  have hkaf := off_cons am1 rfl hkaL hka.1
  have sf1 : StepF (frs outer) s.heap G ρ h₁ G ρ := StepF.ofGrow g1
  refine wpAny_execs_cons (wpAny_Try_except (wpAny_mono (Q := fun _ _ => False) (E := fun e s' => ∃ e' h' tk' ρ', e = .ref e' ∧ s' = { s with heap := h', toks := tk' } ∧ am1.boom msg e' h' G' ρ') ?body (fun _ _ q => q.elim) (fun e s' hq => ?_)))
  case body =>
    cases hr with
    | zero hw =>
      refine wpAny_execs_cons (wpAny_If (wpAny_isTrue_Compare1 (ld_ns n1 rfl (wpAny_Constant_int (P.eq_int (wpAny_truthy_bool ?_))))))
      (try dsimp only)
      refine ite_B (fun _ => ?_) (fun e => absurd e (by decide))
      refine wpAny_execs_cons (wpAny_Expr_any (call_nest_kw am1.now.X am1.self (fun Q' q => ld_ns n1 rfl q) (ld_ns n1 rfl ⟨am1.now.X, ?_⟩)))
      refine get_spec (acc := false) (names := names) am1 hh (by show A.depth + 1 < _; omega) ht1 hv ⟨hkaf, hka.2⟩ ?_ ?_ ?_
      · intro G2 i e; rw [hw] at e; cases e
      · intro G2 e e' h' tk' ρ' b
        rw [hw] at e; cases e
        exact ⟨e', h', tk', ρ', rfl, rfl, b⟩
      · rw [hw]; intro e; cases e
    | one hw =>
      refine wpAny_execs_cons (wpAny_If (wpAny_isTrue_Compare1 (ld_ns n1 rfl (wpAny_Constant_int (P.eq_int (wpAny_truthy_bool ?_))))))
      (try dsimp only)
      refine ite_B (fun e => absurd e (by decide)) (fun _ => ?_)
      refine wpAny_execs_cons (wpAny_If (wpAny_isTrue_Compare1 (ld_ns n1 rfl (wpAny_Constant_int (P.eq_int (wpAny_truthy_bool ?_))))))
      (try dsimp only)
      refine ite_B (fun _ => ?_) (fun e => absurd e (by decide))
      refine wpAny_execs_cons (wpAny_Expr_any (call_nest am1.now.X am1.self (fun Q' q => ld_ns n1 rfl q) (f := 36) rfl rfl rfl (.inl rfl) (ld_ns n1 rfl ⟨am1.now.X, ?_⟩)))
      refine get_spec (acc := true) (names := names) am1 hh (by show A.depth + 1 < _; omega) ht1 hv ⟨hkaf, hka.2⟩ ?_ ?_ ?_
      · intro G2 i e; rw [hw] at e; cases e
      · intro G2 e e' h' tk' ρ' b
        rw [hw] at e; cases e
        exact ⟨e', h', tk', ρ', rfl, rfl, b⟩
      · rw [hw]; intro e; cases e
    | two hw =>
      refine wpAny_execs_cons (wpAny_If (wpAny_isTrue_Compare1 (ld_ns n1 rfl (wpAny_Constant_int (P.eq_int (wpAny_truthy_bool ?_))))))
      (try dsimp only)
      refine ite_B (fun e => absurd e (by decide)) (fun _ => ?_)
      refine wpAny_execs_cons (wpAny_If (wpAny_isTrue_Compare1 (ld_ns n1 rfl (wpAny_Constant_int (P.eq_int (wpAny_truthy_bool ?_))))))
      (try dsimp only)
      refine ite_B (fun e => absurd e (by decide)) (fun _ => ?_)
      refine wpAny_execs_cons (wpAny_Expr_any (call_nest am1.now.X am1.self (fun Q' q => ld_ns n1 rfl q) (f := 43) rfl rfl rfl (.inr rfl) (ld_ns n1 rfl ⟨am1.now.X, ?_⟩)))
      refine app_spec am1 hh (by show A.depth + 1 + 1 < _; omega) ht1 hv (by rw [List.length_append] at hsz; omega) ⟨hkaf, hka.2⟩ ?_ ?_ ?_
      · intro G2 e; rw [hw] at e; cases e
      · intro G2 e e' h' tk' ρ' b
        rw [hw] at e; cases e
        exact ⟨e', h', tk', ρ', rfl, rfl, b⟩
      · rw [hw]; intro e; cases e
  · obtain ⟨e', h', tk', ρ', rfl, rfl, b⟩ := hq
    refine caught_boom am1 n1 rfl b rfl rfl rfl ?_
    intro h7 t tk7 tk8 am7 st7 n7 x7 t7
    (try dsimp only at n7); (try dsimp only)
    have sf7 := st7 s.heap G ρ sf1 hL
    refine wpAny_execs_cons (wpAny_Return_some (call1_type (fun Q' q => nm_bi am7.now rfl boot_str q rfl rfl rfl rfl rfl (by decide)) (ld_ns n7 rfl ?_)))
    refine str_key (by show A.units + 3 + 2 < _; omega) x7 t7 (msg_fits hr) ?_
    dsimp only
    refine wpAny_nameGoes_keeps rfl n7 rfl ?_
    intro h8 v8 n8 hs8
    dsimp only at hs8 ⊢
    exact hok h8 _ _ ρ' (am7.store (frs_self rfl) hs8 n8).nest (sf7.store hL hs8)
end
end Nest
namespace Nest
section
variable {prog : Program} {w : World} {A : Around} {E : Value → Shared → Prop} {s : Shared} {env : Env}
theorem boot_tuple : bootBuiltins (PySem.Str.ofString "tuple") = some (.type "tuple") := by decide +kernel
theorem boot_repr : bootBuiltins (PySem.Str.ofString "repr") = some (.builtin "repr") := by decide +kernel
/-- tuple(x[lo:up]) -/
theorem call_tup_slice {x : Str} {fp xp pos : Pos} {lower upper : Option Expr} {p p2 : Pos} {Q : Value → Shared → Prop}
    (hn : ∀ Q' : Value → Shared → Prop, Q' (.type "tuple") s → wpAny (model prog w) A (eval (.Name (PySem.Str.ofString "tuple") fp) env) Q' E s)
    (h : wpAny (model prog w) A (eval (.Name x xp) env) (fun o s₁ => wpAny (model prog w) A (evalPart lower env) (fun vl s₂ => wpAny (model prog w) A (evalPart upper env) (fun vu s₃ =>
      ∃ l items lo hi, o = .ref l ∧ s₃.heap.IsList l items ∧ items.size ≤ sizeLine ∧ IsPart vl lo ∧ IsPart vu hi ∧
        ∀ D h', s₃.heap.objs.size ≤ D → D < h'.objs.size → Grow s₃.heap h' → IsTup h' D (slicePick items lo hi none) → Q (.ref D) { s₃ with heap := h' }) E s₂) E s₁) E s)
    (he : starEach [.Subscript (.Name x xp) (.Slice lower upper none p) p2] env = (false, eval (.Subscript (.Name x xp) (.Slice lower upper none p) p2) env) :: starEach [] env := by rfl) :
    wpAny (model prog w) A (eval (.Call (.Name (PySem.Str.ofString "tuple") fp) [.Subscript (.Name x xp) (.Slice lower upper none p) p2] [] pos) env) Q E s := by
  refine call1_type hn (wpAny_Subscript_list_slice (wpAny_mono h (fun o s₁ h₁ => wpAny_mono h₁ (fun vl s₂ h₂ => wpAny_mono h₂ (fun vu s₃ h₃ => ?_) fun _ _ e => e) fun _ _ e => e) fun _ _ e => e)) he
  obtain ⟨l, items, lo, hi, rfl, hl, hsz, pl, pu, hQ⟩ := h₃
  refine ⟨l, items, lo, hi, rfl, hl, hsz, pl, pu, ?_⟩
  have g2 := (Grow.push s₃.heap { cls := .type "slice", data := .fields #[vl, vu, .none] }).trans (Grow.push _ { cls := .type "list", data := .seq (slicePick items lo hi none) })
  have pk : ((s₃.heap.push { cls := .type "slice", data := .fields #[vl, vu, .none] }).push { cls := .type "list", data := .seq (slicePick items lo hi none) }).IsList (s₃.heap.objs.size + 1) (slicePick items lo hi none) := by
    have := (PlainList.push (s₃.heap.push { cls := .type "slice", data := .fields #[vl, vu, .none] }) (slicePick items lo hi none)).isList
    rwa [Heap.size_push] at this
  refine call_tuple_list pk (fun h' hk => ?_) (Nat.le_trans (slicePick_size_le items lo hi none) hsz)
  have hs' : s₃.heap.objs.size + 1 < h'.objs.size := by
    obtain ⟨o, ho, _⟩ := pk
    exact Heap.lt_size (hk _ _ ho)
  refine hQ _ _ (by omega) (by rw [Heap.size_push]; exact Nat.lt_succ_self _) ⟨by rw [Heap.size_push]; omega, fun b o e => Heap.get?_push_of_some _ (hk b o (g2.keep b o e))⟩ ⟨_, Heap.get?_push_size _ rfl, rfl, _, rfl⟩
theorem new_tup {vs : List Value} {Q : Value → Shared → Prop}
    (h : ∀ a h', s.heap.objs.size ≤ a → a < h'.objs.size → Grow s.heap h' → IsTup h' a vs.toArray → Q (.ref a) { s with heap := h' }) :
    Q (.ref s.heap.objs.size) { s with heap := s.heap.push { cls := .type "tuple", data := .seq vs.toArray } } :=
  h _ _ (Nat.le_refl _) (by rw [Heap.size_push]; exact Nat.lt_succ_self _) (.push _ _) ⟨_, Heap.get?_push_size _ rfl, rfl, _, rfl⟩
theorem eval_tup1 {e : Expr} {k : Nat} {pos : Pos} {Q : Value → Shared → Prop}
    (h : wpAny (model prog w) A (eval e env) (fun v s₁ => ∀ a h', s₁.heap.objs.size ≤ a → a < h'.objs.size → Grow s₁.heap h' → IsTup h' a #[v] → Q (.ref a) { s₁ with heap := h' }) E s)
    (he : starEach [e] env = (false, eval e env) :: starEach [] env := by rfl) :
    wpAny (model prog w) A (eval (.Tuple [e] k pos) env) Q E s :=
  wpAny_Tuple (spliced_more (wpAny_mono h (fun v s₁ h₁ => spliced_none ⟨show 1 ≤ sizeLine by rw [sizeLine_eq]; decide, new_tup h₁⟩) fun _ _ e => e) he)
theorem eval_tup2 {e f : Expr} {k : Nat} {pos : Pos} {Q : Value → Shared → Prop}
    (h : wpAny (model prog w) A (eval e env) (fun v s₁ => wpAny (model prog w) A (eval f env) (fun u s₂ => ∀ a h', s₂.heap.objs.size ≤ a → a < h'.objs.size → Grow s₂.heap h' → IsTup h' a #[v, u] → Q (.ref a) { s₂ with heap := h' }) E s₁) E s)
    (he : starEach [e, f] env = (false, eval e env) :: starEach [f] env := by rfl) (hf : starEach [f] env = (false, eval f env) :: starEach [] env := by rfl) :
    wpAny (model prog w) A (eval (.Tuple [e, f] k pos) env) Q E s :=
  wpAny_Tuple (spliced_more (wpAny_mono h (fun v s₁ h₁ => spliced_more (wpAny_mono h₁ (fun u s₂ h₂ => spliced_none ⟨show 2 ≤ sizeLine by rw [sizeLine_eq]; decide, new_tup h₂⟩) fun _ _ e => e) hf) fun _ _ e => e) he)
theorem eval_tup3 {e f g : Expr} {k : Nat} {pos : Pos} {Q : Value → Shared → Prop}
    (h : wpAny (model prog w) A (eval e env) (fun v s₁ => wpAny (model prog w) A (eval f env) (fun u s₂ => wpAny (model prog w) A (eval g env) (fun z s₃ => ∀ a h', s₃.heap.objs.size ≤ a → a < h'.objs.size → Grow s₃.heap h' → IsTup h' a #[v, u, z] → Q (.ref a) { s₃ with heap := h' }) E s₂) E s₁) E s)
    (he : starEach [e, f, g] env = (false, eval e env) :: starEach [f, g] env := by rfl) (hf : starEach [f, g] env = (false, eval f env) :: starEach [g] env := by rfl) (hg : starEach [g] env = (false, eval g env) :: starEach [] env := by rfl) :
    wpAny (model prog w) A (eval (.Tuple [e, f, g] k pos) env) Q E s :=
  wpAny_Tuple (spliced_more (wpAny_mono h (fun v s₁ h₁ => spliced_more (wpAny_mono h₁ (fun u s₂ h₂ => spliced_more (wpAny_mono h₂ (fun z s₃ h₃ => spliced_none ⟨show 3 ≤ sizeLine by rw [sizeLine_eq]; decide, new_tup h₃⟩) fun _ _ e => e) hg) fun _ _ e => e) hf) fun _ _ e => e) he)
/-- tuples laid together -/
theorem add_tup {t b : Addr} {xs ys : Array Value} {Q : Value → Shared → Prop} (ht : IsTup s.heap t xs) (hb : IsTup s.heap b ys) (h1 : 0 < xs.size) (hsz : xs.size + ys.size ≤ sizeLine)
    (h : ∀ D h', Grow s.heap h' → IsTup h' D (xs ++ ys) → (s.heap.objs.size ≤ D ∨ D = t) → Q (.ref D) { s with heap := h' }) :
    wpAny (model prog w) A (binaryOp .Add (.ref t) (.ref b)) Q E s := by
  obtain ⟨⟨cls, dd, data, sl⟩, ho, hc, n, hd⟩ := id ht
  obtain ⟨⟨cls2, dd2, data2, sl2⟩, ho2, hc2, n2, hd2⟩ := id hb
  simp only at hc hd hc2 hd2
  subst hc hd hc2 hd2
  have h1' : ¬ xs.isEmpty = true := fun e => by
    have e1 : xs = #[] := by simpa using e
    rw [e1] at h1; exact Nat.lt_irrefl _ h1
  by_cases h2 : ys.isEmpty = true
  · refine concat_meets ⟨_, ho, rfl⟩ ⟨_, ho2, rfl⟩ noFill_tuple_add seq_tuple_add PySem.F.slot_tuple_add PySem.F.entry_tuple_add (PySem.F.args_tuple_add_2 _ _) (tuple_addW1 t b xs ys n n2 dd dd2 sl sl2 h1' h2) ⟨ho, ho2, ?_⟩
    have e : xs ++ ys = xs := by
      have : ys = #[] := by simpa using h2
      rw [this, Array.append_empty]
    exact h t s.heap ⟨Nat.le_refl _, fun _ _ e => e⟩ (by rw [e]; exact ht) (.inr rfl)
  · refine concat_meets ⟨_, ho, rfl⟩ ⟨_, ho2, rfl⟩ noFill_tuple_add seq_tuple_add PySem.F.slot_tuple_add PySem.F.entry_tuple_add (PySem.F.args_tuple_add_2 _ _) (tuple_addW2 t b xs ys n n2 dd dd2 sl sl2 h1' h2 hsz) ⟨ho, ho2, ?_⟩
    exact h _ _ (.push _ _) ⟨_, Heap.get?_push_size _ rfl, rfl, _, rfl⟩ (.inl (Nat.le_refl _))
/-- lists of texts, alike -/
theorem eq_str3 {a b : Addr} {x y z : Str} {t1 t2 t3 u1 u2 u3 : Tok} {Q : Value → Shared → Prop} (ha : s.heap.PlainList a #[.str x t1, .str y t2, .str z t3]) (hb : s.heap.PlainList b #[.str x u1, .str y u2, .str z u3])
    (hok : SeqAt.shaped (.list [.str x, .str y, .str z]) = true) (heq : PyData.eqv (.list [.str x, .str y, .str z]) (.list [.str x, .str y, .str z]) = true) (hu : A.units + 64 < cLine)
    (h : Q (.bool true) s) : wpAny (model prog w) A (compareOp .Eq (.ref a) (.ref b)) Q E s := by
  obtain ⟨o, ho, hc, n, hd⟩ := ha.isList
  obtain ⟨o2, ho2, hc2, n2, hd2⟩ := hb.isList
  refine SeqAt.compareEq_shaped (Reads.list ho hc hd (ReadsAll.cons (.str x t1) (ReadsAll.cons (.str y t2) (ReadsAll.cons (.str z t3) .nil)))) (Reads.list ho2 hc2 hd2 (ReadsAll.cons (.str x u1) (ReadsAll.cons (.str y u2) (ReadsAll.cons (.str z u3) .nil)))) hok hok hu ?_
  rw [heq]; exact h
/-- a dict against an empty one -/
theorem ne_dict0 {a b : Addr} {ka : List (Str × Value)} {Q : Value → Shared → Prop} (ha : (a == sysModules) = false) (hb : (b == sysModules) = false) (da : s.heap.DictOf (PySem.strKind prog w) a ka) (db : s.heap.DictOf (PySem.strKind prog w) b [])
    (hu : A.units < cLine) (he : ka = []) (h : Q (.bool false) s) : wpAny (model prog w) A (compareOp .NotEq (.ref a) (.ref b)) Q E s := by
  subst he
  exact keq_ne ha hb da db hu (r := true) (fun _ => .nil) h
theorem ne_dict1 {a b : Addr} {k : Str} {i : Int} {t u : Tok} {Q : Value → Shared → Prop} (ha : (a == sysModules) = false) (hb : (b == sysModules) = false) (da : s.heap.DictOf (PySem.strKind prog w) a [(k, .int i t)]) (db : s.heap.DictOf (PySem.strKind prog w) b [(k, .int i u)])
    (hu : A.units + 70 < cLine) (h : Q (.bool false) s) : wpAny (model prog w) A (compareOp .NotEq (.ref a) (.ref b)) Q E s := by
  have e : SeqAt.EqAt A.in1 s (.int i t) (.int i u) (PyData.eqv (.int i) (.int i)) := keq_at (.int i t) (.int i u) rfl rfl (by show A.units + 1 + 64 < _; omega)
  have e2 : PyData.eqv (.int i) (.int i) = true := by simp [PyData.eqv]
  rw [e2] at e
  exact keq_ne ha hb da db (by omega) (r := true && true) (fun _ => .hit (y := .int i u) (by simp [valueAt]) e .nil) h
theorem ne_pair {a b : Addr} {ka : List (Str × Value)} {k : Str} {i : Int} {Q : Value → Shared → Prop} (ha : (a == sysModules) = false) (hb : (b == sysModules) = false) (da : s.heap.DictOf (PySem.strKind prog w) a ka)
    (hcase : (ka = [] ∧ s.heap.DictOf (PySem.strKind prog w) b []) ∨ (∃ t u, ka = [(k, .int i t)] ∧ s.heap.DictOf (PySem.strKind prog w) b [(k, .int i u)])) (hu : A.units + 70 < cLine) (h : Q (.bool false) s) :
    wpAny (model prog w) A (compareOp .NotEq (.ref a) (.ref b)) Q E s := by
  rcases hcase with ⟨rfl, d⟩ | ⟨t, u, rfl, d⟩
  · exact ne_dict0 ha hb da d (by omega) rfl h
  · exact ne_dict1 ha hb da d hu h
/-- {'k': v} -/
theorem eval_dict1 {k : Str} {kd : Nat} {kp pos : Pos} {v : Expr} {Q : Value → Shared → Prop} {vv : Value} (hv : ∀ (s' : Shared) (Q' : Value → Shared → Prop), Grow s.heap s'.heap → Q' vv s' → wpAny (model prog w) A (eval v env) Q' E s')
    (h : ∀ D h' tk', s.heap.objs.size ≤ D → D < h'.objs.size → Grow s.heap h' → h'.DictOf (PySem.strKind prog w) D [(k, vv)] → Q (.ref D) { s with heap := h', toks := tk' }) :
    wpAny (model prog w) A (eval (.Dict [some (.Constant (.str k) kd kp)] [v] pos) env) Q E s := by
  refine wpAny_Dict_pairs (knd := PySem.strKind prog w) (pairs := [(eval (.Constant (.str k) kd kp) env, do let x ← eval v env; standAt pos; pure x)]) rfl (by simp) (by simp) ?_
  refine evalPairs_cons (wpAny_Constant_str (wpAny_bind (hv _ _ (.push _ _) (wpAny_bind (wpAny_standAt (wpAny_pure (evalPairs_nil ?_)))))))
  refine ⟨[(k, vv)], ⟨strKind_is _ _ _ _, rfl, trivial⟩, Heap.DictOf.new (knd := PySem.strKind prog w) s.heap, fun h' hd hs => ?_⟩
  have e2 : merged [] [(k, vv)] = [(k, vv)] := by simp [merged, stored]
  rw [e2] at hd
  refine h _ _ _ (Nat.le_refl _) ?_ ⟨?_, ?_⟩ hd
  · obtain ⟨o, es, ep, ho, _⟩ := hd
    exact Heap.lt_size ho
  · rw [hs.1]; show s.heap.objs.size ≤ (s.heap.push _).objs.size; rw [Heap.size_push]; exact Nat.le_succ _
  · exact fun b o e => hs.extBut b o (Nat.ne_of_lt (Heap.lt_size e)) (Heap.get?_push_of_some _ e)
end
end Nest
namespace Nest
theorem entered_inv {G G7 : GH} {text : List Nm} {i j : Nat} (h : entered G text i j = some G7) :
    ∃ G1 G2 it G4 r G5 G6 k r0, appN G (cut text i (j - i)) .h = .ok G1 ∧ walkN true (cut text i (j - i) ++ [.h]) G1 .one = .ok G2 it ∧ G2.get it = some (.dict []) ∧
      walkN true (cut text i (j - i) ++ .h :: cut text j 1) (G2.set it (.dict [(.t, .int i)])) .one = .ok G4 r ∧ ((j < text.length ∧ G4.get r = some (.dict [])) ∨ (¬ j < text.length ∧ G4.get r = some (.dict [(.t, .int i)]))) ∧
      walkN false (cut text i (j - i) ++ [.h, .a]) G4 .one = .key G5 ∧ walkN true (cut text i (j - i) ++ [.h, .t, .b]) G5 .one = .key G6 ∧ (cut text i (j - i)).reverse = k :: r0 ∧ appN G6 r0.reverse k = .other G7 := by
  unfold entered at h
  dsimp only at h
  split at h
  · rename_i G1 h1
    split at h
    · rename_i G2 it h2
      split at h
      · rename_i h3
        split at h
        · rename_i G4 r h4
          split at h
          · rename_i h5
            split at h
            · rename_i G5 h6
              split at h
              · rename_i G6 h7
                split at h
                · rename_i k r0 h8
                  split at h
                  · rename_i G7' h9
                    cases h
                    refine ⟨G1, G2, it, G4, r, G5, G6, k, r0, h1, h2, ?_, h4, ?_, h6, h7, h8, h9⟩
                    · unfold isNil at h3
                      split at h3
                      · rename_i e; exact e
                      · cases h3
                    · split at h5
                      · rename_i e
                        refine .inl ⟨by simpa [Nat.blt_eq] using e, ?_⟩
                        unfold isNil at h5
                        split at h5
                        · rename_i e; exact e
                        · cases h5
                      · rename_i e
                        refine .inr ⟨fun hlt => ?_, ?_⟩
                        · have : Nat.blt j text.length = true := by simpa [Nat.blt_eq] using hlt
                          rw [this] at e; cases e
                        · unfold isAt at h5
                          split at h5
                          · rename_i m e
                            have : i = m := by simpa using h5
                            rw [this]; exact e
                          · cases h5
                  · cases h
                · cases h
              · cases h
            · cases h
          · cases h
        · cases h
      · cases h
    · cases h
  · cases h
/-- what is at hand in a def's body that holds one tuple -/
structure Cur (prog : Program) (w : World) (mg mb : Str → Option Value) (h₀ : Heap) (x : Addr) (A : Around) (outer : List Env) (env : Env) (L : Addr) (hs : Heap) (Gs : GH) (ρs : Ix → Addr) (W : Addr) (items : Array Value) (m : Str → Option Value) (h : Heap) (G : GH) (ρ : Ix → Addr) : Prop where
  am : Amb prog w mg mb h₀ x (A.deeper env) (env :: outer) h G ρ
  n : h.Ns L m
  sf : StepF (frs outer) hs Gs ρs h G ρ
  tW : IsTup h W items
  Wf : W ∉ frs (env :: outer)
  Wna : ¬ NA G ρ W
  hf : env.frame = some L
  hL : hs.objs.size ≤ L
section
variable {prog : Program} {w : World} {mg mb : Str → Option Value} {h₀ : Heap} {x : Addr} {A : Around} {outer : List Env} {env : Env} {L : Addr} {hs : Heap} {Gs : GH} {ρs : Ix → Addr} {W : Addr} {items : Array Value} {m m' : Str → Option Value} {h h' : Heap} {G G' : GH} {ρ ρ' : Ix → Addr}
theorem Cur.Wlt (c : Cur prog w mg mb h₀ x A outer env L hs Gs ρs W items m h G ρ) : W < h.objs.size := by
  obtain ⟨o, ho, _⟩ := c.tW
  exact Heap.lt_size ho
theorem Cur.WL (c : Cur prog w mg mb h₀ x A outer env L hs Gs ρs W items m h G ρ) : W ≠ L := fun e => c.Wf (e ▸ frs_self c.hf)
theorem Cur.grow (c : Cur prog w mg mb h₀ x A outer env L hs Gs ρs W items m h G ρ) (g : Grow h h') : Cur prog w mg mb h₀ x A outer env L hs Gs ρs W items m h' G ρ :=
  ⟨c.am.grow g, c.n.keeps g.keep, c.sf.trans (.ofGrow g), c.tW.keeps g.keep, c.Wf, c.Wna, c.hf, c.hL⟩
theorem Cur.call (c : Cur prog w mg mb h₀ x A outer env L hs Gs ρs W items m h G ρ) (N : NestIn prog w h' G' ρ') (st : StepF (frs (env :: outer)) h G ρ h' G' ρ') : Cur prog w mg mb h₀ x A outer env L hs Gs ρs W items m h' G' ρ' :=
  ⟨c.am.step N st, (st.up L (c.am.fna L (frs_self c.hf))).ns c.n, c.sf.trans_in st c.hf c.hL, by
    obtain ⟨o, ho, hr⟩ := c.tW
    exact ⟨o, (st.up W c.Wna).keep c.Wf ho, hr⟩, c.Wf, st.na c.Wlt c.Wna, c.hf, c.hL⟩
theorem Cur.store (c : Cur prog w mg mb h₀ x A outer env L hs Gs ρs W items m h G ρ) (s : Heap.SameBut L h h') (n' : h'.Ns L m') : Cur prog w mg mb h₀ x A outer env L hs Gs ρs W items m' h' G ρ :=
  ⟨c.am.store (frs_self c.hf) s n', n', c.sf.store c.hL s, by
    obtain ⟨o, ho, hr⟩ := c.tW
    exact ⟨o, s.extBut _ _ c.WL ho, hr⟩, c.Wf, c.Wna, c.hf, c.hL⟩
theorem Cur.off (c : Cur prog w mg mb h₀ x A outer env L hs Gs ρs W items m h G ρ) {D : Addr} (hD : h.objs.size ≤ D ∨ D = W) : D ∉ frs (env :: outer) ∧ ¬ NA G ρ D := by
  rcases hD with hD | rfl
  · exact c.am.off hD
  · exact ⟨c.Wf, c.Wna⟩
abbrev Cur.to (_ : Cur prog w mg mb h₀ x A outer env L hs Gs ρs W items m h G ρ) (m' : Str → Option Value) (h' : Heap) (G' : GH) (ρ' : Ix → Addr) : Prop := Cur prog w mg mb h₀ x A outer env L hs Gs ρs W items m' h' G' ρ'
set_option maxRecDepth 100000 in
set_option maxHeartbeats 2000000 in
theorem ent_spec {text : List Nm} {i j : Nat} {t1 t2 : Tok} {G7 : GH} {s : Shared} {G : GH} {ρ : Ix → Addr} {E Q : Value → Shared → Prop} {ta : Addr} {vs : Array Value}
    (a : Amb prog w mg mb h₀ x A outer s.heap G ρ) (hh : A.handled = none) (hroom : A.depth + 4 < recursionLimit) (hu : A.units + 100 < cLine)
    (ht : h₀.PlainList ta vs) (hv : NmsAre vs.toList text) (hsz : text.length ≤ 60) (hij : i < j) (hj : j ≤ text.length) (he : entered G text i j = some G7)
    (hok : ∀ h' tk' ρ', NestIn prog w h' G7 ρ' → StepF (frs outer) s.heap G ρ h' G7 ρ' → Q (.bool true) { s with heap := h', toks := tk' }) :
    wpAny (model prog w) A (call (.ref 84) [.ref x, .ref ta, .int (i : Int) t1, .int (j : Int) t2]) Q E s := by
  obtain ⟨G1, G2, it, G4, r, G5, G6, k, r0, e1, e2, e3, e4, e5, e6, e7, e8, e9⟩ := entered_inv he
  refine wpAny_call ?_
  refine' enterA (binds := [(PySem.Str.ofString "nest", .ref x), (PySem.Str.ofString "text", .ref ta), (PySem.Str.ofString "i", .int (i : Int) t1), (PySem.Str.ofString "j", .int (j : Int) t2)]) a ?k1 ?k2 (by omega) ?k3 ?k4 ?_ ?c1 ?c2 ?c3 ?c4
  case k1 => exact rfl
  case k2 => exact rfl
  case k3 => exact BindsTo.of_eq rfl
  case k4 => exact locs rfl
  case c1 => exact rfl
  case c2 => exact rfl
  case c3 => exact rfl
  case c4 => decide
  intro L h₁ n1 g1 hL am1
  dsimp only
  have evs : vs.size = text.length := by rw [← hv.length]; simp
  have ht1 : h₁.PlainList ta vs := ht.at fun o e => am1.stays _ o e
  have ewl : (cut text i (j - i)).length = j - i := by unfold cut; rw [List.length_take, List.length_drop]; omega
  refine wpAny_execs_cons (wpAny_Assign_Name (call_tup_slice (fun Q' q => nm_bi am1.now rfl boot_tuple q rfl rfl rfl rfl rfl (by decide)) (ld_ns n1 rfl (ld_ns n1 rfl (ld_ns n1 rfl ?_)))))
  refine ⟨ta, vs, some (i : Int), some (j : Int), rfl, ht1.isList, by rw [evs, sizeLine_eq]; omega, .int _ _, .int _ _, ?_⟩
  intro W h2 sW zW g2 tW
  (try dsimp only at sW); (try dsimp only at g2); (try dsimp only)
  rw [pick_cut] at tW
  have hvW := hv.cut i (j - i)
  generalize hit : ((vs.toList.drop i).take (j - i)).toArray = items at tW
  have hvi : NmsAre items.toList (cut text i (j - i)) := by rw [← hit]; exact hvW
  have isz : items.size = j - i := by rw [← Array.length_toList, hvi.length, ewl]
  obtain ⟨hWf, hWna⟩ := am1.off sW
  have c2 : Cur prog w mg mb h₀ x A outer _ L s.heap G ρ W items _ h2 G ρ := ⟨am1.grow g2, n1.keeps g2.keep, .ofGrow (g1.trans g2), tW, hWf, hWna, rfl, hL⟩
  refine st_ns c2.n rfl ?_
  intro h3 n3 hs3
  (try dsimp only at n3); (try dsimp only at hs3); (try dsimp only)
  have c3 := c2.store hs3 n3
  refine wpAny_execs_cons (wpAny_If (wpAny_isTrue_Compare1 (call_nest c3.am.now.X c3.am.self (fun Q' q => ld_ns n3 rfl q) (f := 43) rfl rfl rfl (.inr rfl) (wpAny_BinOp (ld_ns n3 rfl (eval_tup1 (Calls.Constant_str ?_)))))))
  intro T h4 sT zT g4 tT
  (try dsimp only at sT); (try dsimp only at g4); (try dsimp only)
  have c4 := c3.grow g4
  refine add_tup c4.tW tT (by omega) (by rw [sizeLine_eq, isz]; simp only [List.size_toArray, List.length_cons, List.length_nil]; omega) ?_
  intro D h5 g5 tD hD
  (try dsimp only at g5); (try dsimp only at hD); (try dsimp only)
  have offD := c4.off hD
  have c5 := c4.grow g5
  refine ⟨c5.am.now.X, ?_⟩
  refine app_spec (init := cut text i (j - i)) (k := .h) c5.am hh (by show A.depth + 1 + 1 < _; omega) tD (by rw [Array.toList_append]; exact hvi.append (.cons .h _ .nil)) (by rw [ewl]; omega) offD ?_ ?_ (by rw [e1]; intro e; cases e)
  rotate_left
  · intro G' e; rw [e1] at e; cases e
  intro G' e h6 tk6 ρ6 N6 st6
  rw [e1] at e; cases e
  (try dsimp only)
  have c6 := c5.call N6 st6
  refine wpAny_Constant_none (isNot_none (wpAny_truthy_bool (ite_B (fun e => Bool.noConfusion e) fun _ => wpAny_execs_nil ?_)))
  (try dsimp only)
  refine wpAny_execs_cons (wpAny_Assign_Name (call_nest c6.am.now.X c6.am.self (fun Q' q => ld_ns c6.n rfl q) (f := 36) rfl rfl rfl (.inl rfl) (wpAny_BinOp (ld_ns c6.n rfl (eval_tup1 (Calls.Constant_str ?_))))))
  intro T7 h7 sT7 zT7 g7 tT7
  (try dsimp only at sT7); (try dsimp only at g7); (try dsimp only)
  have c7 := c6.grow g7
  refine add_tup c7.tW tT7 (by omega) (by rw [sizeLine_eq, isz]; simp only [List.size_toArray, List.length_cons, List.length_nil]; omega) ?_
  intro D8 h8 g8 tD8 hD8
  (try dsimp only at g8); (try dsimp only at hD8); (try dsimp only)
  have offD8 := c7.off hD8
  have c8 := c7.grow g8
  refine ⟨c8.am.now.X, ?_⟩
  refine get_spec (acc := true) (names := cut text i (j - i) ++ [.h]) c8.am hh (by show A.depth + 1 < _; omega) tD8 (by rw [Array.toList_append]; exact hvi.append (.cons .h _ .nil)) offD8 ?_ ?_ (by rw [e2]; intro e; cases e)
  rotate_left
  · intro G' e; rw [e2] at e; cases e
  intro G' it' e h9 tk9 ρ9 N9 hi9 st9
  rw [e2] at e; cases e
  (try dsimp only)
  have c9 := c8.call N9 st9
  refine st_ns c9.n rfl ?_
  intro h10 n10 hs10
  (try dsimp only at n10); (try dsimp only at hs10); (try dsimp only)
  have c10 := c9.store hs10 n10
  obtain ⟨kvs10, D10, E10, l10⟩ := c10.am.nest.obj it _ e3
  have hk10 : kvs10 = [] := by cases E10; rfl
  have sys10 := c10.am.nest.sys hi9
  refine wpAny_execs_cons (wpAny_If (wpAny_isTrue_Compare1 (ld_ns c10.n rfl (wpAny_Dict_empty ?_))))
  dsimp only
  have g11 : Grow h10 (h10.push { cls := .type "dict", data := .dict #[] }) := Grow.push _ _
  have c11 := c10.grow g11
  have big10 : (h10.objs.size == sysModules) = false := by
    have := c10.am.now.g.lt
    rw [beq_eq_false_iff_ne]
    intro e
    rw [e] at this
    exact absurd this (by decide)
  refine ne_dict0 sys10 big10 (D10.push _) (Heap.DictOf.new (knd := PySem.strKind prog w) h10) (by show A.units + 3 < _; omega) hk10 (wpAny_truthy_bool (ite_B (fun e => Bool.noConfusion e) fun _ => wpAny_execs_nil ?_))
  (try dsimp only)
  have D11 := D10.push { cls := .type "dict", data := .dict #[] }
  refine wpAny_execs_cons (wpAny_Assign_Subscript (ld_ns c11.n rfl (ld_ns c11.n rfl (wpAny_Constant_str (wpAny_setItem_pairs (strKind_is _ _ _ _) D11 (fun h12 D12 hs12 => ?_) (by rw [hk10, sizeLine_eq]; decide))))))
  (try dsimp only at D12); (try dsimp only at hs12); (try dsimp only)
  subst hk10
  have hx12 := Ext.set (G := G2) (ρ := ρ9) (i := it) (.dict [(.t, .int i)]) hi9
  have N12 := c11.am.nest.set hi9 hs12 (y := .dict [(.t, .int i)]) ⟨_, D12, .cons ⟨_, rfl⟩ .nil, show 1 ≤ 8 by decide⟩
  have S12 := NestIn.step_set hi9 hs12 (.dict [(.t, .int i)])
  have c12 := c11.call N12 S12.toF
  refine wpAny_execs_cons (wpAny_If (wpAny_isTrue_Compare1 (call_nest c12.am.now.X c12.am.self (fun Q' q => ld_ns c12.n rfl q) (f := 36) rfl rfl rfl (.inl rfl) (wpAny_BinOp (wpAny_BinOp (ld_ns c12.n rfl (eval_tup1 (Calls.Constant_str ?_))))))))
  intro T13 h13 sT13 zT13 g13 tT13
  (try dsimp only at sT13); (try dsimp only at g13); (try dsimp only)
  have c13 := c12.grow g13
  refine add_tup c13.tW tT13 (by omega) (by rw [sizeLine_eq, isz]; simp only [List.size_toArray, List.length_cons, List.length_nil]; omega) ?_
  intro D14 h14 g14 tD14 hD14
  (try dsimp only at g14); (try dsimp only at hD14); (try dsimp only)
  have offD14 := c13.off hD14
  have c14 := c13.grow g14
  have ht14 : h14.PlainList ta vs := ht.at fun o e => c14.am.stays _ o e
  refine call_tup_slice (fun Q' q => nm_bi c14.am.now rfl boot_tuple q rfl rfl rfl rfl rfl (by decide)) (ld_ns c14.n rfl (ld_ns c14.n rfl (wpAny_BinOp (ld_ns c14.n rfl (wpAny_Constant_int (add_int ?_))))))
  refine ⟨ta, vs, some (j : Int), some ((j : Int) + 1), rfl, ht14.isList, by rw [evs, sizeLine_eq]; omega, .int _ _, .int _ _, ?_⟩
  intro T15 h15 sT15 zT15 g15 tT15
  (try dsimp only at sT15); (try dsimp only at g15); (try dsimp only)
  have ej : ((j : Int) + 1) = ((j + 1 : Nat) : Int) := by omega
  rw [ej, pick_cut, Nat.add_sub_cancel_left] at tT15
  have hv15 := hv.cut j 1
  have c15 := c14.grow g15
  have tD15 := tD14.keeps g15.keep
  refine add_tup tD15 tT15 (by simp) (by
    have h1 : ((vs.toList.drop j).take 1).length ≤ 1 := by rw [List.length_take]; exact Nat.min_le_left _ _
    rw [sizeLine_eq]; simp only [Array.size_append, List.size_toArray, List.length_cons, List.length_nil]; omega) ?_
  intro D16 h16 g16 tD16 hD16
  (try dsimp only at g16); (try dsimp only at hD16); (try dsimp only)
  have c16 := c15.grow g16
  have offD16 := hD16.elim (fun q => c15.am.off q) (fun q => by rw [q]; exact offD14)
  refine ⟨c16.am.now.X, ?_⟩
  refine get_spec (acc := true) (names := cut text i (j - i) ++ .h :: cut text j 1) c16.am hh (by show A.depth + 1 < _; omega) tD16 (by rw [Array.toList_append, Array.toList_append, List.append_assoc]; exact hvi.append (NmsAre.append (xs := [.h]) (.cons .h _ .nil) hv15)) offD16 ?_ ?_ (by rw [e4]; intro e; cases e)
  rotate_left
  · intro G' e; rw [e4] at e; cases e
  intro G' r' e h17 tk17 ρ17 N17 hr17 st17
  rw [e4] at e; cases e
  (try dsimp only)
  have c17 := c16.call N17 st17
  have ht17 : h17.PlainList ta vs := ht.at fun o e => c17.am.stays _ o e
  have sys17 := c17.am.nest.sys hr17
  have big17 : (h17.objs.size == sysModules) = false := by
    have := c17.am.now.g.lt
    rw [beq_eq_false_iff_ne]
    intro e
    rw [e] at this
    exact absurd this (by decide)
  obtain ⟨kvs17, D17, hk17⟩ : ∃ kvs17, h17.DictOf (PySem.strKind prog w) (ρ17 r) kvs17 ∧ ((j < text.length ∧ kvs17 = []) ∨ (¬ j < text.length ∧ ∃ t, kvs17 = [(Str.ofString "at", .int (i : Int) t)])) := by
    rcases e5 with ⟨q1, q2⟩ | ⟨q1, q2⟩
    · obtain ⟨kvs, D, E, _⟩ := c17.am.nest.obj r _ q2
      cases E
      exact ⟨_, D, .inl ⟨q1, rfl⟩⟩
    · obtain ⟨kvs, D, E, _⟩ := c17.am.nest.obj r _ q2
      cases E with
      | cons hg hr =>
        cases hr
        obtain ⟨t, rfl⟩ := hg
        exact ⟨_, D, .inr ⟨q1, t, rfl⟩⟩
  refine wpAny_mono (Q := fun b s₂ => ∃ h18 tk18 D18, s₂ = { s with heap := h18, toks := tk18 } ∧ Grow h17 h18 ∧ b = .ref D18 ∧ (D18 == sysModules) = false ∧ ((kvs17 = [] ∧ h18.DictOf (PySem.strKind prog w) D18 []) ∨ (∃ t u, kvs17 = [(Str.ofString "at", .int (i : Int) t)] ∧ h18.DictOf (PySem.strKind prog w) D18 [(Str.ofString "at", .int (i : Int) u)]))) ?_ (fun b s₂ hq => ?_) (fun _ _ e => e)
  · refine wpAny_IfExp (wpAny_isTrue_Compare1 (ld_ns c17.n rfl (call1_builtin (fun Q' q => nm_bi c17.am.now rfl boot_len q rfl rfl rfl rfl rfl (by decide)) (ld_ns c17.n rfl (len_list ht17.isList (by rw [evs]; omega) (P.lt_int (wpAny_truthy_bool ?_)))))))
    (try dsimp only)
    rcases hk17 with ⟨q1, rfl⟩ | ⟨q1, t, rfl⟩
    · refine ite_B (fun _ => ?_) (fun hd => absurd (of_decide_eq_false hd) (fun h => h (by rw [evs]; omega)))
      exact wpAny_Dict_empty ⟨_, _, _, rfl, .push _ _, rfl, big17, .inl ⟨rfl, Heap.DictOf.new (knd := PySem.strKind prog w) h17⟩⟩
    · refine ite_B (fun hd => absurd (of_decide_eq_true hd) (fun h => q1 (by rw [evs] at h; omega))) (fun _ => ?_)
      refine eval_dict1 (vv := .int (i : Int) t1) (fun s' Q' g q => ld_ns (c17.n.keeps g.keep) rfl q) ?_
      intro D18 h18 tk18 s18 z18 g18 d18
      dsimp only at s18 g18
      refine ⟨h18, _, D18, rfl, g18, rfl, ?_, .inr ⟨t, t1, rfl, d18⟩⟩
      have := c17.am.now.g.lt
      rw [beq_eq_false_iff_ne]
      intro e
      have h3 : (3 : Nat) < D18 := Nat.lt_of_lt_of_le this s18
      rw [e] at h3
      exact absurd h3 (by decide)
  obtain ⟨h18, tk18, D18, rfl, g18, rfl, big18, hcase⟩ := hq
  have c18 := c17.grow g18
  refine ne_pair sys17 big18 (D17.keep g18.keep) hcase (by show A.units + 3 + 70 < _; omega) (wpAny_truthy_bool (ite_B (fun e => Bool.noConfusion e) fun _ => wpAny_execs_nil ?_))
  (try dsimp only)
  refine wpAny_execs_cons (wpAny_Assign_Name (call1_builtin (fun Q' q => nm_bi c18.am.now rfl boot_repr q rfl rfl rfl rfl rfl (by decide)) (wpAny_Constant_str (P.repr_of_str ?_ (by rw [sizeLine_eq]; decide +kernel)))))
  refine st_ns c18.n rfl ?_
  intro h19 n19 hs19
  (try dsimp only at n19); (try dsimp only at hs19); (try dsimp only)
  have c19 := c18.store hs19 n19
  refine wpAny_execs_cons (wpAny_Assign_Name (call1_builtin (fun Q' q => nm_bi c19.am.now rfl boot_repr q rfl rfl rfl rfl rfl (by decide)) (wpAny_Constant_str (P.repr_of_str ?_ (by rw [sizeLine_eq]; decide +kernel)))))
  refine st_ns c19.n rfl ?_
  intro h20 n20 hs20
  (try dsimp only at n20); (try dsimp only at hs20); (try dsimp only)
  have c20 := c19.store hs20 n20
  refine wpAny_execs_cons (wpAny_Return_some (wpAny_Compare1 ?_))
  have hsz1 : (cut text i (j - i) ++ [Nm.h, .a]).length ≤ 64 := by rw [List.length_append, ewl]; simp only [List.length_cons, List.length_nil]; omega
  have hsz2 : (cut text i (j - i) ++ [Nm.h, .t, .b]).length ≤ 64 := by rw [List.length_append, ewl]; simp only [List.length_cons, List.length_nil]; omega
  have ecut : cut text i (j - i) = r0.reverse ++ [k] := by
    have := congrArg List.reverse e8
    rwa [List.reverse_reverse, List.reverse_cons] at this
  refine eval_list3 (call3_own (fun Q' q => nm_own c20.am.now rfl q rfl rfl rfl rfl) c20.am.now.X rfl (ld_ns c20.n rfl (wpAny_Constant_int (wpAny_BinOp (ld_ns c20.n rfl (eval_tup2 (Calls.Constant_str (Calls.Constant_str ?_))))))))
  intro T21 h21 sT21 zT21 g21 t21
  (try dsimp only at sT21); (try dsimp only at g21); (try dsimp only)
  have c21 := c20.grow g21
  refine add_tup c21.tW t21 (by omega) (by rw [sizeLine_eq, isz]; simp only [List.size_toArray, List.length_cons, List.length_nil]; omega) ?_
  intro D22 h22 g22 t22 hD22
  (try dsimp only at g22); (try dsimp only at hD22); (try dsimp only)
  have off22 := c21.off hD22
  have c22 := c21.grow g22
  refine ⟨c22.am.now.X, ?_⟩
  refine ref_spec (names := cut text i (j - i) ++ [.h, .a]) c22.am hh (by show A.depth + 1 + 2 < _; omega) (by show A.units + 3 + 40 < _; omega) t22 (by rw [Array.toList_append]; exact hvi.append (.cons .h _ (.cons .a _ .nil))) hsz1 off22 (.zero e6) ?_
  intro h23 tk23 t23 ρ23 N23 st23
  (try dsimp only)
  have c23 := c22.call N23 st23
  refine call3_own (fun Q' q => nm_own c23.am.now rfl q rfl rfl rfl rfl) c23.am.now.X rfl (ld_ns c23.n rfl (wpAny_Constant_int (wpAny_BinOp (ld_ns c23.n rfl (eval_tup3 (Calls.Constant_str (Calls.Constant_str (Calls.Constant_str ?_))))))))
  intro T24 h24 sT24 zT24 g24 t24
  (try dsimp only at sT24); (try dsimp only at g24); (try dsimp only)
  have c24 := c23.grow g24
  refine add_tup c24.tW t24 (by omega) (by rw [sizeLine_eq, isz]; simp only [List.size_toArray, List.length_cons, List.length_nil]; omega) ?_
  intro D25 h25 g25 t25 hD25
  (try dsimp only at g25); (try dsimp only at hD25); (try dsimp only)
  have off25 := c24.off hD25
  have c25 := c24.grow g25
  refine ⟨c25.am.now.X, ?_⟩
  refine ref_spec (names := cut text i (j - i) ++ [.h, .t, .b]) c25.am hh (by show A.depth + 1 + 2 < _; omega) (by show A.units + 3 + 40 < _; omega) t25 (by rw [Array.toList_append]; exact hvi.append (.cons .h _ (.cons .t _ (.cons .b _ .nil)))) hsz2 off25 (.one e7) ?_
  intro h26 tk26 t26 ρ26 N26 st26
  (try dsimp only)
  have c26 := c25.call N26 st26
  refine call3_own (fun Q' q => nm_own c26.am.now rfl q rfl rfl rfl rfl) c26.am.now.X rfl (ld_ns c26.n rfl (wpAny_Constant_int (ld_ns c26.n rfl ⟨c26.am.now.X, ?_⟩)))
  refine ref_spec (names := r0.reverse ++ [k]) c26.am hh (by show A.depth + 1 + 2 < _; omega) (by show A.units + 3 + 40 < _; omega) c26.tW (by rw [← ecut]; exact hvi) (by rw [← ecut, ewl]; omega) ⟨c26.Wf, c26.Wna⟩ (.two e9) ?_
  intro h27 tk27 t27 ρ27 N27 st27
  (try dsimp only)
  have c27 := c26.call N27 st27
  intro l28 h28 s28 z28 g28 p28
  (try dsimp only at s28); (try dsimp only at g28); (try dsimp only)
  have c28 := c27.grow g28
  refine eval_list3 (ld_ns c28.n rfl (ld_ns c28.n rfl (ld_ns c28.n rfl ?_)))
  intro l29 h29 s29 z29 g29 p29
  (try dsimp only at s29); (try dsimp only at g29); (try dsimp only)
  have c29 := c28.grow g29
  refine eq_str3 (g29.list p28) p29 (by decide +kernel) (by decide +kernel) (by show A.units + 3 + 64 < _; omega) ?_
  exact hok h29 _ ρ27 c29.am.nest c29.sf
end
end Nest
namespace Nest
section
variable {prog : Program} {w : World} {mg mb : Str → Option Value} {A : Around}
set_option maxRecDepth 100000 in
set_option maxHeartbeats 2000000 in
theorem init_spec {s : Shared} {E Q : Value → Shared → Prop} (G0 : Gl w mg mb s.heap) (hroom : A.depth + 1 < recursionLimit)
    (h : ∀ x r h' tk', (∀ b o, s.heap.get? b = some o → h'.get? b = some o) → s.heap.objs.size ≤ h'.objs.size → s.heap.objs.size ≤ r → InstN h' x r → h'.DictOf (PySem.strKind prog w) r [] → (∀ dx, h'.get? x = some (instObj 46 dx) → dx ≠ r ∧ s.heap.objs.size ≤ dx) → x ≠ r → s.heap.objs.size ≤ x → Q (.ref x) { s with heap := h', toks := tk' }) :
    wpAny (model prog w) A (call (.ref 46) []) Q E s := by
  refine wpAny_call ?_
  obtain ⟨hh, gg, d, t, os⟩ := s
  dsimp only at h G0
  have X := G0.X
  refine make_core (makes_of X rfl) (looks_findIn X rfl) (fun self => bind_fn X (f := 28) self rfl) (.inl rfl) ?_
  have g2 : Grow hh ((hh.push emptyDict).push (instObj 46 hh.objs.size)) := (Grow.push _ _).trans (Grow.push _ _)
  have ex : ((hh.push emptyDict).push (instObj 46 hh.objs.size)).get? (hh.objs.size + 1) = some (instObj 46 hh.objs.size) := by
    have := Heap.get?_push_size (hh.push emptyDict) (o := instObj 46 hh.objs.size) rfl
    rwa [Heap.size_push] at this
  have ed : ((hh.push emptyDict).push (instObj 46 hh.objs.size)).get? hh.objs.size = some emptyDict := Heap.get?_push_of_some _ (Heap.get?_push_size _ rfl)
  have z2 : ((hh.push emptyDict).push (instObj 46 hh.objs.size)).objs.size = hh.objs.size + 2 := by rw [Heap.size_push, Heap.size_push]
  generalize hH : (hh.push emptyDict).push (instObj 46 hh.objs.size) = H at g2 ex ed z2
  have G2 := G0.grow g2
  refine' enterP (binds := [(PySem.Str.ofString "self", .ref (hh.objs.size + 1))]) G2.X G2.lim ?k1 ?k2 (by show A.depth + 1 < _; omega) ?k3 ?k4 ?_ ?c1 ?c2 ?c3 ?c4
  case k1 => exact rfl
  case k2 => exact rfl
  case k3 => exact BindsTo.of_eq rfl
  case k4 => exact locs rfl
  case c1 => exact rfl
  case c2 => exact rfl
  case c3 => exact rfl
  case c4 => decide
  intro L h1 F g1 hL
  dsimp only at F g1 hL ⊢
  refine wpAny_execs_cons (plainObj_wpAny_Assign_Attribute (wpAny_Dict_empty ?_))
  dsimp only
  have n3 : (h1.push { cls := .type "dict", data := .dict #[] }).Ns L _ := F.ns.keeps fun b o e => Heap.get?_push_of_some _ e
  refine ld_ns n3 rfl ?_
  have zL : H.objs.size < h1.objs.size := Nat.lt_of_le_of_lt hL F.ns.lt
  have F3 : Fr (hideAll H [hh.objs.size, hh.objs.size + 1]) L (h1.push { cls := .type "dict", data := .dict #[] }) _ := ⟨n3, fun b o e => Heap.get?_push_of_some _ (g1.keep b o (of_hideAll _ e)), by rw [hideAll_size]; exact hL⟩
  have X3 : (hd.heap_39 w.params).In (hideAll H [hh.objs.size, hh.objs.size + 1]) := fun a o e => by
    have e1 := X a o e
    have hlt := Heap.lt_size e1
    exact hideAll_get _ (g2.keep _ _ e1) (by
      intro hm
      rcases List.mem_cons.mp hm with q | hm
      · exact Nat.ne_of_lt hlt q
      · exact Nat.ne_of_lt (Nat.lt_succ_of_lt hlt) (List.mem_singleton.mp hm))
  have nd : (hideAll H [hh.objs.size, hh.objs.size + 1]).get? h1.objs.size = none := Heap.get?_none_of_le (by rw [hideAll_size]; exact Nat.le_of_lt zL)
  have N3 : News (hideAll H [hh.objs.size, hh.objs.size + 1]) L (h1.push { cls := .type "dict", data := .dict #[] }) [(hh.objs.size, dictOf [] 0), (hh.objs.size + 1, instObj 46 hh.objs.size), (h1.objs.size, { cls := .type "dict", data := .dict #[] })] := by
    intro p hp
    rcases List.mem_cons.mp hp with rfl | hp
    · exact ⟨Heap.get?_push_of_some _ (g1.keep _ _ ed), by show hh.objs.size ≠ L; omega, hideAll_none _ (.head _)⟩
    · rcases List.mem_cons.mp hp with rfl | hp
      · exact ⟨Heap.get?_push_of_some _ (g1.keep _ _ ex), by show hh.objs.size + 1 ≠ L; omega, hideAll_none _ (.tail _ (.head _))⟩
      · rw [List.mem_singleton.mp hp]
        exact ⟨Heap.get?_push_size _ rfl, Nat.ne_of_gt F.ns.lt, nd⟩
  have I3 : InstAt (h1.push { cls := .type "dict", data := .dict #[] }) (hh.objs.size + 1) (instObj 46 hh.objs.size) 46 (some (dictOf [] 0)) := ⟨(N3 _ (.tail _ (.head _))).1, rfl, rfl, (N3 _ (.head _)).1⟩
  refine set_dict F3 X3 N3 I3 rfl rfl rfl rfl rfl rfl rfl (.head (fun p hp => ?_)) (show 1 ≤ 1000 by decide) ?_
  · rcases List.mem_cons.mp hp with rfl | hp
    · show hh.objs.size + 1 ≠ hh.objs.size; omega
    · rw [List.mem_singleton.mp hp]
      show h1.objs.size ≠ hh.objs.size; omega
  intro h4 F4 N4
  dsimp only
  refine wpAny_execs_nil ⟨rfl, ?_⟩
  have k4 : ∀ b o, hh.get? b = some o → h4.get? b = some o := fun b o e => F4.keep b o (hideAll_get _ (g2.keep _ _ e) (by
    have hlt := Heap.lt_size e
    intro hm
    rcases List.mem_cons.mp hm with q | hm
    · exact Nat.ne_of_lt hlt q
    · exact Nat.ne_of_lt (Nat.lt_succ_of_lt hlt) (List.mem_singleton.mp hm)))
  have o1 := (N4 _ (.head _)).1
  have o2 := (N4 _ (.tail _ (.head _))).1
  have o3 := (N4 _ (.tail _ (.tail _ (.head _)))).1
  dsimp only at o1 o2 o3
  have h5 : (h1.objs.size : Nat) < h4.objs.size := Heap.lt_size o3
  have h6 : (hh.objs.size + 1 : Nat) < h1.objs.size := by omega
  refine h (hh.objs.size + 1) h1.objs.size h4 _ k4 (by omega) (by omega) ⟨hh.objs.size, _, _, o2, o1, rfl, rfl, rfl⟩ ⟨_, #[], 0, o3, ⟨rfl, rfl, rfl⟩, rfl, fun _ he => by simp at he, Pairs.nil, List.nodup_nil⟩ (fun dx e => ?_) (Nat.ne_of_lt h6) (by omega)
  rw [o2] at e
  have : dx = hh.objs.size := by cases e; rfl
  subst this
  exact ⟨Nat.ne_of_lt (Nat.lt_of_succ_lt h6), Nat.le_refl _⟩
end
end Nest
namespace Nest
section
variable {prog : Program} {w : World} {mg mb : Str → Option Value} {h₀ h : Heap} {x : Addr} {A : Around} {outer : List Env} {G : GH} {ρ : Ix → Addr}
open Classical in
/-- all that is there by now stays, but the nest and the frames -/
theorem Amb.rebase (a : Amb prog w mg mb h₀ x A outer h G ρ) : ∃ h₁, Amb prog w mg mb h₁ x A outer h G ρ ∧ (∀ b o, h₀.get? b = some o → h₁.get? b = some o) ∧ ∀ b o, ¬ NA G ρ b → b ∉ frs outer → h.get? b = some o → h₁.get? b = some o := by
  have key : ∀ b o, ¬ NA G ρ b → b ∉ frs outer → h.get? b = some o → (hideAll h ((List.range h.objs.size).filter (fun b => decide (NA G ρ b)) ++ frs outer)).get? b = some o := fun b o h1 h2 e =>
    hideAll_get _ e fun hm => by
      rcases List.mem_append.mp hm with hm | hm
      · exact h1 (of_decide_eq_true (List.mem_filter.mp hm).2)
      · exact h2 hm
  have old : ∀ b o, h₀.get? b = some o → (hideAll h ((List.range h.objs.size).filter (fun b => decide (NA G ρ b)) ++ frs outer)).get? b = some o := fun b o e =>
    key b o (fun q => by rw [a.nlo b q] at e; cases e) (fun q => by rw [a.flo b q] at e; cases e) (a.stays b o e)
  exact ⟨_, ⟨a.gl.keeps old, fun b o e => of_hideAll _ e, a.nest, fun b hb => hideAll_none _ (List.mem_append_left _ (List.mem_filter.mpr ⟨List.mem_range.mpr (NA.lt a.nest hb), decide_eq_true hb⟩)), a.stack, a.ff, fun L hL => hideAll_none _ (List.mem_append_right _ hL), a.fna, a.inst.keeps old, a.root⟩, old, key⟩
theorem start_get (i : Ix) (h : (start.get i).isSome = true) : i = .one := by
  cases i with
  | one => rfl
  | o p => rw [show start.get (.o p) = BT.get .nil p from rfl, BT.get_nil] at h; cases h
  | i p => rw [show start.get (.i p) = BT.get .nil p from rfl, BT.get_nil] at h; cases h
/-- the nest is made -/
theorem amb_start {hb : Heap} {L r : Addr} {m : Str → Option Value} {env : Env} (g : Gl w mg mb hb) (k : ∀ b o, hb.get? b = some o → h.get? b = some o) (hL : hb.objs.size ≤ L) (hr : L < r) (hlx : L < x) (n : h.Ns L m) (i : InstN h x r) (hdx : ∀ dx, h.get? x = some (instObj 46 dx) → dx ≠ r ∧ L < dx)
    (hxr : x ≠ r) (d : h.DictOf (PySem.strKind prog w) r []) (hs : A.frames = some []) (hf : env.frame = some L) (hk : env.scope.kind ≠ .module) :
    ∃ h₁, Amb prog w mg mb h₁ x (A.deeper env) [env] h start (fun _ => r) ∧ ∀ b o, b ≠ L → b ≠ r → h.get? b = some o → h₁.get? b = some o := by
  have key : ∀ b o, b ≠ L → b ≠ r → h.get? b = some o → (hideAll h [L, r]).get? b = some o := fun b o h1 h2 e => hideAll_get _ e fun hm => by
    rcases List.mem_cons.mp hm with q | hm
    · exact h1 q
    · exact h2 (List.mem_singleton.mp hm)
  have old : ∀ b o, hb.get? b = some o → (hideAll h [L, r]).get? b = some o := fun b o e =>
    have hlt := Nat.lt_of_lt_of_le (Heap.lt_size e) hL
    key b o (Nat.ne_of_lt hlt) (Nat.ne_of_lt (Nat.lt_trans hlt hr)) (k b o e)
  have na : ∀ b, NA start (fun _ => r) b → b = r := fun b hb => by obtain ⟨_, _, e⟩ := hb; exact e.symm
  have fr : ∀ b ∈ frs [env], b = L := fun b hb => by
    rcases mem_frs_cons hf hb with q | q
    · exact q
    · cases q
  have g3 : 3 < r := Nat.lt_trans (Nat.lt_of_lt_of_le g.g.lt hL) hr
  refine ⟨hideAll h [L, r], ⟨g.keeps old, fun b o e => of_hideAll _ e, ⟨fun i o e => ?_, fun i j hi hj _ => (start_get i hi).trans (start_get j hj).symm, fun i hi => ?_, fun _ _ => g3⟩, fun b hb => ?_, Around.frames_deeper hs, fun e he => ?_, fun b hb => ?_, fun b hb hn => ?_, ?_, rfl⟩, key⟩
  · have := start_get i (by rw [e]; rfl)
    subst this
    cases e
    exact ⟨[], d, .nil, Nat.zero_le _⟩
  · rw [start_get i hi]; decide
  · rw [na b hb]; exact hideAll_none _ (.tail _ (.head _))
  · rw [List.mem_singleton.mp he]
    obtain ⟨o', es, ep, ho, hd', _⟩ := n
    exact ⟨hk, L, o', hf, ho, fun vs q => by rw [hd'] at q; cases q⟩
  · rw [fr b hb]; exact hideAll_none _ (.head _)
  · exact Nat.ne_of_lt hr ((fr b hb).symm.trans (na b hn))
  · obtain ⟨dx, es, nn, h1, h2, h3⟩ := i
    obtain ⟨q1, q2⟩ := hdx dx h1
    exact ⟨dx, es, nn, key _ _ (Nat.ne_of_gt hlx) hxr h1, key _ _ (Nat.ne_of_gt q2) q1 h2, h3⟩
end
theorem RIn.nm_inv {lo : Nat} {h : Heap} {v : Value} {r : R} {k : Nm} (x : RIn lo h v r) (e : r = .n k) : ∃ t, v = .str k.str t := by
  cases x with
  | n y t => cases e; exact ⟨t, rfl⟩
  | i j t => cases e
  | list a b c => rename_i rs; cases rs <;> cases e
theorem NmsAre.ofR {lo : Nat} {h : Heap} : ∀ {ks : List Nm} {vs : List Value}, RAll lo h vs (ks.map R.n) → NmsAre vs ks
  | [], _, x => by cases x; exact .nil
  | k :: ks, _, x => by
    cases x with
    | cons a b => obtain ⟨t, rfl⟩ := a.nm_inv rfl; exact .cons k t (NmsAre.ofR b)
theorem intsGet : ∀ {vs : List Value} {xs : List Int} {i : Nat} {v : Value}, IntsAre vs xs → vs[i]? = some v → ∃ x t, xs[i]? = some x ∧ v = .int x t
  | _, _, _, _, .nil, e => by simp at e
  | _, _, 0, _, .cons x t _, e => by simp at e; exact ⟨x, t, rfl, e.symm⟩
  | _, _, i + 1, v, .cons (vs := vs) _ _ h, e => by
    have e' : vs[i]? = some v := by simpa using e
    obtain ⟨x, t, p, q⟩ := intsGet h e'
    exact ⟨x, t, by simpa using p, q⟩
def nmOf (k : Int) : Nm := match (k % 3).toNat with
  | 0 => .a
  | 1 => .b
  | _ => .e
theorem nmOf_cases (k : Int) : (k.fmod 3 = 0 ∧ nmOf k = .a) ∨ (k.fmod 3 = 1 ∧ nmOf k = .b) ∨ (k.fmod 3 = 2 ∧ nmOf k = .e) := by
  have e : k.fmod 3 = k % 3 := Int.fmod_eq_emod_of_nonneg k (by decide)
  have h1 : 0 ≤ k % 3 := Int.emod_nonneg k (by decide)
  have h2 : k % 3 < 3 := Int.emod_lt_of_pos k (by decide)
  have h3 : k % 3 = 0 ∨ k % 3 = 1 ∨ k % 3 = 2 := by omega
  rw [e]
  unfold nmOf
  rcases h3 with q | q | q <;> rw [q]
  · exact .inl ⟨rfl, rfl⟩
  · exact .inr (.inl ⟨rfl, rfl⟩)
  · exact .inr (.inr ⟨rfl, rfl⟩)
theorem nmOf_menu (k : Int) : nmOf k ∈ menu := by
  unfold nmOf
  split <;> simp [menu]
end Nest
namespace Nest
section
variable {prog : Program} {w : World} {A : Around} {E : Value → Shared → Prop} {env : Env}
theorem comp_block_use {α : Type} {elt iter : Expr} {x : Str} {px : Pos} {ifs : List Expr} {scope : Scope} {cl : List (Str × Addr)} {pos : Pos} {s₂ : Shared} {p : α → Bool} {d : α → R} {Q Q₂ : Value → Shared → Prop} {it : Value} {u : Value → Sem Unit}
    (hcell : ∀ y ∈ scope.names, y.2 ≠ .cell) (hkind : scope.kind = .function) (hx : scope.names.lookup x = some .local)
    (H : CompSrc prog w A env elt x ifs scope cl p d Q it s₂)
    (hu : ∀ (D : Addr) s' C m', Q (.ref D) s' → s'.heap.Ns C m' → D < C → wpAny (model prog w) A (u (.ref D)) (fun _ s'' => ∃ m, s''.heap.Ns C m ∧ ∀ h', Heap.SameBut C s''.heap h' → Q₂ .none { s'' with heap := h' }) E s') :
    wpAny (model prog w) A (newList []) (fun acc s₃ => wpAny (model prog w) A (newFunctionEnv scope env.globals cl [] env.qual none .none (some env)) (fun cenv s₄ =>
      codeAny (model prog w) A (.compStart (.ListComp elt [⟨.Name x px, iter, ifs, 0⟩] scope pos) 0 it acc { cenv with scope := relabel scope env }) (compPost (model prog w) A E (some u) Q₂ acc cenv.locals) s₄) E s₃) E s₂ := by
  obtain ⟨I, fp, wr, St, as, is, rfl, W, hsz, hst, hfp, htests, helt, hQ⟩ := H
  refine wpAny_newObj_type (wpAny_newFunctionEnv hcell (by intro y hy; simp at hy) (fun h₁ hns₁ hsb₁ => ?_) hkind)
  dsimp only at hns₁ hsb₁ ⊢
  generalize hH2 : s₂.heap.push { cls := .type "list", dict := none, data := .seq ([] : List Value).toArray } = H2 at hns₁ hsb₁ ⊢
  have hC : H2.objs.size = s₂.heap.objs.size + 1 := by rw [← hH2, Heap.size_push]
  have hDC : s₂.heap.objs.size < H2.objs.size := by rw [hC]; exact Nat.lt_succ_self _
  have below : ∀ b, b < s₂.heap.objs.size → b ≠ H2.objs.size ∧ b ≠ s₂.heap.objs.size := fun b hb => ⟨by rw [hC]; exact Nat.ne_of_lt (Nat.lt_succ_of_lt hb), Nat.ne_of_lt hb⟩
  have hDf : s₂.heap.objs.size ∉ fp := fun hm => Nat.lt_irrefl _ (hfp _ hm)
  have hCf : H2.objs.size ∉ fp := fun hm => by have := hfp _ hm; rw [hC] at this; exact Nat.lt_irrefl _ (Nat.lt_of_succ_lt this)
  have old : ∀ b o, s₂.heap.get? b = some o → h₁.get? b = some o := fun b o e => hsb₁.extBut b o (below b (Heap.lt_size e)).1 (Heap.get?_push_of_some _ (hH2 ▸ Heap.get?_push_of_some _ e))
  have hacc : h₁.PlainList s₂.heap.objs.size #[] := ⟨_, hsb₁.extBut _ _ (Nat.ne_of_lt hDC) (Heap.get?_push_of_some _ (hH2 ▸ Heap.get?_push_size _ rfl))⟩
  have hst₁ : St 0 h₁ := W.frame _ _ _ hst fun b _ o e => old b o e
  have hwr : ∀ b ∈ wr, b < H2.objs.size := fun b hb => Nat.lt_trans (hfp b (W.sub b hb)) hDC
  have loop : ∀ s₃ : Shared, s₃ = { s₂ with heap := h₁, toks := s₂.toks + ([] : List (Str × Value)).length } →
      codeAny (model prog w) A (.compLoop (.ListComp elt [⟨.Name x px, iter, ifs, 0⟩] scope pos) 0 (.ref I) (.ref s₂.heap.objs.size) (compEnvC scope cl H2.objs.size env))
        (compPost (model prog w) A E (some u) Q₂ (.ref s₂.heap.objs.size) H2.objs.size) s₃ := by
    rintro s₃ rfl
    refine comp_loop (hsz := hsz) (cenv := compEnvC scope cl H2.objs.size env) as is p d W (lookup_relabel_local hx) (by simp [compEnvC, relabel, hkind]) hDC hDf hCf hwr hst₁ hacc hns₁
      (fun a v s₃ m₃ ha hv hn hm hk => htests _ a v s₃ m₃ _ (Nat.le_of_lt hDC) ha hv hn hm (fun b o hbf e => hk b o (below b (Heap.lt_size e)).1 hbf (below b (Heap.lt_size e)).2 (old b o e)))
      (fun a v s₃ m₃ ha hv hpv hn hm hk => helt _ a v s₃ m₃ _ (Nat.le_of_lt hDC) ha hv hpv hn hm (fun b o hbf e => hk b o (below b (Heap.lt_size e)).1 hbf (below b (Heap.lt_size e)).2 (old b o e))) fun h' tk m' ys hn hpl hF hk => ?_
    have hCn : ∀ b o, s₂.heap.get? b = some o → b ≠ H2.objs.size := fun b o e => (below b (Heap.lt_size e)).1
    exact hu _ { s₂ with heap := h', toks := tk } H2.objs.size m' (hQ _ h' tk ys (Nat.le_refl _) hpl (hF.mono (Nat.le_succ_of_le (Nat.le_of_lt hDC)) fun _ _ _ e => e)
      (fun b o hbf e => hk b o (hCn b o e) hbf (below b (Heap.lt_size e)).2 (old b o e)) (Nat.lt_trans hDC hn.lt)) hn hDC
  exact codeAny_compStart_list (loop _ rfl) (W.self 0 _ _ _ hst₁ (loop _ rfl))

/-- y = [.. for x in ..] -/
theorem comp_assign {α : Type} {s : Shared} {elt iter : Expr} {x y : Str} {px py : Pos} {ifs : List Expr} {scope : Scope} {cl : List (Str × Addr)} {pos spos : Pos} {Q : Flow → Shared → Prop} (p : α → Bool) (d : α → R)
    (hsw : swapsWith (.ListComp elt [⟨.Name x px, iter, ifs, 0⟩] scope pos) (some (.Name y py)) spos.line env = pure true)
    (hclos : closureFor scope env = pure cl) (hcell : ∀ y ∈ scope.names, y.2 ≠ .cell) (hkind : scope.kind = .function)
    (hnames : ∀ y ∈ scope.names, y.2 = .local → scope.names.lookup y.1 = some .local) (hx : scope.names.lookup x = some .local)
    (h : wpAny (model prog w) A (eval iter env) (fun xv s₁ => wpAny (model prog w) A (pyIter xv) (fun it s₂ => ∃ Q', CompSrc prog w A env elt x ifs scope cl p d Q' it s₂ ∧
      ∀ (D : Addr) s' C m', Q' (.ref D) s' → s'.heap.Ns C m' → D < C → wpAny (model prog w) A (assign (.Name y py) env (.ref D)) (fun _ s'' => ∃ m, s''.heap.Ns C m ∧ ∀ h', Heap.SameBut C s''.heap h' → Q .next { s'' with heap := h' }) E s') E s₁) E s)
    (hs : ∀ x, foldedSetIterable iter env x = pure x) :
    wpAny (model prog w) A (exec (.Assign [.Name y py] (.ListComp elt [⟨.Name x px, iter, ifs, 0⟩] scope pos) spos) env) Q E s := by
  rw [exec_Assign_Name_used _ _ _ _ hsw]
  refine wpAny_bind (wpAny_standAt (wpAny_bind ?_))
  show wpAny _ A (do let _ ← comprehension (.ListComp elt [⟨.Name x px, iter, ifs, 0⟩] scope pos) scope env _ (newList []) false (eval iter env) (some (assign (.Name y py) env))) _ _ s
  refine wpAny_bind (wpAny_mono (wpAny_comprehension_free (use := some (assign (.Name y py) env)) (Q := fun _ s' => Q .next s') rfl hs hclos hkind hnames (wpAny_mono h (fun xv s₁ h₁ => wpAny_mono h₁ (fun it s₂ h₂ => ?_) fun _ _ e => e) fun _ _ e => e))
    (fun _ s' hq => wpAny_pure (wpAny_pure hq)) fun _ _ e => e)
  obtain ⟨Q', H, hu⟩ := h₂
  exact comp_block_use hcell hkind hx H hu
end
end Nest
namespace Nest
mutual
def R.py : R → PyData
  | .n x => .str x.str
  | .i k => .int k
  | .nil => .list []
  | .cons h t => .list (h.py :: t.pys)
def R.pys : R → List PyData
  | .n _ => []
  | .i _ => []
  | .nil => []
  | .cons h t => h.py :: t.pys
end
theorem pys_ofList : ∀ rs : List R, (R.ofList rs).pys = rs.map R.py
  | [] => rfl
  | r :: rs => by rw [R.ofList, R.pys, pys_ofList rs]; rfl
theorem py_ofList (rs : List R) : (R.ofList rs).py = .list (rs.map R.py) := by
  cases rs with
  | nil => rfl
  | cons r rs => rw [R.ofList, R.py, pys_ofList]; rfl
theorem R.eq_of : ∀ {a b : R}, a.eq b = true → a = b
  | .n x, .n y, h => by rw [R.eq] at h; rw [Nm.eq_iff.mp h]
  | .i x, .i y, h => by rw [R.eq] at h; rw [Nat.eq_of_beq_eq_true h]
  | .nil, .nil, _ => rfl
  | .cons a b, .cons c d, h => by
    rw [R.eq] at h
    cases e : a.eq c with
    | true => rw [e] at h; rw [R.eq_of e, R.eq_of h]
    | false => rw [e] at h; cases h
  | .n _, .i _, h => by cases h
  | .n _, .nil, h => by cases h
  | .n _, .cons _ _, h => by cases h
  | .i _, .n _, h => by cases h
  | .i _, .nil, h => by cases h
  | .i _, .cons _ _, h => by cases h
  | .nil, .n _, h => by cases h
  | .nil, .i _, h => by cases h
  | .nil, .cons _ _, h => by cases h
  | .cons _ _, .n _, h => by cases h
  | .cons _ _, .i _, h => by cases h
  | .cons _ _, .nil, h => by cases h
mutual
theorem RIn.reads {lo : Nat} {h : Heap} : ∀ {v : Value} {r : R}, RIn lo h v r → ∃ as, Reads h v r.py as
  | _, _, .n x t => ⟨[], .str _ _⟩
  | _, _, .i k t => ⟨[], .int _ _⟩
  | _, _, .list (a := a) (rs := rs) _ p q => by
    obtain ⟨as, z⟩ := RAll.reads q
    obtain ⟨o, ho, hc, n, hd⟩ := p.isList
    refine ⟨a :: as, ?_⟩
    rw [py_ofList]
    exact Reads.list ho hc hd z
theorem RAll.reads {lo : Nat} {h : Heap} : ∀ {vs : List Value} {rs : List R}, RAll lo h vs rs → ∃ as, ReadsAll h vs (rs.map R.py) as
  | _, _, .nil => ⟨[], .nil⟩
  | _, _, .cons p q => by
    obtain ⟨as, x⟩ := RIn.reads p
    obtain ⟨bs, y⟩ := RAll.reads q
    exact ⟨as ++ bs, ReadsAll.cons x y⟩
end
mutual
theorem R.lay : ∀ r : R, r.py.canLay0 = true
  | .n x => x.strOk
  | .i _ => rfl
  | .nil => rfl
  | .cons h t => by
    show (h.py.canLay0 && PyData.canLayAll0 t.pys) = true
    rw [R.lay h, R.lays t]; rfl
theorem R.lays : ∀ r : R, PyData.canLayAll0 r.pys = true
  | .n _ => rfl
  | .i _ => rfl
  | .nil => rfl
  | .cons h t => by
    show (h.py.canLay0 && PyData.canLayAll0 t.pys) = true
    rw [R.lay h, R.lays t]; rfl
end
mutual
theorem R.same : ∀ r : R, PyData.eqv r.py r.py = true
  | .n x => by cases x <;> decide
  | .i k => by simp [R.py, PyData.eqv]
  | .nil => rfl
  | .cons h t => by
    show (PyData.eqv h.py h.py && PyData.eqvAll t.pys t.pys) = true
    rw [R.same h, R.sames t]; rfl
theorem R.sames : ∀ r : R, PyData.eqvAll r.pys r.pys = true
  | .n _ => rfl
  | .i _ => rfl
  | .nil => rfl
  | .cons h t => by
    show (PyData.eqv h.py h.py && PyData.eqvAll t.pys t.pys) = true
    rw [R.same h, R.sames t]; rfl
end
theorem depthAll_le {m : Nat} : ∀ {ds : List PyData}, (∀ d ∈ ds, d.depth ≤ m) → PyData.depthAll ds ≤ m
  | [], _ => Nat.zero_le _
  | d :: ds, h => by
    show max d.depth (PyData.depthAll ds) ≤ m
    exact Nat.max_le.mpr ⟨h d (.head _), depthAll_le fun x hx => h x (.tail _ hx)⟩
theorem ofList_depth {m : Nat} {rs : List R} (h : ∀ r ∈ rs, r.py.depth ≤ m) : (R.ofList rs).py.depth ≤ m + 1 := by
  rw [py_ofList]
  show PyData.depthAll (rs.map R.py) + 1 ≤ m + 1
  refine Nat.succ_le_succ (depthAll_le fun d hd => ?_)
  obtain ⟨r, hr, rfl⟩ := List.mem_map.mp hd
  exact h r hr
theorem two_depth {m : Nat} {x y : R} (hx : x.py.depth ≤ m) (hy : y.py.depth ≤ m) : (R.two x y).py.depth ≤ m + 1 :=
  ofList_depth (rs := [x, y]) fun r hr => by
    rcases List.mem_cons.mp hr with rfl | hr
    · exact hx
    · rw [List.mem_singleton.mp hr]; exact hy
theorem item_depth (text : List Nm) (p e : Nat) : (item text p e).py.depth ≤ 3 := by
  unfold item
  rw [mapR_eq]
  refine ofList_depth (rs := R.two (.n .t) (.i p) :: (cut text e 1).map fun k => R.two (.n k) .nil) fun r hr => ?_
  rcases List.mem_cons.mp hr with rfl | hr
  · exact two_depth (m := 1) (Nat.zero_le _) (Nat.zero_le _)
  · obtain ⟨k, _, rfl⟩ := List.mem_map.mp hr
    exact two_depth (m := 1) (Nat.zero_le _) (Nat.le_refl _)
theorem due_depth (text : List Nm) : ∀ (f : Nat) (word : List Nm) (r : R), due text f word = some r → r.py.depth ≤ 2 * f + 6
  | 0, _, _, h => by cases h
  | f + 1, word, r, h => by
    obtain ⟨d, hd, rfl⟩ := due_split h
    refine Nat.le_trans (ofList_depth (m := 2 * f + 7) fun x hx => ?_) (by omega)
    rcases List.mem_append.mp hx with hx | hx
    · cases word with
      | nil => cases hx
      | cons y word =>
        rw [dueHead, List.mem_singleton] at hx
        subst hx
        refine Nat.le_trans (two_depth (m := 4) (Nat.zero_le _) (ofList_depth (m := 3) fun z hz => ?_)) (by omega)
        rcases List.mem_cons.mp hz with rfl | hz
        · exact Nat.zero_le _
        · obtain ⟨p, _, rfl⟩ := List.mem_map.mp hz
          exact item_depth _ _ _
    · obtain ⟨k, hk, rfl⟩ := List.mem_map.mp hx
      exact two_depth (Nat.zero_le _) (due_depth text f _ _ (hd k hk))
theorem due_shaped {text word : List Nm} {f : Nat} {r : R} (h : due text f word = some r) (hf : f ≤ 20) : SeqAt.shaped r.py = true := by
  have := due_depth text f word r h
  unfold SeqAt.shaped
  rw [R.lay, decide_eq_true (by omega)]; rfl
section
variable {prog : Program} {w : World} {A : Around} {E : Value → Shared → Prop} {s : Shared} {lo lo' : Nat} {v u : Value} {r : R}
theorem ne_rin {Q : Value → Shared → Prop} (a : RIn lo s.heap v r) (b : RIn lo' s.heap u r) (hs : SeqAt.shaped r.py = true) (hu : A.units + 64 < cLine) (h : Q (.bool false) s) : wpAny (model prog w) A (compareOp .NotEq v u) Q E s := by
  obtain ⟨as, x⟩ := a.reads
  obtain ⟨bs, y⟩ := b.reads
  refine SeqAt.compareNe_shaped x y hs hs hu ?_
  rw [R.same]; exact h
theorem eq_rin {Q : Value → Shared → Prop} (a : RIn lo s.heap v r) (b : RIn lo' s.heap u r) (hs : SeqAt.shaped r.py = true) (hu : A.units + 64 < cLine) (h : Q (.bool true) s) : wpAny (model prog w) A (compareOp .Eq v u) Q E s := by
  obtain ⟨as, x⟩ := a.reads
  obtain ⟨bs, y⟩ := b.reads
  refine SeqAt.compareEq_shaped x y hs hs hu ?_
  rw [R.same]; exact h
end
end Nest
namespace Nest
theorem foldO_drop {α β : Type} {f : α → β → Option α} {l : List β} {i : Nat} {b : β} {a c : α} (hb : l[i]? = some b) (h : foldO f (l.drop i) a = some c) : ∃ a', f a b = some a' ∧ foldO f (l.drop (i + 1)) a' = some c := by
  rw [drop_get hb, foldO] at h
  cases e : f a b with
  | none => rw [e] at h; cases h
  | some a' => rw [e] at h; exact ⟨a', rfl, h⟩
theorem foldO_end {α β : Type} {f : α → β → Option α} {l : List β} {a c : α} (h : foldO f (l.drop l.length) a = some c) : a = c := by
  rw [List.drop_length, foldO] at h
  cases h; rfl
theorem pick_drop (items : Array Value) (a : Nat) : slicePick items (some (a : Int)) none none = (items.toList.drop a).toArray := by
  rw [slicePick_plain]
  simp only [Option.elim, clipAt_nat]
  congr 1
  have hl : items.toList.length = items.size := by simp
  rcases Nat.le_total a items.size with h | h
  · rw [Nat.min_eq_left h, List.take_of_length_le (by rw [List.length_drop, hl]; exact Nat.le_refl _)]
  · rw [Nat.min_eq_right h, List.drop_of_length_le (by rw [hl]; exact Nat.le_refl _), List.drop_of_length_le (by rw [hl]; exact h)]; simp
theorem part_inv {text : List Nm} {G G' : GH} {i : Nat} (h : part text G i = some G') : ∃ j y, walkN false (text.drop i) G .one = .ok G' j ∧ flat G' fuel (.ref j) = some y ∧ due text 10 (text.drop i) = some y := by
  unfold part at h
  split at h
  · rename_i G1 j h1
    split at h
    · rename_i x y h2 h3
      split at h
      · rename_i h4
        cases h
        have := R.eq_of h4
        subst this
        exact ⟨j, x, h1, h2, h3⟩
      · cases h
    · cases h
  · cases h
def Kp (fs : List Addr) (h : Heap) (G : GH) (ρ : Ix → Addr) (h' : Heap) (G' : GH) (ρ' : Ix → Addr) : Prop :=
  (∀ b, b ∉ fs → ¬ NA G ρ b → ∀ o, h.get? b = some o → h'.get? b = some o) ∧ ∀ b, NA G' ρ' b → NA G ρ b ∨ ∀ o, h.get? b ≠ some o
section
variable {fs : List Addr} {h h' h'' : Heap} {G G' G'' : GH} {ρ ρ' ρ'' : Ix → Addr}
theorem Kp.refl : Kp fs h G ρ h G ρ := ⟨fun _ _ _ _ e => e, fun _ hb => .inl hb⟩
theorem Kp.trans (x : Kp fs h G ρ h' G' ρ') (hna : ∀ b, NA G' ρ' b → b ∉ fs) (y : Kp fs h' G' ρ' h'' G'' ρ'') (hf : ∀ b, NA G'' ρ'' b → b ∉ fs) : Kp fs h G ρ h'' G'' ρ'' := by
  refine ⟨fun b h1 h2 o e => ?_, fun b hb => ?_⟩
  · refine y.1 b h1 (fun q => ?_) o (x.1 b h1 h2 o e)
    rcases x.2 b q with q | q
    · exact h2 q
    · exact q o e
  · rcases y.2 b hb with q | q
    · exact x.2 b q
    · by_cases hn : NA G ρ b
      · exact .inl hn
      · exact .inr fun o e => q o (x.1 b (hf b hb) hn o e)
theorem Kp.ofStep (x : StepF fs h G ρ h' G' ρ') : Kp fs h G ρ h' G' ρ' :=
  ⟨fun b h1 h2 o e => (x.up b h2).keep h1 e, fun b hb => (x.na_or hb).imp id fun q o e => Nat.lt_irrefl _ (Nat.lt_of_lt_of_le (Heap.lt_size e) q)⟩
theorem Kp.grow (g : Grow h h') : Kp fs h G ρ h' G ρ := .ofStep (.ofGrow g)
theorem Kp.store {L : Addr} (hL : L ∈ fs) (s : Heap.SameBut L h h') : Kp fs h G ρ h' G ρ := ⟨fun b h1 _ o e => s.extBut b o (fun q => h1 (q ▸ hL)) e, fun _ hb => .inl hb⟩
end
section
variable {prog : Program} {w : World} {mg mb : Str → Option Value} {h₀ : Heap} {xN : Addr} {A : Around} {outer : List Env} {env : Env} {E : Value → Shared → Prop} {s : Shared}
theorem Amb.offs {h : Heap} {G : GH} {ρ : Ix → Addr} (a : Amb prog w mg mb h₀ xN A outer h G ρ) : ∀ b, NA G ρ b → b ∉ frs outer := fun b hb hm => a.fna b hm hb
/-- a for over a range, the nest at hand -/
structure ForR (prog : Program) (w : World) (mg mb : Str → Option Value) (h₀ : Heap) (xN : Addr) (A : Around) (outer : List Env) (env : Env) (x : Str) (body : List Stmt) (Q : Flow → Shared → Prop) (E : Value → Shared → Prop) (a n : Nat) (J : Nat → GH → (Str → Option Value) → Prop) (s₁ : Shared) (G₀ : GH) (ρ₀ : Ix → Addr) (m₀ : Str → Option Value) : Prop where
  amb : Amb prog w mg mb h₀ xN (A.deeper env) (env :: outer) s₁.heap G₀ ρ₀
  ns : s₁.heap.Ns env.locals m₀
  init : J 0 G₀ m₀
  step : ∀ (i : Nat) (h : Heap) (tk : Nat) (G : GH) (ρ : Ix → Addr) (m : Str → Option Value) (t : Tok), i < n → Amb prog w mg mb h₀ xN (A.deeper env) (env :: outer) h G ρ → J i G m → h.Ns env.locals (fun y => if y = x then some (.int ((a + i : Nat) : Int) t) else m y) →
    wpAny (model prog w) (A.deeper env) (execs body env) (fun f s₄ => match f with
      | .next => ∃ h' tk' G' ρ' m', s₄ = { s₁ with heap := h', toks := tk' } ∧ Amb prog w mg mb h₀ xN (A.deeper env) (env :: outer) h' G' ρ' ∧ h'.Ns env.locals m' ∧ J (i + 1) G' m' ∧ Kp (frs (env :: outer)) h G ρ h' G' ρ'
      | .ret v => Q (.ret v) s₄
      | _ => False) E { s₁ with heap := h, toks := tk }
  done : ∀ (h : Heap) (tk : Nat) (G : GH) (ρ : Ix → Addr) (m : Str → Option Value), Amb prog w mg mb h₀ xN (A.deeper env) (env :: outer) h G ρ → h.Ns env.locals m → J n G m → Kp (frs (env :: outer)) s₁.heap G₀ ρ₀ h G ρ → Q .next { s₁ with heap := h, toks := tk }
theorem for_range {x : Str} {px pos : Pos} {iter : Expr} {body : List Stmt} {Q : Flow → Shared → Prop} (hh : A.handled = none) (hf : env.frame = some env.locals) (hx : env.kindOf x = some .local) (hk : env.scope.kind = .function)
    (hE : PassesOwn (model prog w) (A.deeper env) env E)
    (h : wpAny (model prog w) (A.deeper env) (eval iter env) (fun xv s₁ => ∃ r a n t u v J G₀ ρ₀ m₀, xv = .ref r ∧ IsRange s₁.heap r ((a : Nat) : Int) ((a + n : Nat) : Int) 1 t u v ∧ a + n ≤ 1000 ∧ ForR prog w mg mb h₀ xN A outer env x body Q E a n J s₁ G₀ ρ₀ m₀) E s)
    (hs : ∀ x, foldedSetIterable iter env x = pure x := by intro _; rfl) :
    wpAny (model prog w) (A.deeper env) (exec (.For (.Name x px) iter body [] pos) env) Q E s := by
  refine for_walk hE (wpAny_mono h (fun xv s₁ h₁ => ?_) fun _ _ e => e) hs
  obtain ⟨r, a, n, t, u, v, J, G₀, ρ₀, m₀, rfl, hr, hsz, H⟩ := h₁
  have hrs : Builtin.Range.rangeSize ((a : Nat) : Int) ((a + n : Nat) : Int) 1 = (n : Int) := by
    rw [rangeSize_one]
    split <;> omega
  obtain ⟨hIf, hIn⟩ := H.amb.off (Nat.le_refl s₁.heap.objs.size)
  have hI0 := H.amb.above (Nat.le_refl s₁.heap.objs.size)
  have hIL : s₁.heap.objs.size ≠ env.locals := Nat.ne_of_gt H.ns.lt
  have hE' : ∀ b o, s₁.heap.get? b = some o → b ≠ s₁.heap.objs.size := fun b o e => Nat.ne_of_lt (Heap.lt_size e)
  refine wpAny_pyIter_range hr (small_one (by omega) (by omega) (by omega) (by omega)) ⟨s₁.heap.objs.size, [s₁.heap.objs.size], [s₁.heap.objs.size], n, _, _,
    fun i h => ∃ G ρ m, Amb prog w mg mb h₀ xN (A.deeper env) (env :: outer) h G ρ ∧ h.Ns env.locals m ∧ J i G m ∧ Kp (frs (env :: outer)) s₁.heap G₀ ρ₀ h G ρ ∧ ¬ NA G ρ s₁.heap.objs.size, rfl,
    ⟨Walks.range (A := A.deeper env) hh s₁.heap.objs.size ((a : Nat) : Int) 1 n, ?_, ?_, ?_, ?_, ?_⟩⟩
  · rw [hrs]
    have := Heap.get?_push_size s₁.heap (o := { cls := .type "range_iterator", data := .fields #[rawInt ((a : Nat) : Int), rawInt (n : Int), rawInt 1] }) rfl
    simpa [IsRangeIter, rawInt] using this
  · exact ⟨G₀, ρ₀, m₀, H.amb.grow (.push _ _), H.ns.keeps fun b o e => Heap.get?_push_of_some _ e, H.init, .grow (.push _ _), hIn⟩
  · rintro i h h' ⟨G, ρ, m, am, n1, j, k, hn⟩ hk'
    exact ⟨G, ρ, m, am.iter hk' hIf hn hI0, n1.at' fun o e => hk' _ o (fun q => hIL (List.mem_singleton.mp q).symm) e, j,
      ⟨fun b h1 h2 o e => hk' b o (fun q => hE' b o e (List.mem_singleton.mp q)) (k.1 b h1 h2 o e), k.2⟩, hn⟩
  · rintro i v h tk hi ⟨t', rfl⟩ ⟨G, ρ, m, am, n1, j, k, hn⟩ hst
    have hIh : s₁.heap.objs.size < h.objs.size := Heap.lt_size hst
    refine st_ns n1 hx (fun h2 n2 hs2 => ?_) (by rw [hk]; rfl)
    have am2 := am.store (frs_self hf) hs2 n2
    have ei : ((a : Nat) : Int) + (i : Nat) * 1 = ((a + i : Nat) : Int) := by omega
    rw [ei] at n2
    refine wpAny_mono (H.step i h2 _ G ρ m t' hi am2 j n2) (fun f s₄ h₄ => ?_) fun _ _ e => e
    cases f with
    | next =>
      obtain ⟨h', tk', G', ρ', m', rfl, am', n', j', k'⟩ := h₄
      have hI2 : s₁.heap.objs.size < h2.objs.size := by rw [hs2.1]; exact hIh
      have k2 : Kp (frs (env :: outer)) s₁.heap G₀ ρ₀ h2 G ρ := k.trans am.offs (.store (frs_self hf) hs2) am2.offs
      have eI : ∀ o, h.get? s₁.heap.objs.size = some o → h'.get? s₁.heap.objs.size = some o := fun o e => k'.1 _ hIf hn o (hs2.extBut _ o hIL e)
      refine ⟨h', tk', rfl, ⟨G', ρ', m', am', n', j', k2.trans am2.offs k' am'.offs, fun q => ?_⟩, fun b hb o e => ?_⟩
      · rcases k'.2 _ q with q | q
        · exact hn q
        · exact q _ (hs2.extBut _ _ hIL hst)
      · rw [List.mem_singleton.mp hb] at e ⊢
        exact eI o e
    | ret v => exact h₄
    | cont => exact h₄.elim
    | brk => exact h₄.elim
  · rintro h tk ⟨G, ρ, m, am, n1, j, k, _⟩
    exact H.done h tk G ρ m am n1 j k
theorem with_amb {hb : Heap} {L r : Addr} {m : Str → Option Value} {ss : List Stmt} {Q : Flow → Shared → Prop} (g : Gl w mg mb hb) (k : ∀ b o, hb.get? b = some o → s.heap.get? b = some o) (hL : hb.objs.size ≤ L) (hr : L < r) (hlx : L < xN) (n : s.heap.Ns L m) (i : InstN s.heap xN r) (hdx : ∀ dx, s.heap.get? xN = some (instObj 46 dx) → dx ≠ r ∧ L < dx)
    (hxr : xN ≠ r) (d : s.heap.DictOf (PySem.strKind prog w) r []) (hs : A.frames = some []) (hf : env.frame = some L) (hk : env.scope.kind = .function)
    (c : ∀ h₁, Amb prog w mg mb h₁ xN (A.deeper env) [env] s.heap start (fun _ => r) → (∀ b o, b ≠ L → b ≠ r → s.heap.get? b = some o → h₁.get? b = some o) → wpAny (model prog w) (A.deeper env) (execs ss env) Q E s) :
    wpAny (model prog w) (A.deeper env) (execs ss env) Q E s := by
  obtain ⟨h₁, a, key⟩ := amb_start g k hL hr hlx n i hdx hxr d hs hf (by rw [hk]; decide)
  exact c h₁ a key
end
end Nest
namespace Nest
set_option maxRecDepth 100000 in
set_option maxHeartbeats 4000000 in
theorem main : PySem.Challenge.rw_ij0146_01.Holds := by
  refine Nest.hd ?_
  k_go0
  rename IntsAre _ _ => hI
  rename Heap.IsList _ _ _ => hL
  rename News _ _ _ _ => N0
  rename Fr _ _ _ _ => F
  rename Frag.In _ _ => KX
  rename Top _ _ _ _ _ _ => T
  rename Below _ _ _ _ => K0
  rename ¬ _ < _ => hmost
  rename_i W s₀ s₁ mg mb GG YY fa oF pm doc kV ho hg XX VV GL BB TE TW w180 w182 MM w214 w216 hcd ns hs0 hly hLay hr0 hl2 w4 w3 aS vsS asS ra w1 r0 hr1 hcond hD h₁
  have G0 : Gl W mg mb s₁.heap := Gl.mk KX T.g T.b T.nolimit T.builtins
  have hlen := hI.length
  have hns : ns.length ≤ 63 := by omega
  clear GG YY XX VV GL BB TE TW MM hD hcd w1 r0 hr1 ra hLay
  have fin : ∀ h' tk', (∀ b o, s₁.heap.get? b = some o → h'.get? b = some o) → GoodW PySem.Challenge.rw_ij0146_01.row.claim (classAt s₀.heap) (ExcName.means s₀.heap) [ofPy (PyData.list (List.map PyData.int ns))] s₁ (.ok (.ret (.bool true))) { s₁ with heap := h', toks := tk' } := fun h' tk' k =>
    ⟨.inl ⟨.bool true, .bool true, [], rfl, fun _ => rfl, .bool true, by first | rfl | wrow_post, fun _ => ⟨List.nodup_nil, fun _ h => nomatch h⟩⟩, k, rfl, hg⟩
  dsimp only
  have g0 : Grow s₁.heap h₁ := Grow.of_fr F
  refine wpAny_execs_cons (wpAny_Assign_Name (eval_slice (ld_ns F.ns rfl ?_)))
  rw [evalPart_none]
  refine wpAny_pure ?_
  rw [evalPart_some]
  refine wpAny_Constant_int ⟨aS, vsS.toArray, none, some 4, rfl, ?_, ?_, .none, .int _ _, ?_⟩
  · obtain ⟨o, e, r⟩ := hL
    exact ⟨o, g0.keep _ _ e, r⟩
  · rw [List.size_toArray, hlen, sizeLine_eq]; omega
  intro D1 h2 sD1 zD1 g2 lD1
  (try dsimp only at sD1); (try dsimp only at g2); (try dsimp only)
  have iF : IntsAre (slicePick vsS.toArray none (some 4) none).toList (ns.take 4) := kmk_upto hI (by decide)
  generalize hfr : slicePick vsS.toArray none (some 4) none = frs0 at iF lD1
  have n2 := F.ns.keeps g2.keep
  have hLs : s₁.heap.objs.size < h₁.objs.size := F.ns.lt
  refine st_ns n2 rfl ?_
  intro h3 n3 hs3
  (try dsimp only at n3); (try dsimp only at hs3); (try dsimp only)
  have k3 : ∀ b o, s₁.heap.get? b = some o → h3.get? b = some o := fun b o e => hs3.extBut b o (Nat.ne_of_lt (Heap.lt_size e)) (g2.keep _ _ (g0.keep _ _ e))
  have lD3 : h3.PlainList D1 frs0 := SameBut.plain hs3 (Nat.ne_of_gt (Nat.lt_of_lt_of_le hLs sD1)) lD1
  refine wpAny_execs_cons ?_
  refine' comp_assign (α := Int) (fun _ => true) (fun k => R.n (nmOf k)) ?hsw ?hclos (by decide) rfl (by decide) rfl ?_ (by intro _; rfl)
  case hsw => with_unfolding_all rfl
  case hclos => exact closureFor_none (by decide)
  refine wpAny_BinOp (eval_list3 (wpAny_Constant_int (wpAny_Constant_int (wpAny_Constant_int ?_))))
  intro D4 h4 sD4 zD4 g4 lD4
  (try dsimp only at sD4); (try dsimp only at g4); (try dsimp only)
  have n4 := n3.keeps g4.keep
  have efr : frs0.size = (ns.take 4).length := by rw [← Array.length_toList, iF.length]
  have l4 : (ns.take 4).length ≤ 4 := by rw [List.length_take]; exact Nat.min_le_left _ _
  refine ld_ns n4 rfl (add_plain lD4 (g4.list lD3) (by rw [sizeLine_eq, efr]; simp only [List.size_toArray, List.length_cons, List.length_nil]; omega) ?_)
  intro D5 h5 sD5 zD5 g5 lD5
  (try dsimp only at sD5); (try dsimp only at g5); (try dsimp only)
  generalize hit5 : (#[_, _, _] ++ frs0 : Array Value) = items5 at lD5
  have iA : IntsAre items5.toList ([0, 1, 0] ++ ns.take 4) := by
    rw [← hit5, Array.toList_append]
    exact IntsAre.append (.cons 0 _ (.cons 1 _ (.cons 0 _ .nil))) iF
  clear hit5
  have n5 := n4.keeps g5.keep
  have k5 : ∀ b o, s₁.heap.get? b = some o → h5.get? b = some o := fun b o e => g5.keep _ _ (g4.keep _ _ (k3 b o e))
  generalize has : ([0, 1, 0] ++ ns.take 4 : List Int) = as at iA
  have las : as.length ≤ 7 := by rw [← has, List.length_append]; simp only [List.length_cons, List.length_nil]; omega
  have isz5 : items5.size = as.length := by rw [← Array.length_toList, iA.length]
  refine wpAny_mono (comp_src_list (Q := fun acc s' => ∃ D h' tk ys, acc = .ref D ∧ s' = { s₁ with heap := h', toks := tk } ∧ h5.objs.size ≤ D ∧ D < h'.objs.size ∧ h'.PlainList D ys ∧ NmsAre ys.toList (as.map nmOf) ∧ Grow h5 h')
    as (fun k v => ∃ t, v = .int k t) rfl lD5.isList isz5 (fun i v q => ?_) (by rw [sizeLine_eq]; omega) ?_ ?_ ?_) (fun it s₂ h₂ => ⟨_, h₂, fun D s' C m' hq hnC hDC => ?_⟩) (fun _ _ e => e)
  · obtain ⟨y, t, q1, q2⟩ := intsGet iA (by simpa using q)
    exact ⟨y, q1, t, q2⟩
  · intro C a v s₃ m₃ E' ha hv hn hm hk
    exact wpAny_tests_nil ⟨rfl, _, _, rfl, fun _ _ q => q⟩
  · intro C k v s₃ m₃ E' hk' hv' _ hn hm hg
    obtain ⟨t, rfl⟩ := hv'
    refine PyProof.Rows.Subscript_ (eval_tup3 (wpAny_Constant_str (wpAny_Constant_str (wpAny_Constant_str ?_))))
    intro T6 h6 sT6 zT6 g6 tT6
    (try dsimp only at sT6); (try dsimp only at g6); (try dsimp only)
    refine wpAny_BinOp (ldVarK (hn.keeps g6.keep) hm (wpAny_Constant_int (PyProof.Rows.mod_int (by decide) ?_)))
    dsimp only
    rcases nmOf_cases k with ⟨q1, q2⟩ | ⟨q1, q2⟩ | ⟨q1, q2⟩
    · rw [q1, q2]
      refine item_tupleT (l := [_, _, _]) tT6 (by decide) (by decide) (j := 0) rfl rfl ⟨⟨_, _, rfl, g6.keep⟩, .n .a _⟩
    · rw [q1, q2]
      refine item_tupleT (l := [_, _, _]) tT6 (by decide) (by decide) (j := 1) rfl rfl ⟨⟨_, _, rfl, g6.keep⟩, .n .b _⟩
    · rw [q1, q2]
      refine item_tupleT (l := [_, _, _]) tT6 (by decide) (by decide) (j := 2) rfl rfl ⟨⟨_, _, rfl, g6.keep⟩, .n .e _⟩
  · intro D7 h7 tk7 ys7 sD7 p7 r7 g7 z7
    (try dsimp only at sD7); (try dsimp only at g7); (try dsimp only at r7)
    have ef : as.filter (fun _ : Int => true) = as := List.filter_eq_self.mpr fun _ _ => rfl
    rw [ef] at r7
    have r7' : RAll h5.objs.size h7 ys7.toList ((as.map nmOf).map R.n) := by rw [List.map_map]; exact r7
    exact ⟨D7, h7, _, ys7, rfl, rfl, sD7, z7, p7, NmsAre.ofR r7', g7⟩
  · obtain ⟨D7, h7, tk7, ys7, e7, rfl, sD7, zD7, p7, nm7, g7⟩ := hq
    cases e7
    have hL5 : s₁.heap.objs.size < h5.objs.size := n5.lt
    have n7 := n5.keeps g7.keep
    refine wpAny_assign_Name (st_ns n7 rfl ?_)
    intro h8 n8 hs8
    (try dsimp only at n8); (try dsimp only at hs8); (try dsimp only)
    have hLD : s₁.heap.objs.size < D := Nat.lt_of_lt_of_le hL5 sD7
    refine ⟨_, hnC.sameBut hs8 (Nat.ne_of_gt (Nat.lt_trans hLD hDC)), fun h9 hs9 => ?_⟩
    (try dsimp only at hs9); (try dsimp only)
    have n9 := n8.sameBut hs9 (Nat.ne_of_lt (Nat.lt_trans hLD hDC))
    have ht9 : h9.PlainList D ys7 := SameBut.plain hs9 (Nat.ne_of_lt hDC) (SameBut.plain hs8 (Nat.ne_of_gt hLD) p7)
    have k9 : ∀ b o, s₁.heap.get? b = some o → h9.get? b = some o := fun b o e =>
      have hb := Heap.lt_size e
      hs9.extBut b o (Nat.ne_of_lt (Nat.lt_trans hb (Nat.lt_trans hLD hDC))) (hs8.extBut b o (Nat.ne_of_lt hb) (g7.keep _ _ (k5 b o e)))
    generalize htext : as.map nmOf = text at nm7
    have ltx : text.length ≤ 7 := by rw [← htext, List.length_map]; exact las
    have lys : ys7.size = text.length := by rw [← Array.length_toList, nm7.length]
    have hgood : good text = true := by
      rw [← htext, ← has, List.map_append]
      exact good_all _ (by rw [List.length_map]; exact l4) fun y hy => by
        obtain ⟨k, _, rfl⟩ := List.mem_map.mp hy
        exact nmOf_menu k
    clear hs8 hs9 hnC n8 g7 p7 n7 zD7
    have G9 : Gl W mg mb h9 := G0.keeps k9
    refine wpAny_execs_cons (wpAny_Assign_Name (call1_builtin (fun Q' q => nm_bi G9 rfl boot_len q rfl rfl rfl rfl rfl (by decide)) (ld_ns n9 rfl (len_list ht9.isList (by rw [lys]; omega) ?_))))
    refine st_ns n9 rfl ?_
    intro h10 n10 hs10
    (try dsimp only at n10); (try dsimp only at hs10); (try dsimp only)
    have k10 : ∀ b o, s₁.heap.get? b = some o → h10.get? b = some o := fun b o e => hs10.extBut b o (Nat.ne_of_lt (Heap.lt_size e)) (k9 b o e)
    have ht10 : h10.PlainList D ys7 := SameBut.plain hs10 (Nat.ne_of_gt hLD) ht9
    have G10 : Gl W mg mb h10 := G0.keeps k10
    have hLs10 : s₁.heap.objs.size < h10.objs.size := n10.lt
    refine wpAny_execs_cons (wpAny_Assign_Name (wpAny_Call_ofName (nm_own G10 rfl (callWith_K0 G10.X rfl (init_spec G10 (by simp only [depth_deeper, depth_caller]; decide) ?_)) rfl rfl rfl rfl)))
    intro x r h11 tk11 k11 z11 sr i11 d11 hdx hxr hsx
    (try dsimp only at k11); (try dsimp only at z11); (try dsimp only at sr); (try dsimp only at hsx); (try dsimp only at hdx); (try dsimp only)
    have n11 := n10.keeps k11
    have hLr : s₁.heap.objs.size < r := Nat.lt_of_lt_of_le hLs10 sr
    have hLx : s₁.heap.objs.size < x := Nat.lt_of_lt_of_le hLs10 hsx
    refine st_ns n11 rfl ?_
    intro h12 n12 hs12
    (try dsimp only at n12); (try dsimp only at hs12); (try dsimp only)
    have i12 : InstN h12 x r := by
      obtain ⟨dx, es, n, e1, e2, e3⟩ := i11
      obtain ⟨q1, q2⟩ := hdx dx e1
      exact ⟨dx, es, n, hs12.extBut _ _ (Nat.ne_of_gt hLx) e1, hs12.extBut _ _ (Nat.ne_of_gt (Nat.lt_of_lt_of_le hLs10 q2)) e2, e3⟩
    have hdx12 : ∀ dx, h12.get? x = some (instObj 46 dx) → dx ≠ r ∧ s₁.heap.objs.size < dx := fun dx e => by
      obtain ⟨dx', es, n, e1, e2, e3⟩ := i11
      have e' := hs12.extBut _ _ (Nat.ne_of_gt hLx) e1
      rw [e'] at e
      have : dx' = dx := by cases e; rfl
      subst this
      obtain ⟨q1, q2⟩ := hdx dx' e1
      exact ⟨q1, Nat.lt_of_lt_of_le hLs10 q2⟩
    have d12 := d11.sameBut hs12 (Nat.ne_of_gt hLr)
    have k12 : ∀ b o, s₁.heap.get? b = some o → h12.get? b = some o := fun b o e => hs12.extBut b o (Nat.ne_of_lt (Heap.lt_size e)) (k11 _ _ (k10 b o e))
    have ht12 : h12.PlainList D ys7 := SameBut.plain hs12 (Nat.ne_of_gt hLD) (ht10.at fun o e => k11 _ o e)
    have hDr : D < r := by
      obtain ⟨q, e⟩ := ht10
      exact Nat.lt_of_lt_of_le (Heap.lt_size e) sr
    refine with_amb G0 k12 (Nat.le_refl _) hLr hLx n12 i12 hdx12 hxr d12 K0.stack rfl rfl ?_
    intro h0 am12 key12
    (try dsimp only at am12); (try dsimp only at key12)
    have ht0 : h0.PlainList D ys7 := ht12.at fun o e => key12 D o (Nat.ne_of_gt hLD) (Nat.ne_of_lt hDr) e
    have k0 : ∀ b o, s₁.heap.get? b = some o → h0.get? b = some o := fun b o e =>
      have hb := Heap.lt_size e
      key12 b o (Nat.ne_of_lt hb) (Nat.ne_of_lt (Nat.lt_trans hb hLr)) (k12 b o e)
    unfold good at hgood
    split at hgood
    · rename_i Gb hbuild
      split at hgood
      · rename_i fx fy hfx hfy
        split at hgood
        · rename_i hxy
          split at hgood
          · rename_i Ge hend
            split at hgood
            · rename_i fz hfz
              have exy := R.eq_of hxy
              have ezy := R.eq_of hgood
              subst exy; subst ezy
              clear hxy
              refine wpAny_execs_cons (for_range (prog := PySem.Challenge.rw_ij0146_01.row.prog) (mg := mg) (mb := mb) (h₀ := h0) (xN := x) (outer := []) rfl rfl rfl rfl (by passes_own) (call1_type (fun Q' q => nm_bi am12.now rfl boot_range q rfl rfl rfl rfl rfl (by decide)) (ld_ns n12 rfl (call_range_1 ?_))))
              refine ⟨_, 0, text.length, _, _, _, fun i G m => foldO (fun G i => foldO (fun G k => entered G text i (i + 1 + k)) (List.range (text.length - i)) G) ((List.range text.length).drop i) G = some Gb ∧ m (Str.ofString "text") = some (.ref D) ∧ (∃ t, m (Str.ofString "size") = some (.int (text.length : Int) t)) ∧ m (Str.ofString "nest") = some (.ref x),
                _, _, _, rfl, by rw [Nat.zero_add, ← lys]; exact IsRange.new _ _ _ _ _ _ _, by omega, ⟨am12.grow (.push _ _), n12.keeps fun b o e => Heap.get?_push_of_some _ e, ⟨hbuild, rfl, ⟨_, by rw [← lys]; rfl⟩, rfl⟩, ?_, ?_⟩⟩
              · intro i h tk G ρ m t hi am ⟨jf, jt, ⟨ts, js⟩, jn⟩ ns1
                obtain ⟨Gi, e1, e2⟩ := foldO_drop (b := i) (by rw [List.getElem?_range hi]) jf
                (try dsimp only at ns1); (try dsimp only)
                refine wpAny_execs_cons (for_range (prog := PySem.Challenge.rw_ij0146_01.row.prog) (mg := mg) (mb := mb) (h₀ := h0) (xN := x) (outer := []) rfl rfl rfl rfl (by passes_own) (call2_type (fun Q' q => nm_bi am.now rfl boot_range q rfl rfl rfl rfl rfl (by decide)) (wpAny_BinOp (ld_ns ns1 rfl (wpAny_Constant_int (add_int (wpAny_BinOp (ld_ns ns1 (upd_ne (by decide) js) (wpAny_Constant_int (add_int (call_range_2 ?_)))))))))))
                have ea : (((0 + i : Nat) : Int) + 1) = ((i + 1 : Nat) : Int) := by omega
                have eb : ((text.length : Int) + 1) = (((i + 1) + (text.length - i) : Nat) : Int) := by omega
                refine ⟨_, i + 1, text.length - i, _, _, _, fun k G m => foldO (fun G k => entered G text i (i + 1 + k)) ((List.range (text.length - i)).drop k) G = some Gi ∧ m (Str.ofString "text") = some (.ref D) ∧ (∃ t, m (Str.ofString "size") = some (.int (text.length : Int) t)) ∧ m (Str.ofString "nest") = some (.ref x) ∧ ∃ t, m (Str.ofString "i") = some (.int ((0 + i : Nat) : Int) t),
                  _, _, _, rfl, by rw [ea, eb]; exact IsRange.new _ _ _ _ _ _ _, by omega, ⟨am.grow (.push _ _), ns1.keeps fun b o e => Heap.get?_push_of_some _ e, ⟨e1, upd_ne (by decide) jt, ⟨ts, upd_ne (by decide) js⟩, upd_ne (by decide) jn, ⟨_, rfl⟩⟩, ?_, ?_⟩⟩
                · intro k h2 tk2 G2 ρ2 m2 t2 hk am2 ⟨kf, kt, ⟨kts, ks⟩, kn, ⟨kti, ki⟩⟩ ns2
                  obtain ⟨G3, f1, f2⟩ := foldO_drop (b := k) (by rw [List.getElem?_range hk]) kf
                  (try dsimp only at ns2); (try dsimp only)
                  rw [Nat.zero_add] at ki
                  refine wpAny_execs_cons (wpAny_If (wpAny_isTrue_Not (wpAny_isTrue_value (call4_own (fun Q' q => nm_own am2.now rfl q rfl rfl rfl rfl) am2.now.X rfl (ld_ns ns2 (upd_ne (by decide) kn) (ld_ns ns2 (upd_ne (by decide) kt) (ld_ns ns2 (upd_ne (by decide) ki) (ld_ns ns2 rfl ⟨am2.now.X, ?_⟩))))))))
                  refine ent_spec am2 rfl (by simp only [depth_deeper, depth_caller]; decide) (by show callerA.units + 3 + 100 < _; exact Nat.le_of_ble_eq_true rfl) ht0 nm7 (by omega) (by omega) (by omega) f1 ?_
                  intro h3 tk3 ρ3 N3 st3
                  (try dsimp only)
                  refine wpAny_truthy_bool (ite_B (fun e => Bool.noConfusion e) fun _ => wpAny_execs_nil (wpAny_execs_nil ?_))
                  have ns3 := (st3.up s₁.heap.objs.size (am2.fna _ (frs_self rfl))).ns ns2
                  exact ⟨h3, _, G3, ρ3, _, rfl, am2.step N3 st3, ns3, ⟨f2, upd_ne (by decide) kt, ⟨kts, upd_ne (by decide) ks⟩, upd_ne (by decide) kn, ⟨kti, by rw [Nat.zero_add]; exact upd_ne (by decide) ki⟩⟩, .ofStep st3⟩
                · intro h2 tk2 G2 ρ2 m2 am2 ns2 ⟨kf, kt, ⟨kts, ks⟩, kn, ⟨kti, ki⟩⟩ kp
                  have eG : G2 = Gi := foldO_end (by rw [List.length_range]; exact kf)
                  subst eG
                  refine wpAny_execs_nil ⟨h2, _, G2, ρ2, m2, rfl, am2, ns2, ⟨e2, kt, ⟨kts, ks⟩, kn⟩, ?_⟩
                  exact (Kp.grow (.push _ _)).trans am.offs kp am2.offs
              · intro h tk G ρ m am ns1 ⟨jf, jt, ⟨ts, js⟩, jn⟩ kp
                have eG : G = Gb := foldO_end (by rw [List.length_range]; exact jf)
                subst eG
                clear kp
                (try dsimp only)
                refine wpAny_execs_cons (wpAny_Assign_Name (call2_own (fun Q' q => nm_own am.now rfl q rfl rfl rfl rfl) am.now.X rfl (ld_ns ns1 jt (eval_list0 ?_))))
                intro e0 h2 se0 ze0 g2' le0
                (try dsimp only at se0); (try dsimp only at g2'); (try dsimp only)
                have am2 := am.grow g2'
                have ht2 : h2.PlainList D ys7 := ht0.at fun o e => am2.stays _ o e
                refine ⟨am2.now.X, due_spec 10 am2.now rfl (by simp only [depth_deeper, depth_caller]; decide) (by show callerA.units + 3 + 3 * 10 + 80 < _; exact Nat.le_of_ble_eq_true rfl) ht2 nm7 (by omega) le0 .nil (Nat.zero_le _) hfy ?_⟩
                intro vd h3 tk3 g3' r3
                (try dsimp only at g3'); (try dsimp only at r3); (try dsimp only)
                have am3 := am2.grow g3'
                have ns3 := ns1.keeps fun b o e => g3'.keep _ _ (g2'.keep _ _ e)
                refine st_ns ns3 rfl ?_
                intro h4 ns4 hs4
                (try dsimp only at ns4); (try dsimp only at hs4); (try dsimp only)
                have am4 := am3.store (frs_self rfl) hs4 ns4
                have hL2 : s₁.heap.objs.size < h2.objs.size := Nat.lt_of_lt_of_le ns1.lt g2'.size
                have r4 := r3.mono (Nat.le_refl _) fun b o hb e => hs4.extBut b o (Nat.ne_of_gt (Nat.lt_of_lt_of_le hL2 hb)) e
                obtain ⟨h0b, am5, old5, key5⟩ := am4.rebase
                have r5 := r4.mono (Nat.le_refl _) fun b o hb e => key5 b o (fun q => Nat.lt_irrefl _ (Nat.lt_of_lt_of_le (Nat.lt_of_lt_of_le (NA.lt am.nest q) g2'.size) hb)) (fun q => (mem_frs_cons (L := s₁.heap.objs.size) rfl q).elim (Nat.ne_of_gt (Nat.lt_of_lt_of_le hL2 hb)) fun q => nomatch q) e
                have ht5 : h0b.PlainList D ys7 := ht0.at fun o e => old5 _ o e
                have k5b : ∀ b o, s₁.heap.get? b = some o → h0b.get? b = some o := fun b o e => old5 _ _ (k0 b o e)
                have shp := due_shaped hfy (by decide)
                clear am4 am3 am2 r4 r3 key5 ht2
                refine wpAny_execs_cons (wpAny_If (wpAny_isTrue_Compare1 (call1_own (fun Q' q => nm_own am5.now rfl q rfl rfl rfl rfl) am5.now.X rfl (Attribute_name (ld_ns ns4 (upd_ne (by decide) jn) (get_dict am5.now.X am5.self ⟨am5.now.X, ?_⟩))))))
                refine flat_spec (g := .ref .one) fuel am5.now rfl (by simp only [depth_deeper, depth_caller, fuel]; decide) (by show callerA.units + 3 + 3 * 24 + 80 < _; exact Nat.le_of_ble_eq_true rfl) am5.nest ⟨rfl, am5.root⟩ hfx ?_
                intro vf h6 tk6 g6' r6
                (try dsimp only at g6'); (try dsimp only at r6); (try dsimp only)
                have am6 := am5.grow g6'
                have ns6 := ns4.keeps g6'.keep
                refine ld_ns ns6 rfl (ne_rin r6 (r5.mono (Nat.le_refl _) fun b o _ e => am6.stays b o e) shp (by show callerA.units + 3 + 64 < _; exact Nat.le_of_ble_eq_true rfl) (wpAny_truthy_bool (ite_B (fun e => Bool.noConfusion e) fun _ => wpAny_execs_nil ?_)))
                (try dsimp only)
                have am6' := am6
                refine wpAny_execs_cons (for_range (prog := PySem.Challenge.rw_ij0146_01.row.prog) (mg := mg) (mb := mb) (h₀ := h0b) (xN := x) (outer := []) rfl rfl rfl rfl (by passes_own) (call1_type (fun Q' q => nm_bi am6.now rfl boot_range q rfl rfl rfl rfl rfl (by decide)) (ld_ns ns6 (upd_ne (by decide) js) (call_range_1 ?_))))
                refine ⟨_, 0, text.length, _, _, _, fun i G m => foldO (part text) ((List.range text.length).drop i) G = some Ge ∧ m (Str.ofString "text") = some (.ref D) ∧ m (Str.ofString "nest") = some (.ref x) ∧ m (Str.ofString "due") = some vd,
                  _, _, _, rfl, by rw [Nat.zero_add]; exact IsRange.new _ _ _ _ _ _ _, by omega, ⟨am6.grow (.push _ _), ns6.keeps fun b o e => Heap.get?_push_of_some _ e, ⟨hend, upd_ne (by decide) jt, upd_ne (by decide) jn, rfl⟩, ?_, ?_⟩⟩
                · intro i h7 tk7 G7 ρ7 m7 t7 hi am7 ⟨pf, pt, pn, pd⟩ ns7
                  obtain ⟨G8, e1, e2⟩ := foldO_drop (b := i) (by rw [List.getElem?_range hi]) pf
                  obtain ⟨j, y, w1, w2, w3⟩ := part_inv e1
                  (try dsimp only at ns7); (try dsimp only)
                  have ht7 : h7.PlainList D ys7 := ht5.at fun o e => am7.stays _ o e
                  refine wpAny_execs_cons (wpAny_Assign_Name (call_nest_kw am7.now.X am7.self (fun Q' q => ld_ns ns7 (upd_ne (by decide) pn) q) (call_tup_slice (fun Q' q => nm_bi am7.now rfl boot_tuple q rfl rfl rfl rfl rfl (by decide)) (ld_ns ns7 (upd_ne (by decide) pt) (ld_ns ns7 rfl (wpAny_pure ?_))))))
                  refine ⟨D, ys7, some ((0 + i : Nat) : Int), none, rfl, ht7.isList, by rw [lys, sizeLine_eq]; omega, .int _ _, .none, ?_⟩
                  intro T8 h8 sT8 zT8 g8 tT8
                  (try dsimp only at sT8); (try dsimp only at g8); (try dsimp only)
                  rw [pick_drop, Nat.zero_add] at tT8
                  have am8 := am7.grow g8
                  refine ⟨am8.now.X, ?_⟩
                  refine get_spec (acc := false) (names := text.drop i) am8 rfl (by simp only [depth_deeper, depth_caller]; decide) tT8 (nm7.drop i) (am7.off sT8) ?_ ?_ (by rw [w1]; intro e; cases e)
                  rotate_left
                  · intro G' e; rw [w1] at e; cases e
                  intro G' j' e h9 tk9 ρ9 N9 hj9 st9
                  rw [w1] at e; cases e
                  (try dsimp only)
                  have am9 := am8.step N9 st9
                  have ns9 := (st9.up s₁.heap.objs.size (am8.fna _ (frs_self rfl))).ns (ns7.keeps g8.keep)
                  refine st_ns ns9 rfl ?_
                  intro h10' ns10 hs10'
                  (try dsimp only at ns10); (try dsimp only at hs10'); (try dsimp only)
                  have am10 := am9.store (frs_self rfl) hs10' ns10
                  refine wpAny_execs_cons (wpAny_If (wpAny_isTrue_Compare1 (call1_own (fun Q' q => nm_own am10.now rfl q rfl rfl rfl rfl) am10.now.X rfl (ld_ns ns10 rfl ⟨am10.now.X, ?_⟩))))
                  refine flat_spec (g := .ref j) fuel am10.now rfl (by simp only [depth_deeper, depth_caller, fuel]; decide) (by show callerA.units + 3 + 3 * 24 + 80 < _; exact Nat.le_of_ble_eq_true rfl) am10.nest ⟨rfl, hj9⟩ w2 ?_
                  intro vf' h11' tk11' g11' r11
                  (try dsimp only at g11'); (try dsimp only at r11); (try dsimp only)
                  have am11 := am10.grow g11'
                  have ns11 := ns10.keeps g11'.keep
                  have ht11 : h11'.PlainList D ys7 := ht5.at fun o e => am11.stays _ o e
                  refine call2_own (fun Q' q => nm_own am11.now rfl q rfl rfl rfl rfl) am11.now.X rfl (ld_ns ns11 (upd_ne (by decide) pt) (eval_slice (ld_ns ns11 (upd_ne (by decide) pt) (ld_ns ns11 rfl (wpAny_pure ?_)))))
                  refine ⟨D, ys7, some ((0 + i : Nat) : Int), none, rfl, ht11.isList, by rw [lys, sizeLine_eq]; omega, .int _ _, .none, ?_⟩
                  intro S12 h12' sS12 zS12 g12' lS12
                  (try dsimp only at sS12); (try dsimp only at g12'); (try dsimp only)
                  rw [pick_drop, Nat.zero_add] at lS12
                  have am12' := am11.grow g12'
                  have ht12' : h12'.PlainList D ys7 := ht5.at fun o e => am12'.stays _ o e
                  refine ⟨am12'.now.X, due_spec 10 am12'.now rfl (by simp only [depth_deeper, depth_caller]; decide) (by show callerA.units + 3 + 3 * 10 + 80 < _; exact Nat.le_of_ble_eq_true rfl) ht12' nm7 (by omega) lS12 (nm7.drop i) (by rw [List.length_drop]; omega) w3 ?_⟩
                  intro vd' h13 tk13 g13 r13
                  (try dsimp only at g13); (try dsimp only at r13); (try dsimp only)
                  have am13 := am12'.grow g13
                  have ns13 := ns11.keeps fun b o e => g13.keep _ _ (g12'.keep _ _ e)
                  refine ne_rin (r11.mono (Nat.le_refl _) fun b o _ e => g13.keep _ _ (g12'.keep _ _ e)) r13 (due_shaped w3 (by decide)) (by show callerA.units + 3 + 64 < _; exact Nat.le_of_ble_eq_true rfl) (wpAny_truthy_bool (ite_B (fun e => Bool.noConfusion e) fun _ => wpAny_execs_nil (wpAny_execs_nil ?_)))
                  refine ⟨h13, _, G8, ρ9, _, rfl, am13, ns13, ⟨e2, upd_ne (by decide) pt, upd_ne (by decide) pn, upd_ne (by decide) pd⟩, ?_⟩
                  have kA : Kp (frs _) h7 G7 ρ7 h9 G8 ρ9 := (Kp.grow g8).trans am8.offs (.ofStep st9) am9.offs
                  have kB : Kp (frs _) h7 G7 ρ7 h10' G8 ρ9 := kA.trans am9.offs (.store (frs_self rfl) hs10') am10.offs
                  exact kB.trans am10.offs (.grow (g11'.trans (g12'.trans g13))) am13.offs
                · intro h7 tk7 G7 ρ7 m7 am7 ns7 ⟨pf, pt, pn, pd⟩ kp
                  have eG : G7 = Ge := foldO_end (by rw [List.length_range]; exact pf)
                  subst eG
                  (try dsimp only)
                  refine wpAny_execs_cons (wpAny_Return_some (wpAny_Compare1 (call1_own (fun Q' q => nm_own am7.now rfl q rfl rfl rfl rfl) am7.now.X rfl (Attribute_name (ld_ns ns7 pn (get_dict am7.now.X am7.self ⟨am7.now.X, ?_⟩))))))
                  refine flat_spec (g := .ref .one) fuel am7.now rfl (by simp only [depth_deeper, depth_caller, fuel]; decide) (by show callerA.units + 3 + 3 * 24 + 80 < _; exact Nat.le_of_ble_eq_true rfl) am7.nest ⟨rfl, am7.root⟩ hfz ?_
                  intro vz h8 tk8 g8 r8
                  (try dsimp only at g8); (try dsimp only at r8); (try dsimp only)
                  have am8 := am7.grow g8
                  refine ld_ns (ns7.keeps g8.keep) pd (eq_rin r8 (r5.mono (Nat.le_refl _) fun b o _ e => am8.stays b o e) shp (by show callerA.units + 3 + 64 < _; exact Nat.le_of_ble_eq_true rfl) ?_)
                  exact fin h8 _ fun b o e => am8.stays b o (k5b b o e)
            · cases hgood
          · cases hgood
        · cases hgood
      · cases hgood
    · cases hgood
end Nest
theorem PySem.Challenge.cw_ij0146_01_holds : PySem.Challenge.rw_ij0146_01.Holds :=
  Nest.main
