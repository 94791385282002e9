import PyProof.Rows.All
import Wide.All
import OpenK.AllK
import Wide.FinOn
import Lean
import PySem.Challenge.RW_ev0001_01
open PySem PySem.W PyProof.Rows PySem.Calls
set_option Elab.async false
set_option maxRecDepth 100000
set_option linter.unusedVariables false
set_option linter.unusedSimpArgs false
namespace Mine
section
set_option maxHeartbeats 8000000
open_top hd for PySem.Challenge.rw_ev0001_01
end
section
set_option maxHeartbeats 1000000
abbrev Led := List (Addr × Obj)
/-- a place where the walk stops -/
def Stop (P : Prop) : Prop := P
theorem Stop.out {P : Prop} (h : Stop P) : P := h
theorem Stop.mk {P : Prop} (h : P) : Stop P := h
/-- x stands in l, and r is the rest -/
inductive Sel (x : Addr × Obj) : Led → Led → Prop
  | head {r : Led} : Sel x (x :: r) r
  | tail {y : Addr × Obj} {r r' : Led} : Sel x r r' → Sel x (y :: r) (y :: r')
theorem Sel.sub {x : Addr × Obj} : ∀ {l r : Led}, Sel x l r → ∀ p ∈ x :: r, p ∈ l
  | _, _, .head, p, hp => hp
  | _, _, .tail h, p, hp => by
    rcases List.mem_cons.mp hp with rfl | hp
    · exact List.mem_cons_of_mem _ (h.sub _ List.mem_cons_self)
    · rcases List.mem_cons.mp hp with rfl | hp
      · exact List.mem_cons_self
      · exact List.mem_cons_of_mem _ (h.sub _ (List.mem_cons_of_mem _ hp))
theorem Sel.news {x : Addr × Obj} {h₀ h : Heap} {L : Addr} {l r : Led} (S : Sel x l r) (N : News h₀ L h l) : News h₀ L h (x :: r) := fun p hp => N p (S.sub p hp)
theorem AllObj_mono : ∀ {ws : List (Addr × String)} {k k' : Led → Prop}, (∀ its, k its → k' its) → AllObj ws k → AllObj ws k'
  | [], _, _, h, x => h _ x
  | _ :: _, _, _, h, x => fun o ho => AllObj_mono (fun its => h _) (x o ho)
section
variable {prog : Program} {w : World} {A : Around} {E : Value → Shared → Prop} {s : Shared} {env : Env} {h₀ : Heap} {target : Expr} {body : List Stmt} {Q : Flow → Shared → Prop}
theorem UnrPostW_mono {L : Addr} {s₁ : Shared} {its : Led} {rest rest' : (Str → Option Value) → Led → Prop} (h : ∀ m n, rest m n → rest' m n) : ∀ f s₂, UnrPostW h₀ L s₁ its rest Q f s₂ → UnrPostW h₀ L s₁ its rest' Q f s₂ := by
  intro f s₂ x
  have e : UnrEndW h₀ L s₁ its rest s₂ → UnrEndW h₀ L s₁ its rest' s₂ := fun ⟨h', tk, m', n', a, b, c, d, r⟩ => ⟨h', tk, m', n', a, b, c, d, h _ _ r⟩
  cases f with
  | ret v => exact x
  | brk => exact x
  | next => exact e x
  | cont => exact e x
theorem UnrEndW_sel {L I : Addr} {oI : Obj} {s₁ : Shared} {R : (Str → Option Value) → Led → Prop} {h' : Heap} {tk : Nat} {m' : Str → Option Value} {all rest' : Led}
    (F : Fr h₀ L h' m') (N : News h₀ L h' all) (S : Sel (I, oI) all rest') (off : ∀ p ∈ rest', p.1 ≠ I) (r : R m' rest') : UnrEndW h₀ L s₁ [(I, oI)] R { s₁ with heap := h', toks := tk } :=
  ⟨h', tk, m', rest', rfl, F, S.news N, fun p hp q hq => by rw [List.mem_singleton.mp hq]; exact off p hp, r⟩
theorem UnrEndW_sel2 {L I J : Addr} {oI oJ : Obj} {s₁ : Shared} {R : (Str → Option Value) → Led → Prop} {h' : Heap} {tk : Nat} {m' : Str → Option Value} {all rest₁ rest' : Led}
    (F : Fr h₀ L h' m') (N : News h₀ L h' all) (S : Sel (I, oI) all rest₁) (S' : Sel (J, oJ) rest₁ rest') (off : ∀ p ∈ rest', p.1 ≠ I) (off' : ∀ p ∈ rest', p.1 ≠ J) (r : R m' rest') : UnrEndW h₀ L s₁ [(I, oI), (J, oJ)] R { s₁ with heap := h', toks := tk } :=
  ⟨h', tk, m', rest', rfl, F, fun p hp => by
    have hp' : p ∈ (I, oI) :: (J, oJ) :: rest' := hp
    rcases List.mem_cons.mp hp' with rfl | hp'
    · exact S.news N _ List.mem_cons_self
    · exact S.news N _ (List.mem_cons_of_mem _ (S'.sub p hp')), fun p hp q hq => by
    rcases List.mem_cons.mp hq with rfl | hq
    · exact off p hp
    · rw [List.mem_singleton.mp hq]; exact off' p hp, r⟩
theorem turns_inv {ws : List (Addr × String)} {keep : Led} (J : List Itm → (Str → Option Value) → Led → Prop)
    (turn : ∀ a r m news, J (a :: r) m news → SubL keep news → ∀ v h tk, a.Is v h → Fr h₀ env.locals h m → AllObj ws (fun its => News h₀ env.locals h (its ++ news) →
      wpAny (model prog w) A (assign target env v) (fun _ s₂ => wpAny (model prog w) A (execs body env) (UnrPostW h₀ env.locals { s with heap := h, toks := tk } its (fun m' n' => SubL keep n' ∧ J r m' n') Q) E s₂) E { s with heap := h, toks := tk }))
    (done : ∀ m news, J [] m news → ∀ h tk, Fr h₀ env.locals h m → News h₀ env.locals h news → Q .next { s with heap := h, toks := tk }) :
    ∀ xs m news, J xs m news → SubL keep news → ItemsRest prog w A E h₀ env target body Q s ws keep xs m news
  | [], m, news, hJ, _ => done m news hJ
  | a :: r, m, news, hJ, hk => by
    intro v h tk ha F
    refine AllObj_mono (fun its k N => ?_) (turn a r m news hJ hk v h tk ha F)
    refine wpAny_mono (k N) (fun _ s₂ z => wpAny_mono z (UnrPostW_mono fun m' n' q => ⟨q.1, turns_inv J turn done r m' n' q.2 q.1⟩) fun _ _ e => e) fun _ _ e => e
/-- m₀, but at the stored names -/
def offM (m₀ u : Str → Option Value) : List Str → Str → Option Value
  | [], y => m₀ y
  | x :: r, y => if y = x then u y else offM m₀ u r y
def Off (stored : List Str) (m₀ m : Str → Option Value) : Prop := ∀ z, z ∉ stored → m z = m₀ z
theorem Off.refl {stored : List Str} {m₀ : Str → Option Value} : Off stored m₀ m₀ := fun _ _ => rfl
theorem Off.put {stored : List Str} {m₀ m v : Str → Option Value} {x : Str} (hx : x ∈ stored) (h : Off stored m₀ m) : Off stored m₀ (fun y => if y = x then v y else m y) := fun z hz => by
  have : ¬ z = x := fun e => hz (e ▸ hx)
  show (if z = x then v z else m z) = m₀ z
  rw [if_neg this]
  exact h z hz
theorem offM_off (m₀ u : Str → Option Value) : ∀ stored, Off stored m₀ (offM m₀ u stored)
  | [], _, _ => rfl
  | x :: r, z, hz => by
    have : ¬ z = x := fun e => hz (e ▸ List.mem_cons_self)
    show (if z = x then u z else offM m₀ u r z) = m₀ z
    rw [if_neg this]
    exact offM_off m₀ u r z fun h => hz (List.mem_cons_of_mem _ h)
theorem offM_in (m₀ u : Str → Option Value) : ∀ stored z, z ∈ stored → offM m₀ u stored z = u z
  | x :: r, z, hz => by
    show (if z = x then u z else offM m₀ u r z) = u z
    by_cases e : z = x
    · rw [if_pos e]
    · rw [if_neg e]
      rcases List.mem_cons.mp hz with h | h
      · exact absurd h e
      · exact offM_in m₀ u r z h
theorem Off.eq {stored : List Str} {m₀ m : Str → Option Value} (h : Off stored m₀ m) : m = offM m₀ m stored := by
  funext z
  by_cases hz : z ∈ stored
  · rw [offM_in m₀ m stored z hz]
  · rw [offM_off m₀ m stored z hz, h z hz]
theorem turns_off {ws : List (Addr × String)} {keep : Led} {m₀ : Str → Option Value} (stored : List Str) (J : List Itm → Led → Prop)
    (turn : ∀ a r u news, J (a :: r) news → SubL keep news → ∀ v h tk, a.Is v h → Fr h₀ env.locals h (offM m₀ u stored) → AllObj ws (fun its => News h₀ env.locals h (its ++ news) →
      wpAny (model prog w) A (assign target env v) (fun _ s₂ => wpAny (model prog w) A (execs body env) (UnrPostW h₀ env.locals { s with heap := h, toks := tk } its (fun m' n' => SubL keep n' ∧ Off stored m₀ m' ∧ J r n') Q) E s₂) E { s with heap := h, toks := tk }))
    (done : ∀ u news, J [] news → ∀ h tk, Fr h₀ env.locals h (offM m₀ u stored) → News h₀ env.locals h news → Q .next { s with heap := h, toks := tk }) :
    ∀ xs news, J xs news → SubL keep news → ItemsRest prog w A E h₀ env target body Q s ws keep xs m₀ news :=
  fun xs news hJ hk => turns_inv (fun xs m nw => Off stored m₀ m ∧ J xs nw)
    (fun a r m nw hj hk v h tk ha F => turn a r m nw hj.2 hk v h tk ha (hj.1.eq ▸ F))
    (fun m nw hj h tk F N => done m nw hj.2 h tk (hj.1.eq ▸ F) N) xs m₀ news ⟨.refl, hJ⟩ hk
def rangeItems (a : Int) : Nat → List Itm
  | 0 => []
  | n + 1 => .tok (fun t => .int a t) :: rangeItems (a + 1) n
theorem rangeItems_length : ∀ (n : Nat) (a : Int), (rangeItems a n).length = n
  | 0, _ => rfl
  | n + 1, a => by simp [rangeItems, rangeItems_length n]
theorem rangeItems_get : ∀ (n : Nat) (a : Int) (i : Nat), i < n → (rangeItems a n)[i]? = some (.tok (fun t => .int (a + i) t))
  | n + 1, a, 0, _ => by simp [rangeItems]
  | n + 1, a, i + 1, h => by
    have := rangeItems_get n (a + 1) i (Nat.lt_of_succ_lt_succ h)
    simp only [rangeItems, List.getElem?_cons_succ, this]
    congr 3; funext t; congr 1; push_cast; omega
theorem iter_rangeTurns {x : Str} {px : Pos} {r : Addr} {a b : Int} {t u v : Tok} {n : Nat} {m₀ : Str → Option Value} {news : Led}
    (hh : A.handled = none) (F : Fr h₀ env.locals s.heap m₀) (N : News h₀ env.locals s.heap news) (hr : IsRange s.heap r a b 1 t u v) (hsm : Builtin.Range.small a b 1 = true) (hn : Builtin.Range.rangeSize a b 1 = (n : Int))
    (rest₀ : ∀ I : Addr, (∀ p ∈ news, p.1 < I) → ItemsRest prog w A E h₀ env (.Name x px) body Q s [(I, "range_iterator")] [] (rangeItems a n) m₀ news) :
    wpAny (model prog w) A (pyIter (.ref r)) (fun it s₂ => TurnsAt prog w A h₀ env (.Name x px) body Q E it s₂) E s := by
  refine wpAny_pyIter_range hr hsm ?_
  have W : Walks prog w A s.heap.objs.size [s.heap.objs.size] [s.heap.objs.size] n (fun i v => i < n ∧ ∃ t, v = .int (a + i * 1) t)
      (fun i h => IsRangeIter h s.heap.objs.size (a + (i : Nat) * 1) ((n : Int) - (i : Nat)) 1) := (Walks.range hh _ a 1 n).bound
  refine ktu_core (tk0 := s.toks) (keep := []) (KTurns.ofWalks W fun i v s Q E st q => wpAny_pure q) (rangeItems_length n a).symm (fun i v h hp => ?_) (fun i h st => ?_) (fun b hb => ?_) (fun b hb => by simpa using hb) (fun b hb => .inl (by simpa using hb)) ?_ (fun p hp hI => ?_) ?_ (F.push _) (fun p hp => ⟨Heap.get?_push_of_some _ (N p hp).1, (N p hp).2⟩) trivial (rest₀ _ fun p hp => Heap.lt_size (N p hp).1)
  · obtain ⟨hi, t, rfl⟩ := hp
    refine ⟨_, rangeItems_get n a i hi, t, ?_⟩
    rw [Int.mul_one]
  · have e1 : ∃ o : Obj, h.get? s.heap.objs.size = some o ∧ o.cls = .type "range_iterator" := ⟨_, st, rfl⟩
    obtain ⟨oi, g, c⟩ := e1
    exact ⟨[(s.heap.objs.size, oi)], ⟨⟨rfl, c⟩, trivial⟩, fun p hp => by rw [List.mem_singleton.mp hp]; exact g⟩
  · have hb' : b = s.heap.objs.size := by simpa using hb
    rw [hb']
    exact ⟨List.mem_cons_self .., next_is_new F⟩
  · intro hI
    have e : env.locals = s.heap.objs.size := by simpa using hI
    exact absurd F.ns.lt (e ▸ Nat.lt_irrefl _)
  · have e : p.1 = s.heap.objs.size := by simpa using hI
    exact absurd (Heap.lt_size (N p hp).1) (e ▸ Nat.lt_irrefl _)
  · show IsRangeIter _ _ _ _ _
    rw [hn]
    simpa using Heap.get?_push_size _ rfl
end
/-- all addresses lie above B -/
def Above (B : Nat) (l : Led) : Prop := ∀ p ∈ l, @LT.lt Nat _ B p.1
theorem Above.ne {B : Nat} {d : Addr} {l : Led} (h : Above B l) (e : @LE.le Nat _ d B) : ∀ p ∈ l, p.1 ≠ d := fun p hp => Nat.ne_of_gt (Nat.lt_of_le_of_lt e (h p hp))
theorem Above.nil {B : Nat} : Above B [] := fun _ h => nomatch h
theorem Above.cons {B : Nat} {p : Addr × Obj} {l : Led} (h : @LT.lt Nat _ B p.1) (k : Above B l) : Above B (p :: l) := fun q hq => by
  rcases List.mem_cons.mp hq with rfl | hq
  · exact h
  · exact k q hq
theorem Above.append {B : Nat} {l l' : Led} (h : Above B l) (k : Above B l') : Above B (l ++ l') := fun q hq => (List.mem_append.mp hq).elim (h q) (k q)
theorem Above.mono {B B' : Nat} {l : Led} (h : Above B l) (e : B' ≤ B) : Above B' l := fun q hq => Nat.lt_of_le_of_lt e (h q hq)
theorem Above.left {B : Nat} {l l' : Led} (h : Above B (l ++ l')) : Above B l := fun q hq => h q (List.mem_append_left _ hq)
theorem Above.right {B : Nat} {l l' : Led} (h : Above B (l ++ l')) : Above B l' := fun q hq => h q (List.mem_append_right _ hq)
theorem forall_append {P : Addr × Obj → Prop} {a b : Led} (h : ∀ p ∈ a, P p) (k : ∀ p ∈ b, P p) : ∀ p ∈ a ++ b, P p := fun p hp => (List.mem_append.mp hp).elim (h p) (k p)
inductive All2 {α β : Type} (R : α → β → Prop) : List α → List β → Prop
  | nil : All2 R [] []
  | cons {a b l l'} : R a b → All2 R l l' → All2 R (a :: l) (b :: l')
section
variable {α β γ : Type} {R S : α → β → Prop}
theorem All2.length : ∀ {l : List α} {l' : List β}, All2 R l l' → l.length = l'.length
  | _, _, .nil => rfl
  | _, _, .cons _ h => by simp [h.length]
theorem All2.mono (f : ∀ a b, R a b → S a b) : ∀ {l : List α} {l' : List β}, All2 R l l' → All2 S l l'
  | _, _, .nil => .nil
  | _, _, .cons h k => .cons (f _ _ h) (k.mono f)
theorem All2.append : ∀ {l k : List α} {l' k' : List β}, All2 R l l' → All2 R k k' → All2 R (l ++ k) (l' ++ k')
  | _, _, _, _, .nil, y => y
  | _, _, _, _, .cons h x, y => .cons h (x.append y)
theorem All2.snoc {l : List α} {l' : List β} {a : α} {b : β} (h : All2 R l l') (k : R a b) : All2 R (l ++ [a]) (l' ++ [b]) := h.append (.cons k .nil)
theorem All2.get : ∀ {l : List α} {l' : List β}, All2 R l l' → ∀ (i : Nat) (a : α), l[i]? = some a → ∃ b, l'[i]? = some b ∧ R a b
  | _, _, .cons (b := b) h k, 0, a, e => ⟨b, rfl, by
    have e' := Option.some.inj e
    exact e' ▸ h⟩
  | _, _, .cons h k, i + 1, a, e => k.get i a e
theorem All2.map_eq {f : α → γ} {g : β → γ} (hf : ∀ a b, R a b → f a = g b) : ∀ {l : List α} {l' : List β}, All2 R l l' → l.map f = l'.map g
  | _, _, .nil => rfl
  | _, _, .cons h k => by simp [hf _ _ h, k.map_eq hf]
end
/-- the value is a list of these ints, of the ledger -/
def LsIn (l : Led) (v : Value) (xs : List Int) : Prop := ∃ a vs n, v = .ref a ∧ (a, listOf vs.toArray n) ∈ l ∧ IntsAre vs xs
theorem LsIn.mono {l l' : Led} {v : Value} {xs : List Int} (h : ∀ p ∈ l, p ∈ l') : LsIn l v xs → LsIn l' v xs := fun ⟨a, vs, n, e, m, i⟩ => ⟨a, vs, n, e, h _ m, i⟩
/-- an item: the ref of the word that inherits for -1 -/
def ItmV (v : Value) (x : Int) : Prop := if x = -1 then v = .ref 37 else ∃ t, v = .int x t
def RlIn (l : Led) (v : Value) (xs : List Int) : Prop := ∃ a vs n, v = .ref a ∧ (a, listOf vs.toArray n) ∈ l ∧ All2 ItmV vs xs
theorem RlIn.mono {l l' : Led} {v : Value} {xs : List Int} (h : ∀ p ∈ l, p ∈ l') : RlIn l v xs → RlIn l' v xs := fun ⟨a, vs, n, e, m, i⟩ => ⟨a, vs, n, e, h _ m, i⟩
abbrev Tb := List (Str × List Int)
def DcOf (P : Value → List Int → Prop) (kvs : List (Str × Value)) (tb : Tb) : Prop := All2 (fun kv e => kv.1 = e.1 ∧ P kv.2 e.2) kvs tb
def DcIn (prog : Program) (w : World) (P : Led → Value → List Int → Prop) (l : Led) (v : Value) (tb : Tb) : Prop :=
  ∃ d o kvs, v = .ref d ∧ (d, o) ∈ l ∧ (d == sysModules) = false ∧ o.IsDictOf (strKind prog w) kvs ∧ DcOf (P l) kvs tb
theorem DcIn.mono {prog : Program} {w : World} {P : Led → Value → List Int → Prop} (hP : ∀ {l l' v xs}, (∀ p ∈ l, p ∈ l') → P l v xs → P l' v xs) {l l' : Led} {v : Value} {tb : Tb} (h : ∀ p ∈ l, p ∈ l') : DcIn prog w P l v tb → DcIn prog w P l' v tb :=
  fun ⟨d, o, kvs, e, m, lo, i, k⟩ => ⟨d, o, kvs, e, h _ m, lo, i, k.mono fun _ _ z => ⟨z.1, hP h z.2⟩⟩
def TsIn (prog : Program) (w : World) (P : Led → Value → List Int → Prop) (l : Led) (v : Value) (tbs : List Tb) : Prop :=
  ∃ a vs n, v = .ref a ∧ (a, listOf vs.toArray n) ∈ l ∧ All2 (DcIn prog w P l) vs tbs
theorem TsIn.mono {prog : Program} {w : World} {P : Led → Value → List Int → Prop} (hP : ∀ {l l' v xs}, (∀ p ∈ l, p ∈ l') → P l v xs → P l' v xs) {l l' : Led} {v : Value} {tbs : List Tb} (h : ∀ p ∈ l, p ∈ l') : TsIn prog w P l v tbs → TsIn prog w P l' v tbs :=
  fun ⟨a, vs, n, e, m, k⟩ => ⟨a, vs, n, e, h _ m, k.mono fun _ _ z => DcIn.mono (P := P) hP h z⟩
theorem DcOf.keys {P : Value → List Int → Prop} {kvs : List (Str × Value)} {tb : Tb} (h : DcOf P kvs tb) : kvs.map (·.1) = tb.map (·.1) := h.map_eq fun _ _ z => z.1
theorem DcOf.valueAt {P : Value → List Int → Prop} : ∀ {kvs : List (Str × Value)} {tb : Tb}, DcOf P kvs tb → ∀ k, (valueAt kvs k = none ∧ tb.lookup k = none) ∨ ∃ v xs, valueAt kvs k = some v ∧ tb.lookup k = some xs ∧ P v xs
  | _, _, .nil, k => .inl ⟨rfl, rfl⟩
  | (k', v) :: kvs, (k'', xs) :: tb, .cons h r, k => by
    obtain ⟨e, hp⟩ := h
    dsimp only at e hp
    subst e
    by_cases hk : k' = k
    · subst hk
      exact .inr ⟨v, xs, by simp [PySem.valueAt], by simp [List.lookup_cons], hp⟩
    · have hk' : (k == k') = false := by simpa using fun e => hk e.symm
      have e1 : PySem.valueAt ((k', v) :: kvs) k = PySem.valueAt kvs k := by simp [PySem.valueAt, List.find?_cons, hk]
      have e2 : List.lookup k ((k', xs) :: tb) = List.lookup k tb := by simp [List.lookup_cons, hk']
      rw [e1, e2]
      exact DcOf.valueAt r k
theorem isDict_nodup {prog : Program} {w : World} {o : Obj} {kvs : List (Str × Value)} (h : o.IsDictOf (strKind prog w) kvs) : (kvs.map (·.1)).Nodup := by
  obtain ⟨_, _, _, _, _, _, n⟩ := h
  exact n
theorem stored_new {kvs : List (Str × Value)} {k : Str} (v : Value) (h : k ∉ kvs.map (·.1)) : stored kvs k v = kvs ++ [(k, v)] := by
  unfold stored
  rw [if_neg]
  intro e
  obtain ⟨a, ha, hk⟩ := List.any_eq_true.mp e
  exact h (List.mem_map.mpr ⟨a, ha, of_decide_eq_true hk⟩)
section
open LCg LCt
variable {prog : Program} {w : World} {A : Around} {E : Value → Shared → Prop} {s : Shared} {h₀ : Heap} {L : Addr} {m : Str → Option Value} {env : Env} {elt ct : Expr} {x : Str} {scope : Scope} {cl : List (Str × Addr)}
theorem CompEnd_mono {s₁ : Shared} {I C D : Addr} {oI oC oD : Obj} {S : Led → Prop} {r r' : Value → Led → Prop} (h : ∀ y n, r y n → r' y n) : ∀ y s₂, CompEnd h₀ L m s₁ I oI C oC D oD S r y s₂ → CompEnd h₀ L m s₁ I oI C oC D oD S r' y s₂ :=
  fun y s₂ ⟨h', tk, n', a, b, c, d, e, f⟩ => ⟨h', tk, n', a, b, c, d, e, h _ _ f⟩
theorem compRest_inv {S : Led → Prop} {P : Nat → Value → Prop} {Fin : List Value → Led → Prop} (J : Nat → List Value → Led → Prop) (n : Nat)
    (turn : ∀ i ys news, i < n → J i ys news → ∀ v I oI C oC D m₂ h tk (E' : Value → Shared → Prop), P i v → NsObj oC m₂ → m₂ x = some v → Fr h₀ L h m → News h₀ L h ((I, oI) :: (C, oC) :: (D, lst ys) :: news) → Off3 I C D news → ((@Ne Nat I C) ∧ (@Ne Nat I D) ∧ (@Ne Nat C D)) →
      wpAny (model prog w) A (eval elt (compEnvC scope cl C env)) (CompEnd h₀ L m { s with heap := h, toks := tk } I oI C oC D (lst ys) S (fun y news' => J (i + 1) (ys ++ [y]) news')) E' { s with heap := h, toks := tk })
    (fin : ∀ ys news, J n ys news → Fin ys news) : ∀ k i ys news, i + k = n → J i ys news → CompRest prog w A h₀ L m env elt x scope cl s S P Fin k i ys news
  | 0, i, ys, news, e, hJ => fin ys news (by have e' : i = n := e; exact e' ▸ hJ)
  | k + 1, i, ys, news, e, hJ => fun v I oI C oC D m₂ h tk E' hP hC hx F N off ne =>
    wpAny_mono (turn i ys news (by omega) hJ v I oI C oC D m₂ h tk E' hP hC hx F N off ne) (CompEnd_mono fun y n' q => compRest_inv J n turn fin k (i + 1) (ys ++ [y]) n' (by omega) q) fun _ _ e => e
theorem compRestT_inv {S : Led → Prop} {P : Nat → Value → Prop} {Fin : List Value → Led → Prop} (J : Nat → List Value → Led → Prop) (n : Nat)
    (turn : ∀ i ys news, i < n → J i ys news → ∀ v I oI C oC D m₂ h tk (E' : Value → Shared → Prop), P i v → NsObj oC m₂ → m₂ x = some v → Fr h₀ L h m → News h₀ L h ((I, oI) :: (C, oC) :: (D, lst ys) :: news) → Off3 I C D news → ((@Ne Nat I C) ∧ (@Ne Nat I D) ∧ (@Ne Nat C D)) →
      wpAny (model prog w) A (isTrue ct (compEnvC scope cl C env) (eval ct (compEnvC scope cl C env))) (fun ok s' => if ok = true then
        wpAny (model prog w) A (eval elt (compEnvC scope cl C env)) (CompEnd h₀ L m { s with heap := h, toks := tk } I oI C oC D (lst ys) S (fun y news' => J (i + 1) (ys ++ [y]) news')) E' s'
        else CompEnd h₀ L m { s with heap := h, toks := tk } I oI C oC D (lst ys) S (fun _ news' => J (i + 1) ys news') Value.none s') E' { s with heap := h, toks := tk })
    (fin : ∀ ys news, J n ys news → Fin ys news) : ∀ k i ys news, i + k = n → J i ys news → CompRestT prog w A h₀ L m env ct elt x scope cl s S P Fin k i ys news
  | 0, i, ys, news, e, hJ => fin ys news (by have e' : i = n := e; exact e' ▸ hJ)
  | k + 1, i, ys, news, e, hJ => fun v I oI C oC D m₂ h tk E' hP hC hx F N off ne =>
    wpAny_mono (turn i ys news (by omega) hJ v I oI C oC D m₂ h tk E' hP hC hx F N off ne) (fun ok s' q => by
      cases ok with
      | true =>
        simp only [if_true] at q ⊢
        exact wpAny_mono q (CompEnd_mono fun y n' z => compRestT_inv J n turn fin k (i + 1) (ys ++ [y]) n' (by omega) z) fun _ _ e => e
      | false =>
        simp only [Bool.false_eq_true, if_false] at q ⊢
        exact CompEnd_mono (fun y n' z => compRestT_inv J n turn fin k (i + 1) ys n' (by omega) z) _ _ q) fun _ _ e => e
theorem dictKeys_walks {K : Type} [DecidableEq K] {knd : KeyKind prog w K} (hh : A.handled = none) (I d : Addr) (hne : d ≠ I) (kvs : List (K × Value)) (ep : Nat) (o : Obj) (hd : ∀ h : Heap, h.get? d = some o → h.DictAt knd d kvs ep) :
    Walks prog w A I [I, d] [I] kvs.length (fun i v => ∃ k x, kvs[i]? = some (k, x) ∧ knd.is k v = true) (fun i h => h.IsKeyIter I d i kvs.length ep ∧ h.get? d = some o) :=
  let W := Walks.dictKeys (prog := prog) (w := w) (knd := knd) hh I d hne kvs ep
  { sub := W.sub
    frame := fun i h h' st hk => ⟨st.1.at fun o e => hk I (by simp) o e, hk d (by simp) o st.2⟩
    item := fun i s Q E hi st hQ => W.item i s Q E hi ⟨st.1, hd _ st.2⟩ fun v h' tk hP st' hk => hQ v h' tk hP ⟨st'.1, hk d o (by simpa using hne) st.2⟩ hk
    done := fun s Q E st hQ => W.done s Q E ⟨st.1, hd _ st.2⟩ hQ
    self := fun i s Q E st hQ => W.self i s Q E ⟨st.1, hd _ st.2⟩ hQ }
theorem ListComp_dict {K : Type} [DecidableEq K] {knd : KeyKind prog w K} {iter : Expr} {px : Pos} {pos : Pos} {Q : Value → Shared → Prop} (F₀ : Fr h₀ L s.heap m)
    (hclos : closureFor scope env = pure cl) (hcell : ∀ y ∈ scope.names, y.2 ≠ .cell) (hkind : scope.kind = .function)
    (hnames : ∀ y ∈ scope.names, y.2 = .local → scope.names.lookup y.1 = some .local) (hx : scope.names.lookup x = some .local)
    (h : wpAny (model prog w) A (eval iter env) (fun xv s₁ => Stop <| ∃ d o kvs news, xv = .ref d ∧ A.handled = none ∧ Fr h₀ L s₁.heap m ∧ News h₀ L s₁.heap news ∧ (d, o) ∈ news ∧ (d == sysModules) = false ∧ o.IsDictOf knd kvs ∧ kvs.length ≤ sizeLine ∧
      ∀ s₂ : Shared, (∃ h, s₂ = { s₁ with heap := h }) → CompRest prog w A h₀ L m env elt x scope cl s₂ (fun nw => (d, o) ∈ nw) (fun i v => ∃ k y, kvs[i]? = some (k, y) ∧ knd.is k v = true) (FinE h₀ L m s₂ Q) kvs.length 0 [] news) E s)
    (hs : ∀ x, foldedSetIterable iter env x = pure x := by intro _; rfl) :
    wpAny (model prog w) A (eval (.ListComp elt [⟨.Name x px, iter, [], 0⟩] scope pos) env) Q E s := by
  rw [eval_ListComp]
  refine wpAny_comprehension_free (use := none) rfl hs hclos hkind hnames (wpAny_mono h (fun xv s₁ h₁ => ?_) fun _ _ e => e)
  obtain ⟨d, o, kvs, news, rfl, hh, F, N, hm, lo, hdo, hsz, R⟩ := h₁
  obtain ⟨es, ep, h1, h2, h3, h4, h5⟩ := hdo
  have hat : ∀ h : Heap, h.get? d = some o → h.DictAt knd d kvs ep := fun h e => ⟨o, es, e, h1, h2, h3, h4, h5⟩
  have hg := (N _ hm).1
  have hlt : d < s₁.heap.objs.size := Heap.lt_size hg
  refine wpAny_pyIter_dict lo (hat _ hg) ?_
  have up : ∀ b o', s₁.heap.get? b = some o' → (s₁.heap.push { cls := .type "dict_keyiterator", data := .fields #[.ref d, .int 0 0, .int kvs.length 0, .int ep 0] }).get? b = some o' := fun b o' e => Heap.get?_push_of_some _ e
  refine block_U (dictKeys_walks (knd := knd) hh s₁.heap.objs.size d (Nat.ne_of_lt hlt) kvs ep o hat) hsz (fun i h st => by obtain ⟨o', e, _⟩ := st.1; exact ⟨o', e⟩)
    (fun i h h' o' nw st e e' k N S => ⟨by obtain ⟨o'', q, r⟩ := st.1; rw [e] at q; cases q; exact ⟨o', e', r⟩, (N _ S).1⟩) hcell hkind hx ⟨⟨_, Heap.get?_push_size _ rfl, rfl, rfl⟩, up _ _ hg⟩ (fun b hb => ?_)
    (F.keeps up) (N.grown up) (Nat.ne_of_lt F.ns.lt) (next_is_new F) (fun p hp => Nat.ne_of_lt (Heap.lt_size (N p hp).1)) hm (R _ ⟨_, rfl⟩) ?_
  · show b < (s₁.heap.push _).objs.size
    rw [Heap.size_push]
    rcases List.mem_cons.mp hb with rfl | hb
    · exact Nat.lt_succ_self _
    · rw [List.mem_singleton.mp hb]; exact Nat.lt_succ_of_lt hlt
  · intro D C h tk m' ys news' F' N' o1 hn hC₀ hD₀ hCL hDL hCD offC fin
    refine ⟨m', hn, fun h'' hs'' => fin D h'' tk (F'.change hs'' hCL hC₀) (fun p hp => ?_) o1⟩
    refine ⟨hs''.extBut _ _ ?_ (N' p hp).1, (N' p hp).2⟩
    rcases List.mem_cons.mp hp with rfl | hp
    · exact Ne.symm hCD
    · exact offC p hp
theorem ListComp_dictT {K : Type} [DecidableEq K] {knd : KeyKind prog w K} {iter : Expr} {px : Pos} {pos : Pos} {Q : Value → Shared → Prop} (F₀ : Fr h₀ L s.heap m)
    (hclos : closureFor scope env = pure cl) (hcell : ∀ y ∈ scope.names, y.2 ≠ .cell) (hkind : scope.kind = .function)
    (hnames : ∀ y ∈ scope.names, y.2 = .local → scope.names.lookup y.1 = some .local) (hx : scope.names.lookup x = some .local)
    (h : wpAny (model prog w) A (eval iter env) (fun xv s₁ => Stop <| ∃ d o kvs news, xv = .ref d ∧ A.handled = none ∧ Fr h₀ L s₁.heap m ∧ News h₀ L s₁.heap news ∧ (d, o) ∈ news ∧ (d == sysModules) = false ∧ o.IsDictOf knd kvs ∧ kvs.length ≤ sizeLine ∧
      ∀ s₂ : Shared, (∃ h, s₂ = { s₁ with heap := h }) → CompRestT prog w A h₀ L m env ct elt x scope cl s₂ (fun nw => (d, o) ∈ nw) (fun i v => ∃ k y, kvs[i]? = some (k, y) ∧ knd.is k v = true) (FinE h₀ L m s₂ Q) kvs.length 0 [] news) E s)
    (hs : ∀ x, foldedSetIterable iter env x = pure x := by intro _; rfl) :
    wpAny (model prog w) A (eval (.ListComp elt [⟨.Name x px, iter, [ct], 0⟩] scope pos) env) Q E s := by
  rw [eval_ListComp]
  refine wpAny_comprehension_free (use := none) rfl hs hclos hkind hnames (wpAny_mono h (fun xv s₁ h₁ => ?_) fun _ _ e => e)
  obtain ⟨d, o, kvs, news, rfl, hh, F, N, hm, lo, hdo, hsz, R⟩ := h₁
  obtain ⟨es, ep, h1, h2, h3, h4, h5⟩ := hdo
  have hat : ∀ h : Heap, h.get? d = some o → h.DictAt knd d kvs ep := fun h e => ⟨o, es, e, h1, h2, h3, h4, h5⟩
  have hg := (N _ hm).1
  have hlt : d < s₁.heap.objs.size := Heap.lt_size hg
  refine wpAny_pyIter_dict lo (hat _ hg) ?_
  have up : ∀ b o', s₁.heap.get? b = some o' → (s₁.heap.push { cls := .type "dict_keyiterator", data := .fields #[.ref d, .int 0 0, .int kvs.length 0, .int ep 0] }).get? b = some o' := fun b o' e => Heap.get?_push_of_some _ e
  refine block_T (dictKeys_walks (knd := knd) hh s₁.heap.objs.size d (Nat.ne_of_lt hlt) kvs ep o hat) hsz (fun i h st => by obtain ⟨o', e, _⟩ := st.1; exact ⟨o', e⟩)
    (fun i h h' o' nw st e e' k N S => ⟨by obtain ⟨o'', q, r⟩ := st.1; rw [e] at q; cases q; exact ⟨o', e', r⟩, (N _ S).1⟩) hcell hkind hx ⟨⟨_, Heap.get?_push_size _ rfl, rfl, rfl⟩, up _ _ hg⟩ (fun b hb => ?_)
    (F.keeps up) (N.grown up) (Nat.ne_of_lt F.ns.lt) (next_is_new F) (fun p hp => Nat.ne_of_lt (Heap.lt_size (N p hp).1)) hm (R _ ⟨_, rfl⟩) ?_
  · show b < (s₁.heap.push _).objs.size
    rw [Heap.size_push]
    rcases List.mem_cons.mp hb with rfl | hb
    · exact Nat.lt_succ_self _
    · rw [List.mem_singleton.mp hb]; exact Nat.lt_succ_of_lt hlt
  · intro D C h tk m' ys news' F' N' o1 hn hC₀ hD₀ hCL hDL hCD offC fin
    refine ⟨m', hn, fun h'' hs'' => fin D h'' tk (F'.change hs'' hCL hC₀) (fun p hp => ?_) o1⟩
    refine ⟨hs''.extBut _ _ ?_ (N' p hp).1, (N' p hp).2⟩
    rcases List.mem_cons.mp hp with rfl | hp
    · exact Ne.symm hCD
    · exact offC p hp
end
theorem is_int_ref {M : Model} {A : Around} {E : Value → Shared → Prop} {s : Shared} {j : Int} {t : Tok} {a : Addr} {Q : Value → Shared → Prop} (h : Q (.bool false) s) : wpAny M A (compareOp .Is (.int j t) (.ref a)) Q E s := by
  show wpAny M A (isSame (.int j t) (.ref a) >>= fun b => pure (.bool b)) Q E s
  have e : isSame (.int j t) (.ref a) = pure false := rfl
  rw [e]
  exact wpAny_bind (wpAny_pure (wpAny_pure h))
def Apart (l l' : Led) : Prop := ∀ p ∈ l, ∀ q ∈ l', p.1 ≠ q.1
end
section
set_option maxHeartbeats 1000000
section
open LCg LCt
variable {prog : Program} {w : World} {A : Around} {E : Value → Shared → Prop} {s : Shared} {h₀ : Heap} {L : Addr} {m : Str → Option Value} {env : Env} {elt ct : Expr} {x : Str} {scope : Scope} {cl : List (Str × Addr)}
def Off4 (I C c D : Addr) (nw : Led) : Prop := ∀ p ∈ nw, p.1 ≠ I ∧ p.1 ≠ C ∧ p.1 ≠ c ∧ p.1 ≠ D
def CellEnd (h₀ : Heap) (L : Addr) (m : Str → Option Value) (s₁ : Shared) (a4 : Led) (I C c D : Addr) (r : Value → Led → Prop) (y : Value) (s₂ : Shared) : Prop :=
  ∃ h' tk nw, s₂ = { s₁ with heap := h', toks := tk } ∧ Fr h₀ L h' m ∧ News h₀ L h' (a4 ++ nw) ∧ Off4 I C c D nw ∧ r y nw
theorem ListComp_cell {iter : Expr} {px : Pos} {pos : Pos} {Q : Value → Shared → Prop} (F₀ : Fr h₀ L s.heap m)
    (hclos : closureFor scope env = pure cl) (hkind : scope.kind = .function)
    (hnames : ∀ y ∈ scope.names, y.2 = .local → scope.names.lookup y.1 = some .local)
    (hcf : ∀ n, cellsFrom n scope.names cl = (x, n) :: cl) (hpc : ∀ h, pushCells h scope.names = h.push { cls := .type "cell", data := .cell none })
    (hxk : ∀ C cl', (compEnvC scope cl' C env).kindOf x = some .cell)
    (h : wpAny (model prog w) A (eval iter env) (fun xv s₁ => Stop <| ∃ ax its k news, xv = .ref ax ∧ A.handled = none ∧ Fr h₀ L s₁.heap m ∧ News h₀ L s₁.heap news ∧ (ax, listOf its k) ∈ news ∧ its.size ≤ sizeLine ∧
      ∃ J : Nat → List Value → Led → Prop, J 0 [] news ∧
        (∀ i ys nw, i < its.size → J i ys nw → (ax, listOf its k) ∈ nw → ∀ v I oI C oC c oc D h tk (E' : Value → Shared → Prop), its[i]? = some v → oc.data = .cell (some v) → Fr h₀ L h m → News h₀ L h ([(I, oI), (C, oC), (c, oc), (D, lst ys)] ++ nw) → Off4 I C c D nw →
          @Ne Nat I C → @Ne Nat I c → @Ne Nat I D → @Ne Nat C c → @Ne Nat C D → @Ne Nat c D →
          wpAny (model prog w) A (eval elt (compEnvC scope ((x, c) :: cl) C env)) (CellEnd h₀ L m { s₁ with heap := h, toks := tk } [(I, oI), (C, oC), (c, oc), (D, lst ys)] I C c D (fun y nw' => (ax, listOf its k) ∈ nw' ∧ J (i + 1) (ys ++ [y]) nw')) E' { s₁ with heap := h, toks := tk }) ∧
        (∀ ys nw D h tk, J its.size ys nw → Fr h₀ L h m → News h₀ L h ((D, lst ys) :: nw) → (∀ p ∈ nw, p.1 ≠ D) → Q (.ref D) { s₁ with heap := h, toks := tk })) E s)
    (hs : ∀ x, foldedSetIterable iter env x = pure x := by intro _; rfl) :
    wpAny (model prog w) A (eval (.ListComp elt [⟨.Name x px, iter, [], 0⟩] scope pos) env) Q E s := by
  rw [eval_ListComp]
  refine wpAny_comprehension_free (use := none) rfl hs hclos hkind hnames (wpAny_mono h (fun xv s₁ h₁ => ?_) fun _ _ e => e)
  obtain ⟨ax, its, k, news, rfl, hh, F, N, hm, hsz, J, hJ0, turn, fin⟩ := h₁
  have hg := (N _ hm).1
  have hl : s₁.heap.IsList ax its := ⟨_, hg, rfl, k, rfl⟩
  have hlt : ax < s₁.heap.objs.size := Heap.lt_size hg
  refine wpAny_pyIter_list hl ?_
  refine wpAny_newObj_type ?_
  simp only [newFunctionEnv, Option.isSome_some, if_true]
  refine wpAny_bind (wpAny_alloc ?_)
  refine wpAny_bind (wpAny_layCells _ (fun name kind cells => by cases hkc : kind == NameKind.cell <;> simp [hkc]) _ _ _ _ ?_)
  rw [hcf, hpc]
  refine wpAny_bind (wpAny_pure (wpAny_pure ?_))
  dsimp only
  generalize hH0 : s₁.heap = H0 at *
  generalize hH1 : H0.push { cls := .type "list_iterator", data := .fields #[.ref ax, .int 0 0] } = H1
  generalize hH2 : H1.push { cls := .type "list", dict := none, data := .seq ([] : List Value).toArray } = H2
  generalize hH3 : H2.push { cls := .type "dict", data := .dict #[] } = H3
  generalize hH4 : H3.push { cls := .type "cell", data := .cell none } = H4
  have z1 : H1.objs.size = H0.objs.size + 1 := by rw [← hH1, Heap.size_push]
  have z2 : H2.objs.size = H0.objs.size + 2 := by rw [← hH2, Heap.size_push, z1]
  have z3 : H3.objs.size = H0.objs.size + 3 := by rw [← hH3, Heap.size_push, z2]
  have up1 : ∀ b o, H0.get? b = some o → H1.get? b = some o := fun b o e => hH1 ▸ Heap.get?_push_of_some _ e
  have up2 : ∀ b o, H1.get? b = some o → H2.get? b = some o := fun b o e => hH2 ▸ Heap.get?_push_of_some _ e
  have up3 : ∀ b o, H2.get? b = some o → H3.get? b = some o := fun b o e => hH3 ▸ Heap.get?_push_of_some _ e
  have up4 : ∀ b o, H3.get? b = some o → H4.get? b = some o := fun b o e => hH4 ▸ Heap.get?_push_of_some _ e
  have up : ∀ b o, H0.get? b = some o → H4.get? b = some o := fun b o e => up4 _ _ (up3 _ _ (up2 _ _ (up1 _ _ e)))
  have gI : H1.get? H0.objs.size = some { cls := .type "list_iterator", data := .fields #[.ref ax, .int 0 0] } := hH1 ▸ Heap.get?_push_size _ rfl
  have gD : H2.get? H1.objs.size = some (lst []) := hH2 ▸ Heap.get?_push_size _ rfl
  have gC : H3.Ns H2.objs.size fun _ => none := hH3 ▸ Heap.Ns.new H2 (.type "dict")
  have gc : H4.IsCell H3.objs.size none := ⟨_, hH4 ▸ Heap.get?_push_size _ rfl, rfl⟩
  have gI4 := up4 _ _ (up3 _ _ (up2 _ _ gI))
  have gD4 := up4 _ _ (up3 _ _ gD)
  have gC4 := gC.keeps up4
  have fresh₀ : ∀ a, H0.objs.size ≤ a → h₀.get? a = none := fun a ha => by
    cases e : h₀.get? a with
    | none => rfl
    | some o' => exact absurd (Heap.lt_size (F.keep a o' e)) (Nat.not_lt.mpr ha)
  have hI₀ : h₀.get? H0.objs.size = none := fresh₀ _ (Nat.le_refl _)
  have hD₀ : h₀.get? H1.objs.size = none := fresh₀ _ (by rw [z1]; exact Nat.le_add_right _ _)
  have hC₀ : h₀.get? H2.objs.size = none := fresh₀ _ (by rw [z2]; exact Nat.le_add_right _ _)
  have hc₀ : h₀.get? H3.objs.size = none := fresh₀ _ (by rw [z3]; exact Nat.le_add_right _ _)
  have hLlt : L < H0.objs.size := F.ns.lt
  have nIL : L ≠ H0.objs.size := Nat.ne_of_lt hLlt
  have nDL : L ≠ H1.objs.size := by rw [z1]; exact Nat.ne_of_lt (Nat.lt_add_right 1 hLlt)
  have nCL : L ≠ H2.objs.size := by rw [z2]; exact Nat.ne_of_lt (Nat.lt_add_right 2 hLlt)
  have ncL : L ≠ H3.objs.size := by rw [z3]; exact Nat.ne_of_lt (Nat.lt_add_right 3 hLlt)
  have nIC : @Ne Nat H0.objs.size H2.objs.size := by rw [z2]; omega
  have nIc : @Ne Nat H0.objs.size H3.objs.size := by rw [z3]; omega
  have nID : @Ne Nat H0.objs.size H1.objs.size := by rw [z1]; omega
  have nCc : @Ne Nat H2.objs.size H3.objs.size := by rw [z2, z3]; omega
  have nCD : @Ne Nat H2.objs.size H1.objs.size := by rw [z2, z1]; omega
  have ncD : @Ne Nat H3.objs.size H1.objs.size := by rw [z3, z1]; omega
  have off₀ : Off4 H0.objs.size H2.objs.size H3.objs.size H1.objs.size news := fun p hp => by
    have hlt : @LT.lt Nat _ p.1 H0.objs.size := Heap.lt_size (N p hp).1
    refine ⟨Nat.ne_of_lt hlt, ?_, ?_, ?_⟩
    · rw [z2]; exact Nat.ne_of_lt (Nat.lt_add_right 2 hlt)
    · rw [z3]; exact Nat.ne_of_lt (Nat.lt_add_right 3 hlt)
    · rw [z1]; exact Nat.ne_of_lt (Nat.lt_add_right 1 hlt)
  have W := Walks.list (prog := prog) (w := w) hh H0.objs.size ax (Nat.ne_of_lt hlt) its
  have loop : codeAny (model prog w) A (.compLoop (.ListComp elt [⟨.Name x px, iter, [], 0⟩] scope pos) 0 (.ref H0.objs.size) (.ref H1.objs.size) (compEnvC scope ((x, H3.objs.size) :: cl) H2.objs.size env))
      (compPost (model prog w) A E none Q (Value.ref H1.objs.size) H2.objs.size) { s₁ with heap := H4 } := by
    refine codeAny_compLoop_tests
      (fun k' s' => ∃ h' tk i ys m' oc nw, s' = { s₁ with heap := h', toks := tk } ∧ i ≤ its.size ∧ k' = its.size + 1 - i ∧ ys.length = i ∧ h'.IsListIter H0.objs.size ax i ∧ Fr h₀ L h' m ∧ h'.Ns H2.objs.size m' ∧ h'.IsCell H3.objs.size oc ∧
        h'.get? H1.objs.size = some (lst ys) ∧ News h₀ L h' nw ∧ Off4 H0.objs.size H2.objs.size H3.objs.size H1.objs.size nw ∧ (ax, listOf its k) ∈ nw ∧ J i ys nw) ?_ (its.size + 1)
      ⟨H4, s₁.toks, 0, [], _, none, news, rfl, Nat.zero_le _, rfl, rfl, ⟨_, gI4, rfl, rfl⟩, F.keeps up, gC4, gc, gD4, N.grown up, off₀, hm, hJ0⟩
    rintro k' s' ⟨h', tk, i, ys, m', oc, nw, rfl, hi, rfl, hyl, hit, F', hn', hcl', hD', N', off', hm', hJ⟩
    by_cases hlti : i < its.size
    · have hl' : h'.IsList ax its := ⟨_, (N' _ hm').1, rfl, k, rfl⟩
      refine W.item i _ _ _ hlti ⟨hit, hl'⟩ fun v h₂ tk₂ hPv hst₂ hk₂ => ?_
      have k2 : ∀ b o, b ≠ H0.objs.size → h'.get? b = some o → h₂.get? b = some o := fun b o hb e => hk₂ b o (by simpa using hb) e
      obtain ⟨oc', hoc', hdc'⟩ := hcl'
      have hcell₂ : h₂.IsCell H3.objs.size oc := ⟨oc', k2 _ _ (Ne.symm nIc) hoc', hdc'⟩
      refine wpAny_assign_Name (wpAny_storeName_cell (by simp [compEnvC, relabel, hkind]) (hxk _ _) (by simp [compEnvC]) hcell₂ (fun h₃ hcell₃ hs₃ => ?_))
      refine wpAny_tests_nil ?_
      simp only [if_true]
      have k3 : ∀ b o, b ≠ H0.objs.size → b ≠ H3.objs.size → h'.get? b = some o → h₃.get? b = some o := fun b o hb hb' e => hs₃.extBut b o hb' (k2 b o hb e)
      obtain ⟨oI, heI, hIc, hId⟩ := hst₂.1
      have heI₃ : h₃.get? H0.objs.size = some oI := hs₃.extBut _ _ nIc heI
      obtain ⟨oC, heC, hoC⟩ := ns_obj hn'
      have heC₃ := k3 _ _ (Ne.symm nIC) nCc heC
      obtain ⟨oc3, heC3, hdc3⟩ := hcell₃
      have hD₃ := k3 _ _ (Ne.symm nID) (Ne.symm ncD) hD'
      have F₃ : Fr h₀ L h₃ m := ((fr_but F' hk₂ nIL hI₀).change hs₃ (Ne.symm ncL) hc₀)
      have N₃ : News h₀ L h₃ ([(H0.objs.size, oI), (H2.objs.size, oC), (H3.objs.size, oc3), (H1.objs.size, lst ys)] ++ nw) := fun p hp => by
        simp only [List.cons_append, List.nil_append, List.mem_cons] at hp
        rcases hp with rfl | rfl | rfl | rfl | hp
        · exact ⟨heI₃, Ne.symm nIL, hI₀⟩
        · exact ⟨heC₃, Ne.symm nCL, hC₀⟩
        · exact ⟨heC3, Ne.symm ncL, hc₀⟩
        · exact ⟨hD₃, Ne.symm nDL, hD₀⟩
        · exact ⟨k3 _ _ (off' p hp).1 (off' p hp).2.2.1 (N' p hp).1, (N' p hp).2⟩
      refine wpAny_mono (turn i ys nw hlti hJ hm' v H0.objs.size oI H2.objs.size oC H3.objs.size oc3 H1.objs.size h₃ _ _ hPv hdc3 F₃ N₃ off' nIC nIc nID nCc nCD ncD) (fun y s₄ h₄ => ?_) fun _ _ e => e
      obtain ⟨h₄, tk₄, nw₄, rfl, F₄, N₄, off₄, hm₄, hJ₄⟩ := h₄
      have zI := (N₄ (H0.objs.size, oI) (by simp)).1
      have zC := (N₄ (H2.objs.size, oC) (by simp)).1
      have zc := (N₄ (H3.objs.size, oc3) (by simp)).1
      have zD := (N₄ (H1.objs.size, lst ys) (by simp)).1
      have N₄' : News h₀ L h₄ nw₄ := fun p hp => N₄ p (List.mem_append_right _ hp)
      refine append_at (hsz := by show ys.toArray.size ≤ sizeLine; rw [List.size_toArray, hyl]; exact Nat.le_trans hi hsz) zD fun h₅ hs₅ hD₅ => ?_
      refine ⟨its.size + 1 - (i + 1), by omega, h₅, tk₄, i + 1, ys ++ [y], m', some v, nw₄, rfl, hlti, rfl, by rw [List.length_append, List.length_singleton, hyl], ⟨oI, hs₅.extBut _ _ nID zI, hIc, hId⟩, F₄.change hs₅ (Ne.symm nDL) hD₀,
        (hoC.ns zC).sameBut hs₅ nCD, ⟨oc3, hs₅.extBut _ _ ncD zc, hdc3⟩, hD₅.trans (congrArg some (lst_snoc ys y)), fun p hp => ⟨hs₅.extBut _ _ (off₄ p hp).2.2.2 (N₄' p hp).1, (N₄' p hp).2⟩, off₄, hm₄, hJ₄⟩
    · obtain rfl : i = its.size := Nat.le_antisymm hi (Nat.not_lt.mp hlti)
      have hl' : h'.IsList ax its := ⟨_, (N' _ hm').1, rfl, k, rfl⟩
      refine W.done _ _ _ ⟨hit, hl'⟩ fun h₂ tk₂ hk₂ => ?_
      have k2 : ∀ b o, b ≠ H0.objs.size → h'.get? b = some o → h₂.get? b = some o := fun b o hb e => hk₂ b o (by simpa using hb) e
      refine ⟨m', hn'.at' fun o e => k2 _ o (Ne.symm nIC) e, fun h'' hs'' => ?_⟩
      refine fin ys nw H1.objs.size h'' tk₂ hJ ((fr_but F' hk₂ nIL hI₀).change hs'' (Ne.symm nCL) hC₀) (fun p hp => ?_) fun p hp => (off' p hp).2.2.2
      rcases List.mem_cons.mp hp with rfl | hp
      · exact ⟨hs''.extBut _ _ (Ne.symm nCD) (k2 _ _ (Ne.symm nID) hD'), Ne.symm nDL, hD₀⟩
      · exact ⟨hs''.extBut _ _ (off' p hp).2.1 (k2 _ _ (off' p hp).1 (N' p hp).1), (N' p hp).2⟩
  exact codeAny_compStart_list loop (W.self 0 _ _ _ ⟨⟨_, gI4, rfl, rfl⟩, ⟨_, up _ _ hg, rfl, k, rfl⟩⟩ loop)
end
end
section
set_option maxHeartbeats 1000000
theorem plain_dloop : plainId "dict.update.loop" = true := by decide +kernel
theorem entry_dloop : entryFor table "dict.update.loop" = some Builtin.«dict.update.loop» := entryFor_of_fast (by kernel_rfl)
theorem noKeys_list {prog : Program} {w : World} {A : Around} {E : Value → Shared → Prop} {s : Shared} {a : Addr} {xs : Array Value} {k : Nat} {sl : Array (Option Value)} {Q : Option Value → Shared → Prop}
    (hx : s.heap.get? a = some { cls := .type "list", dict := none, data := .seq xs k, slots := sl }) (hA : A.handled = none)
    (h : ∀ h' tk, (∀ b o, s.heap.get? b = some o → h'.get? b = some o) → Q none { s with heap := h', toks := tk }) :
    wpAny (model prog w) A (getAttr? (.ref a) (Str.ofString "keys")) Q E s := by
  obtain ⟨hp, g, d, tk, os⟩ := s
  have hmiss : typeLookup (.type "list") (Str.ofString "keys") = pure none := by rw [typeLookup_type, builtinLookup_eq_fast]; kernel_rfl
  have hname : (["__module__", "__name__", "__qualname__", "__doc__", "__annotations__"] : List Str).contains (Str.ofString "keys") = false := by decide +kernel
  have hT : ∀ tk', (⟨hp, g, d, tk', os⟩ : Shared).TypeIs (.ref a) "list" := fun _ => ⟨_, hx, rfl⟩
  have f1 := sub_AttributeError
  have f3 := F.slot_list_getattribute.lookup
  have f4 := F.slot_list_getattribute.bind (.ref a)
  have f5 := am_list_getattr_none
  unfold getAttr? getAttrBy? getAttrBy
  repeat (any_goals (first | assumption | exact hT _ | ((with_reducible show wpAny _ _ (call (Value.builtin "list.__getattribute__") _ _) _ _ _); refine call_meets F.slot_list_getattribute (hT _) am_entry_list_getattribute (F.args_list_getattribute_2 _ _) (meets_getattribute_miss_list a xs k sl (Str.ofString "keys") _ hmiss hname) ⟨hx, hA, fun h' tk' e hx' => ?_⟩) | wp_step))
  obtain ⟨t', u', he⟩ := hx'.there
  show wpAny _ _ (getattributeRaised _ _ _ _ _ _ _) _ _ _
  unfold getattributeRaised
  repeat (any_goals (first | assumption | wp_step))
  exact h _ _ hx'.keeps
/-- a tuple of a str and a value -/
def PairAt (h : Heap) (v : Value) (kv : Str × Value) : Prop := ∃ T t, v = .ref T ∧ h.IsTuple T #[.str kv.1 t, kv.2]
theorem dloop {prog : Program} {w : World} {A : Around} {R : Result → Shared → Prop} {I ax d : Addr} {its : Array Value} {pairs : List (Str × Value)} {res : Value}
    (hA : A.handled = none) (hdI : d ≠ I) (hda : d ≠ ax) (hIa : ax ≠ I) (hlen : its.size = pairs.length) (hsz : its.size ≤ sizeLine) (hnd : (pairs.map (·.1)).Nodup) :
    ∀ (k i : Nat) (s : Shared), its.size - i = k → i ≤ its.size → s.heap.IsListIter I ax i → s.heap.IsList ax its → s.heap.DictOf (strKind prog w) d (pairs.take i) →
    (∀ (j : Nat) (v : Value) (kv : Str × Value), its[j]? = some v → pairs[j]? = some kv → PairAt s.heap v kv ∧ v ≠ .ref d ∧ v ≠ .ref I) →
    (∀ h' tk, h'.DictOf (strKind prog w) d pairs → (∀ b o, b ≠ d → b ≠ I → s.heap.get? b = some o → h'.get? b = some o) → R (.ok (.ret res)) { s with heap := h', toks := tk }) →
    codeAny (model prog w) A (.builtin "dict.update.loop" ⟨[.ref d, .ref I, rawInt i, res], []⟩) R s := by
  have W := Walks.list (prog := prog) (w := w) (A := A.in1) hA I ax hIa its
  intro k
  induction k with
  | zero =>
    intro i s hk hi hit hl hd hp hR
    have hin : i = its.size := by omega
    subst hin
    refine codeAny_builtin entry_dloop ?_
    rw [Around.under_plainId plain_dloop _]
    show wpAny _ A.in1 (pyNext (.ref I) >>= _) _ _ s
    refine wpAny_bind (W.done s _ _ ⟨hit, hl⟩ fun h' tk hk' => ?_)
    show wpAny _ A.in1 (Builtin.Dict.addKeywords d [] >>= fun _ => ret res) _ _ _
    refine wpAny_bind (wpAny_pure (wpAny_pure (hR h' tk ?_ fun b o _ hb e => hk' b o (by simpa using hb) e)))
    rw [hlen, List.take_length] at hd
    obtain ⟨o, es, ep, ho, r⟩ := hd
    exact ⟨o, es, ep, hk' d o (by simpa using hdI) ho, r⟩
  | succ k ih =>
    intro i s hk hi hit hl hd hp hR
    have hlt : i < its.size := by omega
    obtain ⟨kv, hkv⟩ : ∃ kv, pairs[i]? = some kv := ⟨pairs[i]'(by omega), by rw [List.getElem?_eq_getElem]⟩
    refine codeAny_builtin entry_dloop ?_
    rw [Around.under_plainId plain_dloop _]
    show wpAny _ A.in1 (pyNext (.ref I) >>= _) _ _ s
    refine wpAny_bind (W.item i s _ _ hlt ⟨hit, hl⟩ fun v h₁ tk₁ hv st₁ hk₁ => ?_)
    have k1 : ∀ b o, b ≠ I → s.heap.get? b = some o → h₁.get? b = some o := fun b o hb e => hk₁ b o (by simpa using hb) e
    obtain ⟨⟨T, t, rfl, hT⟩, hvd, hvI⟩ := hp i v kv hv hkv
    have hTI : T ≠ I := fun e => hvI (by rw [e])
    have hT₁ : h₁.IsTuple T #[.str kv.1 t, kv.2] := hT.at fun o e => k1 T o hTI e
    obtain ⟨oT, hoT, hcT, nT, hdT⟩ := hT₁
    have hd₁ : h₁.DictOf (strKind prog w) d (pairs.take i) := by
      obtain ⟨o, es, ep, ho, r⟩ := hd
      exact ⟨o, es, ep, k1 d o hdI ho, r⟩
    have htake : pairs.take (i + 1) = pairs.take i ++ [kv] := by rw [List.take_add_one, hkv]; rfl
    have hfresh : kv.1 ∉ (pairs.take i).map (·.1) := by
      intro hm
      have hm' : kv.1 ∈ (pairs.map (·.1)).take i := by rw [← List.map_take]; exact hm
      obtain ⟨j, hj, e⟩ := List.getElem_of_mem hm'
      have hj' : j < i := by rw [List.length_take] at hj; omega
      have e2 : (pairs.map (·.1))[j]? = some kv.1 := by
        rw [← e, List.getElem_take, List.getElem?_eq_getElem]
      have e3 : (pairs.map (·.1))[i]? = some kv.1 := by rw [List.getElem?_map, hkv]; rfl
      have := (List.getElem?_inj (by rw [List.length_map]; omega) hnd).mp (e2.trans e3.symm)
      omega
    have hstored : stored (pairs.take i) kv.1 kv.2 = pairs.take (i + 1) := by rw [stored_new _ hfresh, htake]
    dsimp only
    refine wpAny_bind (wpAny_holding (wpAny_bind (wpAny_tryCatch ?_)))
    unfold Builtin.Dict.pairItems
    have hTy : (⟨h₁, s.gens, s.drawn, tk₁, s.os⟩ : Shared).TypeIs (.ref T) "tuple" := ⟨oT, hoT, hcT⟩
    refine wpAny_bind (wpAny_typeOf hTy ?_)
    rw [if_pos (by decide)]
    refine wpAny_bind (wpAny_seqItems hoT hdT (wpAny_pure ?_))
    dsimp only [Option.getD]
    refine wpAny_holding (wpAny_dictSet_pairs (knd := strKind prog w) (k := kv.1) (strKind_is _ _ _ _) hd₁ (fun h₂ hd₂ hs₂ => ?_) (by rw [List.length_take]; omega))
    rw [hstored] at hd₂
    have k2 : ∀ b o, b ≠ d → b ≠ I → s.heap.get? b = some o → h₂.get? b = some o := fun b o hb hb' e => hs₂.extBut b o hb (k1 b o hb' e)
    refine wpAny_pure ⟨plainId_quiet plain_dloop _, ?_⟩
    refine ih (i + 1) _ (by omega) hlt (st₁.1.at fun o e => hs₂.extBut _ _ (Ne.symm hdI) e) (hl.at fun o e => k2 ax o (Ne.symm hda) hIa e) hd₂ (fun j v kv hj hkv => ?_) fun h' tk hd' hk' => ?_
    · obtain ⟨⟨T', t', rfl, hT'⟩, h1, h2⟩ := hp j v kv hj hkv
      exact ⟨⟨T', t', rfl, hT'.at fun o e => k2 T' o (fun e => h1 (by rw [e])) (fun e => h2 (by rw [e])) e⟩, h1, h2⟩
    · exact hR h' tk hd' fun b o hb hb' e => hk' b o hb hb' (k2 b o hb hb' e)
theorem call_dict_pairs {prog : Program} {w : World} {A : Around} {E : Value → Shared → Prop} {s : Shared} {h₀ : Heap} {L ax : Addr} {m : Str → Option Value} {news : Led} {its : Array Value} {n : Nat} {pairs : List (Str × Value)} {Q : Value → Shared → Prop}
    (hA : A.handled = none) (F : Fr h₀ L s.heap m) (N : News h₀ L s.heap news) (hbig : sysModules < h₀.objs.size) (hm : (ax, listOf its n) ∈ news) (hlen : its.size = pairs.length) (hsz : its.size ≤ sizeLine) (hnd : (pairs.map (·.1)).Nodup)
    (hp : ∀ (j : Nat) (v : Value) (kv : Str × Value), its[j]? = some v → pairs[j]? = some kv → ∃ T t n', v = .ref T ∧ (T, ({ cls := .type "tuple", data := .seq #[.str kv.1 t, kv.2] n' } : Obj)) ∈ news)
    (k : ∀ d o h' tk, Fr h₀ L h' m → News h₀ L h' ((d, o) :: news) → (∀ p ∈ news, p.1 < d) → (d == sysModules) = false → o.IsDictOf (strKind prog w) pairs → Q (.ref d) { s with heap := h', toks := tk }) :
    wpAny (model prog w) A (call (.type "dict") [.ref ax]) Q E s := by
  have hax := (N _ hm).1
  have hlt : ax < s.heap.objs.size := Heap.lt_size hax
  refine callType_codes (Q₁ := fun obj s₁ => obj = .ref s.heap.objs.size ∧ s₁ = { s with heap := s.heap.push { cls := .type "dict", data := .dict #[] } }) PySem.F.kt_called_dict (PySem.F.kt_typeCall_dict_1 _) PySem.F.entry_dict_init (kt_code_dict_new _ ⟨rfl, rfl⟩) ?_
  rintro obj s₁ ⟨rfl, rfl⟩
  generalize hH : s.heap.push { cls := .type "dict", data := .dict #[] } = H
  have hnew : H.DictOf (strKind prog w) s.heap.objs.size [] := hH ▸ Heap.DictOf.new s.heap
  have up : ∀ b o, s.heap.get? b = some o → H.get? b = some o := fun b o e => hH ▸ Heap.get?_push_of_some _ e
  have hTn : (⟨H, s.gens, s.drawn, s.toks, s.os⟩ : Shared).TypeIs (.ref s.heap.objs.size) "dict" := hnew.typeIs
  have hTl : (⟨H, s.gens, s.drawn, s.toks, s.os⟩ : Shared).TypeIs (.ref ax) "list" := ⟨_, up _ _ hax, rfl⟩
  refine ⟨hTn, PySem.F.args_dict_init_2 _ _, ?_⟩
  unfold Builtin.«dict.__init__»
  refine wpAny_bind ?_
  unfold Builtin.Dict.selfAndRest
  refine wpAny_bind (wpAny_notOrdered_dict hTn ?_)
  show wpAny _ _ (pure (s.heap.objs.size, [Value.ref ax])) _ _ _
  refine wpAny_pure ?_
  show wpAny _ _ (Builtin.Dict.updateFrom "dict.__init__" s.heap.objs.size (.ref ax) [] .none) _ _ _
  unfold Builtin.Dict.updateFrom
  refine wpAny_bind (wpAny_typeOf hTl ?_)
  rw [if_pos (by decide)]
  refine wpAny_bind (noKeys_list (up _ _ hax) hA fun H₂ tk₂ up₂ => ?_)
  simp only [Option.isNone_none, if_true]
  refine wpAny_bind (wpAny_rule ?_)
  have hl₂ : H₂.IsList ax its := ⟨_, up₂ _ _ (up _ _ hax), rfl, n, rfl⟩
  refine wpAny_bind (wpAny_pyIter_list hl₂ ?_)
  have hd₂ : H₂.DictOf (strKind prog w) s.heap.objs.size [] := by
    obtain ⟨o, es, ep, ho, r⟩ := hnew
    exact ⟨o, es, ep, up₂ _ _ ho, r⟩
  generalize hH3 : H₂.push { cls := .type "list_iterator", data := .fields #[.ref ax, .int 0 0] } = H₃
  have up₃ : ∀ b o, H₂.get? b = some o → H₃.get? b = some o := fun b o e => hH3 ▸ Heap.get?_push_of_some _ e
  have gI : H₃.get? H₂.objs.size = some { cls := .type "list_iterator", data := .fields #[.ref ax, .int 0 0] } := hH3 ▸ Heap.get?_push_size _ rfl
  have up' : ∀ b o, s.heap.get? b = some o → H₃.get? b = some o := fun b o e => up₃ _ _ (up₂ _ _ (up _ _ e))
  have hdlt : s.heap.objs.size < H₂.objs.size := by obtain ⟨_, _, _, ho, _⟩ := hd₂; exact Heap.lt_size ho
  refine wpAny_pure ⟨plainId_quiet plain_dloop _, ?_⟩
  have hd₃ : H₃.DictOf (strKind prog w) s.heap.objs.size (pairs.take 0) := by
    obtain ⟨o, es, ep, ho, r⟩ := hd₂
    exact ⟨o, es, ep, up₃ _ _ ho, r⟩
  refine dloop (A := A.in1) (res := .none) (R := wants (fun r s₂ => r = Value.none ∧ Q (.ref s.heap.objs.size) s₂) E) (prog := prog) (w := w) (pairs := pairs) (I := H₂.objs.size) (ax := ax) (d := s.heap.objs.size) (its := its) hA (Nat.ne_of_lt hdlt) (Nat.ne_of_gt hlt) (Nat.ne_of_lt (Nat.lt_trans hlt hdlt)) hlen hsz hnd its.size 0 ⟨H₃, s.gens, s.drawn, tk₂, s.os⟩ (Nat.sub_zero _) (Nat.zero_le _) ⟨_, gI, rfl, rfl⟩ ⟨_, up' _ _ hax, rfl, n, rfl⟩ hd₃ (fun j v kv hj hkv => ?_) (fun h' tk hd' hk' => ⟨rfl, ?_⟩)
  · obtain ⟨T, t, n', rfl, hT⟩ := hp j v kv hj hkv
    have hg := (N _ hT).1
    have hTlt : @LT.lt Nat _ T s.heap.objs.size := Heap.lt_size hg
    refine ⟨⟨T, t, rfl, ⟨_, up' _ _ hg, rfl, n', rfl⟩⟩, fun e => ?_, fun e => ?_⟩
    · have e' : T = s.heap.objs.size := by injection e
      exact absurd hTlt (by rw [e']; exact Nat.lt_irrefl _)
    · have e' : T = H₂.objs.size := by injection e
      exact absurd (Nat.lt_trans hTlt hdlt) (by rw [e']; exact Nat.lt_irrefl _)
  · obtain ⟨o, ho, hdo⟩ := Heap.dictOf_iff.mp hd'
    have keep : ∀ b o, s.heap.get? b = some o → h'.get? b = some o := fun b o e => hk' b o (Nat.ne_of_lt (Heap.lt_size e)) (Nat.ne_of_lt (Nat.lt_trans (Heap.lt_size e) hdlt)) (up' _ _ e)
    refine k s.heap.objs.size o h' tk (F.keeps keep) (fun p hp => ?_) (fun p hp => Heap.lt_size (N p hp).1) (F.notModules hbig) hdo
    rcases List.mem_cons.mp hp with rfl | hp
    · exact ⟨ho, Nat.ne_of_gt F.ns.lt, next_is_new F⟩
    · exact ⟨keep _ _ (N p hp).1, (N p hp).2⟩
end
section
set_option maxHeartbeats 1000000
section
variable {prog : Program} {w : World} {A : Around} {E : Value → Shared → Prop} {s : Shared} {env : Env} {h₀ : Heap} {L : Addr} {m : Str → Option Value}
theorem slice2 {M : Model} {lower upper : Expr} {p : Pos} {Q : Value → Shared → Prop}
    (h : wpAny M A (eval lower env) (fun l s₁ => wpAny M A (eval upper env) (fun u s₂ => Q (.ref s₂.heap.objs.size) { s₂ with heap := s₂.heap.push { cls := .type "slice", data := .fields #[l, u, .none] } }) E s₁) E s) :
    wpAny M A (eval (.Slice (some lower) (some upper) none p) env) Q E s := by
  refine wpAny_Slice ?_
  rw [evalPart_some, evalPart_some]
  refine wpAny_mono h (fun l s₁ h₁ => wpAny_mono h₁ (fun u s₂ h₂ => ?_) fun _ _ e => e) fun _ _ e => e
  rw [evalPart_none]
  exact wpAny_pure h₂
theorem setItem_slice {l b sl : Addr} {xs ys : Array Value} {n n2 : Nat} {i : Nat} {t1 t2 : Tok} {Q : Unit → Shared → Prop}
    (hl : s.heap.get? l = some { cls := .type "list", data := .seq xs n }) (hb : s.heap.get? b = some { cls := .type "list", data := .seq ys n2 }) (hlb : l ≠ b)
    (hs : s.heap.IsSliceOf sl (.int (i : Int) t1) (.int ((i : Int) + 1) t2) .none) (hi : i < xs.size) (hsz : xs.size + ys.size ≤ sizeLine)
    (hQ : ∀ h' n', h'.get? l = some { cls := .type "list", data := .seq ((xs.toList.take i ++ ys.toList ++ xs.toList.drop (i + 1)).toArray) n' } → Heap.SameBut l s.heap h' → Q () { s with heap := h' }) :
    wpAny (model prog w) A (setItem (.ref l) (.ref sl) (.ref b)) Q E s := by
  have hll : s.heap.IsList l xs := ⟨_, hl, rfl, n, rfl⟩
  obtain ⟨os, hos, hcs, hds⟩ := id hs
  have hTs : s.TypeIs (.ref sl) "slice" := ⟨os, hos, hcs⟩
  have hTb : s.TypeIs (.ref b) "list" := ⟨_, hb, rfl⟩
  unfold setItem
  try with_reducible refine wpAny_holding ?_
  first | refine wpAny_bind (wpAny_pure ?_) | skip
  refine wpAny_bind (wpAny_sequenceKey hll.typeIs (by decide) ?_)
  refine wpAny_bind (wpAny_callSpecial?_slot (name := Str.ofString "__setitem__") hll.typeIs slot_list_setitem
    (wpAny_call_entry slot_list_setitem hll.typeIs entry_list_setitem ?_ (args_list_setitem _ _ _)))
  show wpAny _ _ (Builtin.List.listSubscript? (.ref sl) >>= _) _ _ s
  refine wpAny_bind ?_
  unfold Builtin.List.listSubscript?
  refine wpAny_bind (wpAny_specialOf hTs slice_no_index ?_)
  simp only [Option.isNone_none, if_true]
  refine wpAny_pure ?_
  show wpAny _ _ (typeOf (.ref sl) >>= _) _ _ s
  refine wpAny_bind (wpAny_typeOf hTs ?_)
  rw [if_neg (by decide)]
  rw [listSliceParts_eq]
  refine wpAny_bind (wpAny_bind (wpAny_field hos hds (x := .none) rfl (wpAny_bind (wpAny_listPart .none ?_))))
  rw [if_neg (show ¬ ((rawPart none == rawInt 0) = true) from Bool.false_ne_true)]
  refine wpAny_bind (wpAny_field hos hds (x := .int (i : Int) t1) rfl (wpAny_bind (wpAny_listPart (.int _ _) ?_)))
  refine wpAny_bind (wpAny_field hos hds (x := .int ((i : Int) + 1) t2) rfl (wpAny_bind (wpAny_listPart (.int _ _) (wpAny_pure ?_))))
  have hsame : Builtin.List.listSameRef (.ref l) (.ref b) = false := by
    show (l == b) = false
    simpa using hlb
  dsimp only
  rw [hsame]
  simp only [Bool.false_eq_true, if_false]
  refine wpAny_bind (m := Builtin.List.listAllItems (.ref b) _) ?_
  unfold Builtin.List.listAllItems
  refine wpAny_bind (wpAny_typeOf hTb ?_)
  rw [if_pos (by decide)]
  unfold Builtin.List.listItems
  refine wpAny_bind (wpAny_seqItems hb rfl (wpAny_pure ?_))
  refine wpAny_bind (wpAny_bind (wpAny_seqItems hl rfl (wpAny_pure ?_)))
  refine wpAny_bind (wpAny_of_eq (sliceIndices_raw (some (i : Int)) (some ((i : Int) + 1)) none xs.size (by simp)) ?_)
  have e : sliceBounds (some (i : Int)) (some ((i : Int) + 1)) none xs.size = ((i : Int), ((i + 1 : Nat) : Int), 1) := by
    simp only [sliceBounds, Option.getD_none]
    have h1 : ¬ ((i : Int) < 0) := by omega
    have h2 : ¬ ((i : Int) + 1 < 0) := by omega
    simp only [h1, h2, if_false, show (1 : Int) > 0 by decide, if_true]
    congr 1
    · omega
    · congr 1; omega
  rw [e]
  dsimp only
  have hlong : Builtin.List.listTooLong (xs.size + ys.size) = false := by
    unfold Builtin.List.listTooLong
    simpa using hsz
  rw [if_pos (by decide)]
  refine wpAny_bind (wpAny_rule ?_)
  rw [if_neg (by rw [hlong]; exact Bool.false_ne_true)]
  have ext : xs.extract 0 i ++ ys ++ xs.extract (i + 1) xs.size = ((xs.toList.take i ++ ys.toList ++ xs.toList.drop (i + 1)).toArray) := by
    apply Array.toList_inj.mp
    simp only [Array.toList_append, Array.toList_extract]
    congr 1
    rw [List.extract_eq_take_drop]
    apply List.take_of_length_le
    rw [List.length_drop, Array.length_toList]; omega
  have fin1 : xs.extract 0 (i : Int).toNat ++ ys ++ xs.extract (max (i : Int) ((i + 1 : Nat) : Int)).toNat xs.size = xs.extract 0 i ++ ys ++ xs.extract (i + 1) xs.size := by
    have e1 : (i : Int).toNat = i := by omega
    have e2 : (max (i : Int) ((i + 1 : Nat) : Int)).toNat = i + 1 := by omega
    rw [e1, e2]
  refine wpAny_bind (wpAny_updateSeq hl rfl ?_ ?_ ?_)
  · refine wpAny_bind (wpAny_letGo (wpAny_pure ⟨.none, rfl, wpAny_pure ?_⟩))
    have hm : ∀ f : Array Value → Array Value, ∃ n', Obj.mapSeq f ({ cls := .type "list", data := .seq xs n } : Obj) = { cls := .type "list", data := .seq (f xs) n' } := fun f => ⟨_, by unfold Obj.mapSeq; rfl⟩
    obtain ⟨n', hn'⟩ := hm (fun xs => xs.extract 0 (i : Int).toNat ++ ys ++ xs.extract (max (i : Int) ((i + 1 : Nat) : Int)).toNat xs.size)
    refine hQ _ n' ?_ (Heap.SameBut.update ..)
    rw [Heap.get?_update_self _ hl (by rw [hn']; rfl), hn', ← ext, fin1]
  · omega
  · rw [fin1, ext]
    simp only [List.size_toArray, List.length_append, List.length_take, List.length_drop, Array.length_toList]
    omega
theorem setSlice_K {l b sl : Addr} {vs us : List Value} {n n2 i : Nat} {t1 t2 : Tok} {all rest : Led} {Q : Unit → Shared → Prop} (F : Fr h₀ L s.heap m) (N : News h₀ L s.heap all) (S : Sel (l, listOf vs.toArray n) all rest) (hr : ∀ p ∈ rest, p.1 ≠ l) (hb : (b, listOf us.toArray n2) ∈ rest)
    (hs : s.heap.IsSliceOf sl (.int (i : Int) t1) (.int ((i : Int) + 1) t2) .none) (hi : i < vs.length) (hsz : vs.length + us.length ≤ sizeLine)
    (h : ∀ h' n', Fr h₀ L h' m → News h₀ L h' ((l, listOf (vs.take i ++ us ++ vs.drop (i + 1)).toArray n') :: rest) → Q () { s with heap := h' }) :
    wpAny (model prog w) A (setItem (.ref l) (.ref sl) (.ref b)) Q E s := by
  have N1 := S.news N
  have hl := N1 _ List.mem_cons_self
  refine setItem_slice hl.1 (N1 _ (List.mem_cons_of_mem _ hb)).1 (fun e => hr _ hb e.symm) hs (by simpa using hi) (by simpa using hsz) fun h' n' hl' hsame => ?_
  refine h h' n' (F.change hsame hl.2.1 hl.2.2) fun p hp => ?_
  rcases List.mem_cons.mp hp with rfl | hp
  · exact ⟨hl', hl.2⟩
  · exact ⟨hsame.extBut _ _ (hr p hp) (N1 p (List.mem_cons_of_mem _ hp)).1, (N1 p (List.mem_cons_of_mem _ hp)).2⟩
theorem pop_none {K : Type} [DecidableEq K] {knd : KeyKind prog w K} {d : Addr} {o : Obj} {kvs : List (K × Value)} {k : K} {key dflt : Value} {news : Led} {Q : Value → Shared → Prop} (N : News h₀ L s.heap news) (hp : (d, o) ∈ news) (hd : o.IsDictOf knd kvs) (lo : (d == sysModules) = false) (hkey : knd.is k key = true) (hpart : (keyPart key).isSome = true)
    (hl : valueAt kvs k = none) (h : Q dflt { s with toks := s.toks + 1 }) : wpAny (model prog w) A (call (.builtin "dict.pop") [.ref d, key, dflt]) Q E s :=
  have hD := kda_dict N hp hd
  call_meetsIn PySem.F.slot_dict_pop hD.typeIs PySem.F.entry_dict_pop (PySem.F.args_dict_pop_3 _ _ _) (meets_dict_pop_default knd d hkey lo hpart dflt) ⟨kvs, hD, hl, h⟩
/-- the same, with the dict picked out of the ledger -/
theorem popThere {K : Type} [DecidableEq K] {knd : KeyKind prog w K} {d : Addr} {o : Obj} {kvs : List (K × Value)} {k : K} {key dflt v : Value} {all rest : Led} {Q : Value → Shared → Prop} (F : Fr h₀ L s.heap m) (N : News h₀ L s.heap all) (S : Sel (d, o) all rest) (hr : ∀ p ∈ rest, p.1 ≠ d) (hd : o.IsDictOf knd kvs) (hkey : knd.is k key = true) (hpart : (keyPart key).isSome = true)
    (hl : valueAt kvs k = some v) (hsz : kvs.length ≤ sizeLine)
    (h : ∀ h' o', Fr h₀ L h' m → News h₀ L h' ((d, o') :: rest) → o'.IsDictOf knd (without kvs k) → Q v { s with heap := h', toks := s.toks + 1 }) : wpAny (model prog w) A (call (.builtin "dict.pop") [.ref d, key, dflt]) Q E s := by
  have N1 := S.news N
  have hm := N1 _ List.mem_cons_self
  have hD : s.heap.DictOf knd d kvs := Heap.dictOf_iff.mpr ⟨o, hm.1, hd⟩
  refine call_meetsIn PySem.F.slot_dict_pop hD.typeIs PySem.F.entry_dict_pop (PySem.F.args_dict_pop_3 _ _ _) (meets_dict_pop_there knd d hkey [dflt] (.inr ⟨_, rfl⟩) hpart) ⟨kvs, v, hD, hsz, hl, fun h' hmm hs => ?_⟩
  obtain ⟨o', ho', hd'⟩ := Heap.dictOf_iff.mp hmm
  refine h h' o' (F.change hs hm.2.1 hm.2.2) (fun p hp => ?_) hd'
  rcases List.mem_cons.mp hp with rfl | hp
  · exact ⟨ho', hm.2⟩
  · exact ⟨hs.extBut _ _ (hr p hp) (N1 p (List.mem_cons_of_mem _ hp)).1, (N1 p (List.mem_cons_of_mem _ hp)).2⟩
theorem setDict {K : Type} [DecidableEq K] {knd : KeyKind prog w K} {d : Addr} {o : Obj} {kvs : List (K × Value)} {k : K} {key v : Value} {all rest : Led} {Q : Unit → Shared → Prop} (F : Fr h₀ L s.heap m) (N : News h₀ L s.heap all) (S : Sel (d, o) all rest) (hr : ∀ p ∈ rest, p.1 ≠ d) (hd : o.IsDictOf knd kvs) (hkey : knd.is k key = true) (hsz : kvs.length ≤ sizeLine)
    (h : ∀ h' o', Fr h₀ L h' m → News h₀ L h' ((d, o') :: rest) → o'.IsDictOf knd (stored kvs k v) → Q () { s with heap := h', toks := s.toks + 1 }) : wpAny (model prog w) A (setItem (.ref d) key v) Q E s := by
  have N1 := S.news N
  have hm := N1 _ List.mem_cons_self
  refine wpAny_setItem_pairs (hsz := hsz) hkey (Heap.dictOf_iff.mpr ⟨o, hm.1, hd⟩) fun h' hmm hs => ?_
  obtain ⟨o', ho', hd'⟩ := Heap.dictOf_iff.mp hmm
  refine h h' o' (F.change hs hm.2.1 hm.2.2) (fun p hp => ?_) hd'
  rcases List.mem_cons.mp hp with rfl | hp
  · exact ⟨ho', hm.2⟩
  · exact ⟨hs.extBut _ _ (hr p hp) (N1 p (List.mem_cons_of_mem _ hp)).1, (N1 p (List.mem_cons_of_mem _ hp)).2⟩
end
end
section
set_option maxHeartbeats 4000000
theorem calmM1 : True := by
  w_top off
  trivial
theorem fl : ∀ (w : World) (h : Heap), PySem.Challenge.rw_ev0001_01 = PySem.Challenge.rw_ev0001_01 → (hd.heap_39 w.params).In h → True := by
  k_fill
  intros; trivial
abbrev stO (na : Addr) (a : Int) (t : Tok) (n : Nat) : Obj := listOf #[.ref na, .int a t] n
def CallsTo (w : World) (f : Nat) (vs : List Value) (k : Nat) (news : Led) (R : Value → Led → Prop) : Prop :=
  ∀ (dp un : Nat) (gd : Option (List Code)) (cn : Str) (cs : Scope) (a : Addr) (ccd : Value) (cl : List (Str × Addr)) (outer : List Env) (A₀ : Around) (base h₀ : Heap) (L : Addr) (m : Str → Option Value)
    (loose : List Str) (mean : ExcName → Option Value) (mg mb : Str → Option Value) (s : Shared) (Q E : Value → Shared → Prop),
    Below A₀ base outer h₀ → Fr h₀ L s.heap m → (hd.heap_39 w.params).In h₀ → News h₀ L s.heap news → Top hd.view_39 loose mean mg mb h₀ → cs.kind = .function → dp + k < recursionLimit → un + 8 * k < cLine →
    (∀ r nw h' tk', Fr h₀ L h' m → News h₀ L h' nw → R r nw → Q r { s with heap := h', toks := tk' }) →
    wpAny (model PySem.Challenge.rw_ev0001_01.row.prog w) (ktrTop dp un gd cn cs L a ccd cl outer) (call (.ref f) vs) Q E s
theorem CallsTo.use {w : World} {f : Nat} {vs : List Value} {k : Nat} {news : Led} {R : Value → Led → Prop}
    {dp un : Nat} {gd : Option (List Code)} {cn : Str} {cs : Scope} {a : Addr} {ccd : Value} {cl : List (Str × Addr)} {outer : List Env} {A₀ : Around} {base h₀ : Heap} {L : Addr} {m : Str → Option Value} {loose : List Str} {mean : ExcName → Option Value} {mg mb : Str → Option Value} {s : Shared} {Q E : Value → Shared → Prop}
    (B : Below A₀ base outer h₀) (F : Fr h₀ L s.heap m) (X : (hd.heap_39 w.params).In h₀) (N : News h₀ L s.heap news)
    (T : Top hd.view_39 loose mean mg mb h₀) (hk : cs.kind = .function) (C : CallsTo w f vs k news R) (hd' : dp + k < recursionLimit) (hu : un + 8 * k < cLine)
    (ret : ∀ r nw h' tk', Fr h₀ L h' m → News h₀ L h' nw → R r nw → Q r { s with heap := h', toks := tk' }) :
    wpAny (model PySem.Challenge.rw_ev0001_01.row.prog w) (ktrTop dp un gd cn cs L a ccd cl outer) (call (.ref f) vs) Q E s :=
  C _ _ _ _ _ _ _ _ _ _ _ _ _ _ _ _ _ _ _ _ _ B F X N T hk hd' hu ret
section
local macro_rules | `(tactic| k_all) => `(tactic| assumption)
theorem next_ {w : World} {st na : Addr} {ns : List Int} {vs : List Value} {at_ many : Int} {ta tm : Tok} {n1 n2 : Nat} {rest : Led}
    {dp un : Nat} {gd : Option (List Code)} {cn : Str} {cs : Scope} {a : Addr} {ccd : Value} {cl : List (Str × Addr)} {outer : List Env} {A₀ : Around} {base h₀ : Heap} {L : Addr} {m : Str → Option Value} {loose : List Str} {mean : ExcName → Option Value} {mg mb : Str → Option Value} {s : Shared} {Q E : Value → Shared → Prop}
    (B : Below A₀ base outer h₀) (F : Fr h₀ L s.heap m) (X : (hd.heap_39 w.params).In h₀) (N : News h₀ L s.heap ((st, listOf #[.ref na, .int at_ ta] n1) :: (na, listOf vs.toArray n2) :: rest))
    (T : Top hd.view_39 loose mean mg mb h₀) (hk : cs.kind = .function) (hd' : dp + 1 < recursionLimit) (hu : un + 8 < cLine)
    (hi : IntsAre vs ns) (hat : 0 ≤ at_) (hat2 : at_ ≤ 100000) (hns : 1 ≤ ns.length) (hb : ∀ x ∈ ns, 0 ≤ x ∧ x < 1000003) (hm : 0 < many) (hm2 : many < 100) (hl : ns.length ≤ 27)
    (hne : @Ne Nat st na) (hst : ∀ p ∈ rest, p.1 ≠ st)
    (ret : ∀ r t h' tk' t', 0 ≤ r → r < many → Fr h₀ L h' m → News h₀ L h' ((st, listOf #[.ref na, .int (at_ + 1) t'] n1) :: (na, listOf vs.toArray n2) :: rest) → Q (.int r t) { s with heap := h', toks := tk' }) :
    wpAny (model PySem.Challenge.rw_ev0001_01.row.prog w) (ktrTop dp un gd cn cs L a ccd cl outer) (call (.ref 58) [.ref st, .int many tm]) Q E s := by
  have hg : 0 ≤ ns.getD (at_.fmod (ns.length : Int)).toNat 0 ∧ ns.getD (at_.fmod (ns.length : Int)).toNat 0 < 1000003 := by
    have hr1 : 0 ≤ at_.fmod (ns.length : Int) := Int.fmod_nonneg_of_pos _ (by omega)
    have hr2 : at_.fmod (ns.length : Int) < ns.length := Int.fmod_lt_of_pos _ (by omega)
    have hlt : (at_.fmod (ns.length : Int)).toNat < ns.length := by omega
    rw [List.getD_eq_getElem?_getD, List.getElem?_eq_getElem hlt]
    exact hb _ (List.getElem_mem hlt)
  obtain ⟨hg1, hg2⟩ := hg
  have hq2 : at_.fdiv (ns.length : Int) ≤ at_ := by
    have e := Int.fdiv_eq_ediv_of_nonneg at_ (b := (ns.length : Int)) (by omega)
    rw [e]; exact Int.ediv_le_self _ hat
  have hq : 0 ≤ at_.fdiv (ns.length : Int) := Int.fdiv_nonneg hat (by omega)
  refine wpAny_call ?_
  k_dflt cell_enter
  k_steps
  exact ret _ _ _ _ _ (Int.fmod_nonneg_of_pos _ hm) (Int.fmod_lt_of_pos _ hm) (by assumption) (fun p hp => by first | exact (by assumption : News h₀ L _ _) p (List.mem_cons_of_mem _ hp))
end
structure NumOk (vs : List Value) (ns : List Int) : Prop where
  hints : IntsAre vs ns
  one : 1 ≤ ns.length
  few : ns.length ≤ 27
  bnd : ∀ x ∈ ns, 0 ≤ x ∧ x < 1000003
theorem use_next {w : World} {st na : Addr} {ns : List Int} {vs : List Value} {at_ many : Int} {ta tm : Tok} {n1 n2 : Nat} {news rest : Led}
    {dp un : Nat} {gd : Option (List Code)} {cn : Str} {cs : Scope} {a : Addr} {ccd : Value} {cl : List (Str × Addr)} {outer : List Env} {A₀ : Around} {base h₀ : Heap} {L : Addr} {m : Str → Option Value} {loose : List Str} {mean : ExcName → Option Value} {mg mb : Str → Option Value} {s : Shared} {Q E : Value → Shared → Prop}
    (B : Below A₀ base outer h₀) (F : Fr h₀ L s.heap m) (X : (hd.heap_39 w.params).In h₀) (N : News h₀ L s.heap news)
    (T : Top hd.view_39 loose mean mg mb h₀) (hk : cs.kind = .function) (hd' : dp + 1 < recursionLimit) (hu : un + 8 < cLine)
    (hsel : Sel (st, stO na at_ ta n1) news rest) (ok : NumOk vs ns) (hna : (na, listOf vs.toArray n2) ∈ rest) (hst : ∀ p ∈ rest, p.1 ≠ st)
    (hat : 0 ≤ at_) (hat2 : at_ ≤ 100000) (hm : 0 < many) (hm2 : many < 100)
    (ret : ∀ r t h' tk' t', 0 ≤ r → r < many → Fr h₀ L h' m → News h₀ L h' ((st, stO na (at_ + 1) t' n1) :: rest) → Q (.int r t) { s with heap := h', toks := tk' }) :
    wpAny (model PySem.Challenge.rw_ev0001_01.row.prog w) (ktrTop dp un gd cn cs L a ccd cl outer) (call (.ref 58) [.ref st, .int many tm]) Q E s := by
  refine next_ (n1 := n1) (n2 := n2) (na := na) (ta := ta) (rest := rest) B F X (fun p hp => ?_) T hk hd' hu ok.hints hat hat2 ok.one ok.bnd hm hm2 ok.few (fun e => hst _ hna e.symm) hst ?_
  · rcases List.mem_cons.mp hp with rfl | hp
    · exact hsel.news N _ List.mem_cons_self
    · rcases List.mem_cons.mp hp with rfl | hp
      · exact hsel.news N _ (List.mem_cons_of_mem _ hna)
      · exact hsel.news N _ (List.mem_cons_of_mem _ hp)
  · intro r t h' tk' t' h0 h1 F' N'
    refine ret r t h' tk' t' h0 h1 F' (fun (p : Addr × Obj) hp => N' p ?_)
    rcases List.mem_cons.mp hp with rfl | hp
    · exact List.mem_cons_self
    · exact List.mem_cons_of_mem _ (List.mem_cons_of_mem _ hp)
end
section
set_option maxHeartbeats 4000000
theorem calmM2 : True := by
  w_top off
  trivial
theorem fl2 : ∀ (w : World) (h : Heap), PySem.Challenge.rw_ev0001_01 = PySem.Challenge.rw_ev0001_01 → (hd.heap_39 w.params).In h → True := by
  k_fill
  intros; trivial
section
set_option hygiene false in
local macro_rules | `(tactic| k_all) => `(tactic| assumption)
set_option hygiene false in
local macro_rules | `(tactic| k_mem) => `(tactic| first | assumption | exact List.mem_cons_self | (refine List.mem_cons_of_mem _ ?_; k_mem))
set_option hygiene false in
local macro_rules | `(tactic| walk_at "exec For Name Call cons nil") => `(tactic| ((rename Fr _ _ _ _ => lF'); (with_unfolding_all refine' For_turns lF' ?_); k_whole))
set_option hygiene false in
local macro_rules | `(tactic| walk_at "call ref") => `(tactic| (k_here; k_dflt (refine' use_next ?B ?F ?X ?N ?T ?hk ?hd ?hu ?sel ?ok ?na ?st ?h1 ?h2 ?h3 ?h4 ?_; (case B => k_asm); (case F => k_asm); (case X => k_asm); (case N => k_asm); (case T => k_asm); (case hk => exact rfl); (case hd => ktr_room); (case hu => ktr_units); (case sel => first | exact Sel.head | exact Sel.tail Sel.head | exact Sel.tail (Sel.tail Sel.head) | exact Sel.tail (Sel.tail (Sel.tail Sel.head)) | exact Sel.tail (Sel.tail (Sel.tail (Sel.tail Sel.head))) | exact Sel.tail (Sel.tail (Sel.tail (Sel.tail (Sel.tail Sel.head))))); (case ok => assumption); (case na => k_mem); (case st => k_all); (case h1 => omega); (case h2 => omega); (case h3 => omega); (case h4 => omega)); intro r' t' h' tk' t2' hr1' hr2' F' N'))
set_option hygiene false in
local macro_rules | `(tactic| walk_at "call type:range") => `(tactic| (refine range1_rows (by assumption) (by assumption) ?_; intro h' tk' t1' u1' v1' hrg' F' N' hk'; (try k_sweep)))
set_option hygiene false in
local macro_rules | `(tactic| walk_at "pyIter ref") => `(tactic| (refine Stop.out ?_))
set_option hygiene false in
local macro_rules | `(tactic| walk_at "newList") => `(tactic| (k_here; k_dflt (refine' newList_K ?k1 ?k2 ?_; (case k1 => k_asm); (case k2 => k_asm); k_whole); intro l' h' F' N' l1; (try k_lt l1); (try k_sweep)))
theorem items_ {w : World} {st na : Addr} {ns : List Int} {vs : List Value} {at_ : Int} {ta : Tok} {n1 n2 : Nat} {rest : Led}
    (ok : NumOk vs ns) (hna : (na, listOf vs.toArray n2) ∈ rest) (hst : ∀ p ∈ rest, p.1 ≠ st) (hat : 0 ≤ at_) (hat2 : at_ ≤ 50000) :
    CallsTo w 77 [.ref st] 2 ((st, stO na at_ ta n1) :: rest) (fun r nw => ∃ fa vs' n' xs a' t', r = .ref fa ∧ nw = (fa, listOf vs'.toArray n') :: (st, stO na a' t' n1) :: rest ∧ IntsAre vs' xs ∧ xs.length ≤ 4 ∧ at_ ≤ a' ∧ a' ≤ at_ + 5 ∧ st < fa ∧ ∀ p ∈ rest, p.1 < fa) := by
  intro dp un gd cn cs a ccd cl outer A₀ base h₀ L m loose mean mg mb s Q E B F X N T hk hd' hu ret
  refine wpAny_call ?_
  k_dflt cell_enter
  k_steps
  refine Stop.mk ?_
  obtain ⟨hfa1, hfa2⟩ := l1
  (with_unfolding_all refine iter_rangeTurns (n := r'.toNat) rfl F' N' hrg' (small_one (by omega) (by omega) (by omega) (by omega)) (by rw [rangeSize_nat]; simp) ?_)
  intro I hI
  k_lt hI
  refine turns_off [Str.ofString "turn", Str.ofString "number"] (fun xs nw => ∃ vs' n' zs a' t' j k, xs = rangeItems j k ∧ nw = (st, stO na a' t' n1) :: (l', listOf vs'.toArray n') :: rest ∧ IntsAre vs' zs ∧ zs.length + k ≤ 4 ∧ at_ + 1 ≤ a' ∧ a' + k ≤ at_ + 5) ?_ ?_ _ _ ⟨[], 0, [], at_ + 1, t2', 0, r'.toNat, rfl, rfl, .nil, by simp; omega, by omega, by omega⟩ trivial
  · rintro a1 r u news ⟨vs', n', zs, a', t', j, k, hxs, rfl, hi, hlen, ha1, ha2⟩ - v h tk hv F
    cases k with
    | zero => cases hxs
    | succ k =>
      simp only [rangeItems] at hxs
      obtain ⟨rfl, rfl⟩ := List.cons.inj hxs
      obtain ⟨t1, rfl⟩ := hv
      refine AllObj.cons (fun oI hcI => AllObj.nil (fun N => ?_))
      simp only [offM, List.cons_append, List.nil_append] at F N
      have hsz : vs'.length ≤ 4 := by have := hi.length; omega
      obtain ⟨hI1, hI2, hI3⟩ := hI
      k_steps
      all_goals (
        rename Fr _ _ _ _ => FE
        rename News _ _ _ _ => NE
        simp only [List.push_toArray] at NE
        refine UnrEndW_sel FE NE (Sel.tail Sel.head) ?_ ⟨trivial, ?_, _, n' + 1, zs ++ [_], a' + 1, _, j + 1, k, rfl, rfl, hi.append (.cons _ _ .nil), ?_, ?_, ?_⟩
        · intro p hp
          rcases List.mem_cons.mp hp with rfl | hp
          · exact Nat.ne_of_lt hI1
          · rcases List.mem_cons.mp hp with rfl | hp
            · exact Nat.ne_of_lt hI2
            · exact Nat.ne_of_lt (ktn_ltOf hI3 p hp)
        · repeat' (first | exact Off.refl | refine Off.put (by first | exact List.mem_cons_self | exact List.mem_cons_of_mem _ List.mem_cons_self) ?_)
        · simp only [List.length_append, List.length_singleton]; omega
        · omega
        · omega)
  · rintro u news ⟨vs', n', zs, a', t', j, k, hxs, rfl, hi, hlen, ha1, ha2⟩ h tk F N
    simp only [offM] at F
    k_steps
    rename Fr _ _ _ _ => FE
    rename News _ _ _ _ => NE
    refine ret _ ((l', listOf vs'.toArray n') :: (st, stO na a' t' n1) :: rest) _ _ FE (fun p hp => NE p ?_) ⟨l', vs', n', zs, a', t', rfl, rfl, hi, by omega, by omega, by omega, hfa1, ktn_ltOf hfa2⟩
    simp only [List.mem_cons] at hp ⊢
    grind
end
end
section
set_option maxHeartbeats 4000000
theorem calmM3 : True := by
  w_top off
  trivial
theorem fl3 : ∀ (w : World) (h : Heap), PySem.Challenge.rw_ev0001_01 = PySem.Challenge.rw_ev0001_01 → (hd.heap_39 w.params).In h → True := by
  k_fill
  intros; trivial
theorem use_items {w : World} {st na : Addr} {ns : List Int} {vs : List Value} {at_ : Int} {ta : Tok} {n1 n2 : Nat} {news rest : Led}
    {dp un : Nat} {gd : Option (List Code)} {cn : Str} {cs : Scope} {a : Addr} {ccd : Value} {cl : List (Str × Addr)} {outer : List Env} {A₀ : Around} {base h₀ : Heap} {L : Addr} {m : Str → Option Value} {loose : List Str} {mean : ExcName → Option Value} {mg mb : Str → Option Value} {s : Shared} {Q E : Value → Shared → Prop}
    (B : Below A₀ base outer h₀) (F : Fr h₀ L s.heap m) (X : (hd.heap_39 w.params).In h₀) (N : News h₀ L s.heap news)
    (T : Top hd.view_39 loose mean mg mb h₀) (hk : cs.kind = .function) (hd' : dp + 2 < recursionLimit) (hu : un + 16 < cLine)
    (hsel : Sel (st, stO na at_ ta n1) news rest) (ok : NumOk vs ns) (hna : (na, listOf vs.toArray n2) ∈ rest) (hst : ∀ p ∈ rest, p.1 ≠ st)
    (hat : 0 ≤ at_) (hat2 : at_ ≤ 50000)
    (ret : ∀ fa vs' n' xs a' t' h' tk', IntsAre vs' xs → xs.length ≤ 4 → at_ ≤ a' → a' ≤ at_ + 5 → @LT.lt Nat _ st fa → (∀ p ∈ rest, p.1 < fa) → Fr h₀ L h' m → News h₀ L h' ((fa, listOf vs'.toArray n') :: (st, stO na a' t' n1) :: rest) → Q (.ref fa) { s with heap := h', toks := tk' }) :
    wpAny (model PySem.Challenge.rw_ev0001_01.row.prog w) (ktrTop dp un gd cn cs L a ccd cl outer) (call (.ref 77) [.ref st]) Q E s := by
  refine (items_ (n1 := n1) (n2 := n2) ok hna hst hat hat2).use B F X (hsel.news N) T hk hd' hu ?_
  rintro r nw h' tk' F' N' ⟨fa, vs', n', xs, a', t', rfl, rfl, hi, hl, h1, h2, h3, h4⟩
  exact ret _ _ _ _ _ _ _ _ hi hl h1 h2 h3 h4 F' N'
section
local macro_rules | `(tactic| k_all) => `(tactic| first | assumption | exact Above.ne (by assumption) (by omega) | (refine forall_append ?_ ?_ <;> k_all))
local macro_rules | `(tactic| k_mem) => `(tactic| first | assumption | exact List.mem_cons_self | (refine List.mem_cons_of_mem _ ?_; k_mem))
set_option hygiene false in
local macro_rules | `(tactic| walk_at "exec For Name Call cons nil") => `(tactic| ((rename Fr _ _ _ _ => lF'); (with_unfolding_all refine' For_turns lF' ?_); k_whole))
set_option hygiene false in
local macro_rules | `(tactic| walk_at "call ref") => `(tactic| (k_here; k_dflt (refine' use_next ?B ?F ?X ?N ?T ?hk ?hd ?hu ?sel ?ok ?na ?st ?h1 ?h2 ?h3 ?h4 ?_; (case B => k_asm); (case F => k_asm); (case X => k_asm); (case N => k_asm); (case T => k_asm); (case hk => exact rfl); (case hd => ktr_room); (case hu => ktr_units); (case sel => first | exact Sel.head | exact Sel.tail Sel.head | exact Sel.tail (Sel.tail Sel.head) | exact Sel.tail (Sel.tail (Sel.tail Sel.head)) | exact Sel.tail (Sel.tail (Sel.tail (Sel.tail Sel.head))) | exact Sel.tail (Sel.tail (Sel.tail (Sel.tail (Sel.tail Sel.head))))); (case ok => assumption); (case na => k_mem); (case st => k_all); (case h1 => omega); (case h2 => omega); (case h3 => omega); (case h4 => omega)); intro r' t' h' tk' t2' hr1' hr2' F' N'))
set_option hygiene false in
local macro_rules | `(tactic| walk_at "call ref") => `(tactic| (k_here; k_dflt (refine' use_items ?B ?F ?X ?N ?T ?hk ?hd ?hu ?sel ?ok ?na ?st ?h1 ?h2 ?_; (case B => k_asm); (case F => k_asm); (case X => k_asm); (case N => k_asm); (case T => k_asm); (case hk => exact rfl); (case hd => ktr_room); (case hu => ktr_units); (case sel => first | exact Sel.head | exact Sel.tail Sel.head | exact Sel.tail (Sel.tail Sel.head) | exact Sel.tail (Sel.tail (Sel.tail Sel.head)) | exact Sel.tail (Sel.tail (Sel.tail (Sel.tail Sel.head))) | exact Sel.tail (Sel.tail (Sel.tail (Sel.tail (Sel.tail Sel.head))))); (case ok => assumption); (case na => k_mem); (case st => k_all); (case h1 => omega); (case h2 => omega)); intro fa' vs2' n2' xs2' a2' t3' h' tk' hxi' hxl' hxa' hxb' hxc' hxd' F' N'; (have hxe' := allLt_of hxd'); (simp only [AllLt] at hxe')))
set_option hygiene false in
local macro_rules | `(tactic| walk_at "pyIter ref") => `(tactic| (refine Stop.out ?_))
set_option hygiene false in
local macro_rules | `(tactic| walk_at "newList") => `(tactic| (k_here; k_dflt (refine' newList_K ?k1 ?k2 ?_; (case k1 => k_asm); (case k2 => k_asm); k_whole); intro l' h' F' N' hl'; (try k_lt hl'); (try k_sweep)))
set_option hygiene false in
local macro_rules | `(tactic| walk_at "eval Dict nil nil") => `(tactic| (k_here; k_dflt (refine' newDict_K ?k1 ?k2 (TopRead.nolimit (by k_asm)) ?_; (case k1 => k_asm); (case k2 => k_asm); k_whole); intro d' h' o' F' N' ld' lo' hs' fs' hi' fi'; clear fs' hi' fi'; (try k_lt ld'); (try k_sweep)))
def Off1I (I : Addr) (l : Led) : Prop := ∀ p ∈ l, p.1 ≠ I
theorem names_ {w : World} {news : Led} : CallsTo w 70 [] 1 news (fun r nw => ∃ nl t1 t2 t3, r = .ref nl ∧ nw = (nl, listOf [Value.str (Str.ofString "root") t1, .str (Str.ofString "s") t2, .str (Str.ofString "t") t3].toArray 0) :: news ∧ ∀ p ∈ news, p.1 < nl) := by
  intro dp un gd cn cs a ccd cl outer A₀ base h₀ L m loose mean mg mb s Q E B F X N T hk hd' hu ret
  refine wpAny_call ?_
  k_dflt cell_enter
  k_steps
  exact ret _ _ _ _ (by assumption) (by assumption) ⟨_, _, _, _, rfl, rfl, by assumption⟩
theorem use_names {w : World} {news : Led}
    {dp un : Nat} {gd : Option (List Code)} {cn : Str} {cs : Scope} {a : Addr} {ccd : Value} {cl : List (Str × Addr)} {outer : List Env} {A₀ : Around} {base h₀ : Heap} {L : Addr} {m : Str → Option Value} {loose : List Str} {mean : ExcName → Option Value} {mg mb : Str → Option Value} {s : Shared} {Q E : Value → Shared → Prop}
    (B : Below A₀ base outer h₀) (F : Fr h₀ L s.heap m) (X : (hd.heap_39 w.params).In h₀) (N : News h₀ L s.heap news)
    (T : Top hd.view_39 loose mean mg mb h₀) (hk : cs.kind = .function) (hd' : dp + 1 < recursionLimit) (hu : un + 8 < cLine)
    (ret : ∀ nl t1 t2 t3 h' tk', Fr h₀ L h' m → News h₀ L h' ((nl, listOf [Value.str (Str.ofString "root") t1, .str (Str.ofString "s") t2, .str (Str.ofString "t") t3].toArray 0) :: news) → (∀ p ∈ news, p.1 < nl) → Q (.ref nl) { s with heap := h', toks := tk' }) :
    wpAny (model PySem.Challenge.rw_ev0001_01.row.prog w) (ktrTop dp un gd cn cs L a ccd cl outer) (call (.ref 70) []) Q E s := by
  refine names_.use B F X N T hk hd' hu ?_
  rintro r nw h' tk' F' N' ⟨nl, t1, t2, t3, rfl, rfl, h1⟩
  exact ret _ _ _ _ _ _ F' N' h1
set_option hygiene false in
local macro_rules | `(tactic| walk_at "call ref") => `(tactic| (k_here; k_dflt (refine' use_names ?B ?F ?X ?N ?T ?hk ?hd ?hu ?_; (case B => k_asm); (case F => k_asm); (case X => k_asm); (case N => k_asm); (case T => k_asm); (case hk => exact rfl); (case hd => ktr_room); (case hu => ktr_units)); intro nl' tn1' tn2' tn3' h' tk' F' N' hnl'; (have hnl2' := allLt_of hnl'); (simp only [AllLt] at hnl2')))
set_option hygiene false in
local macro_rules | `(tactic| walk_at "setItem ref str") => `(tactic| (k_here; k_dflt (refine' kda_set (knd := PySem.strKind _ _) ?F ?N ?U ?d (strKind_is _ _ _ _) ?z ?_; (case F => k_asm); (case N => k_asm); (case U => k_updF); (case d => k_asm); (case z => (rw [sizeLine_eq]; omega))); intro h' o2' F' N' hd2'; (try dsimp only at N')))
theorem table_ {w : World} {st na : Addr} {ns : List Int} {vs : List Value} {at_ : Int} {ta : Tok} {n1 n2 : Nat} {rest : Led}
    (ok : NumOk vs ns) (hna : (na, listOf vs.toArray n2) ∈ rest) (hst : ∀ p ∈ rest, p.1 ≠ st) (hat : 0 ≤ at_) (hat2 : at_ ≤ 40000) :
    CallsTo w 84 [.ref st] 3 ((st, stO na at_ ta n1) :: rest) (fun r nw => ∃ made tb a' t', nw = (st, stO na a' t' n1) :: (made ++ rest) ∧ DcIn PySem.Challenge.rw_ev0001_01.row.prog w LsIn made r tb ∧ Above st made ∧ (∀ p ∈ made, ∀ q ∈ rest, @LT.lt Nat _ q.1 p.1) ∧ (∀ e ∈ tb, e.2.length ≤ 4) ∧ tb.length ≤ 3 ∧ at_ ≤ a' ∧ a' ≤ at_ + 18) := by
  intro dp un gd cn cs a ccd cl outer A₀ base h₀ L m loose mean mg mb s Q E B F X N T hk hd' hu ret
  refine wpAny_call ?_
  k_dflt cell_enter
  k_steps
  refine Stop.mk ?_
  obtain ⟨ld1, ld2⟩ := ld'
  try simp only [and_true] at hnl2'
  obtain ⟨hn1, hn2, hn3⟩ := hnl2'
  have N2 : News _ _ _ ((st, stO na at_ ta n1) :: (d', o') :: (nl', listOf [Value.str (Str.ofString "root") tn1', .str (Str.ofString "s") tn2', .str (Str.ofString "t") tn3'].toArray 0) :: ([] ++ rest)) := fun p hp => N' p (by
    simp only [List.nil_append, List.mem_cons] at hp ⊢
    grind)
  (with_unfolding_all refine iter_listTurns (lo := listOf [Value.str (Str.ofString "root") tn1', .str (Str.ofString "s") tn2', .str (Str.ofString "t") tn3'].toArray 0) (vs := [Value.str (Str.ofString "root") tn1', .str (Str.ofString "s") tn2', .str (Str.ofString "t") tn3']) (n := 0) rfl F' N2 (List.mem_cons_of_mem _ (List.mem_cons_of_mem _ List.mem_cons_self)) rfl rfl ?_)
  intro I hI
  k_lt hI
  obtain ⟨hI1, hI2, hI3, hI4⟩ := hI
  refine turns_off [Str.ofString "name"] (fun xs nw => ∃ (rs : List (Str × Tok)) (mk : Led) (o : Obj) (kvs : List (Str × Value)) (tb : Tb) (a' : Int) (t' : Tok), xs = rs.map (fun p => .val (.str p.1 p.2)) ∧
      nw = (st, stO na a' t' n1) :: (d', o) :: (nl', listOf [Value.str (Str.ofString "root") tn1', .str (Str.ofString "s") tn2', .str (Str.ofString "t") tn3'].toArray 0) :: (mk ++ rest) ∧ o.IsDictOf (strKind PySem.Challenge.rw_ev0001_01.row.prog w) kvs ∧ DcOf (LsIn mk) kvs tb ∧
      (tb.map (·.1) ++ rs.map (·.1)).Nodup ∧ Above nl' mk ∧ Off1I I mk ∧ (∀ e ∈ tb, e.2.length ≤ 4) ∧ tb.length + rs.length ≤ 3 ∧ at_ ≤ a' ∧ a' + 6 * (rs.length : Int) ≤ at_ + 18) ?_ ?_ _ _ ⟨[(Str.ofString "root", tn1'), (Str.ofString "s", tn2'), (Str.ofString "t", tn3')], [], o', [], [], at_, ta, rfl, rfl, hs', .nil, (by show ([Str.ofString "root", Str.ofString "s", Str.ofString "t"] : List Str).Nodup; decide +kernel), .nil, (fun _ h => nomatch h), (fun _ h => nomatch h), by simp, by omega, by simp⟩ ⟨List.mem_cons_of_mem _ (List.mem_cons_of_mem _ List.mem_cons_self), trivial⟩
  · rintro a1 r u news ⟨rs, mk, o, kvs, tb, a', t', hxs, rfl, hdo, hdc, hnd, hab, hoI, hlen, hl3, ha1, ha2⟩ - v h tk hv F
    cases rs with
    | nil => cases hxs
    | cons nm rs =>
      obtain ⟨nm, tn⟩ := nm
      simp only [List.map_cons] at hxs hnd
      obtain ⟨rfl, rfl⟩ := List.cons.inj hxs
      have hv' : v = _ := hv
      subst hv'
      refine AllObj.cons (fun oI hcI => AllObj.nil (fun N => ?_))
      simp only [offM, List.cons_append, List.nil_append] at F N
      simp only [List.length_cons] at hl3 ha2
      have hoI' : ∀ p ∈ mk, p.1 ≠ I := hoI
      have hna' : (na, listOf vs.toArray n2) ∈ mk ++ rest := List.mem_append_right _ hna
      have hkl : kvs.length ≤ 3 := by have := hdc.length; omega
      have hnew : nm ∉ kvs.map (·.1) := by
        rw [hdc.keys]
        intro hm
        exact (List.nodup_append.mp hnd).2.2 _ hm _ List.mem_cons_self rfl
      k_steps
      · rename Fr _ _ _ _ => FE
        rw [stored_new _ hnew] at hd2'
        have N3 : News _ _ _ ((I, oI) :: (st, stO na a2' t3' n1) :: (d', o2') :: (nl', listOf [Value.str (Str.ofString "root") tn1', .str (Str.ofString "s") tn2', .str (Str.ofString "t") tn3'].toArray 0) :: (((fa', listOf vs2'.toArray n2') :: mk) ++ rest)) := fun p hp => N' p (by
          simp only [List.cons_append, List.mem_cons] at hp ⊢
          grind)
        refine UnrEndW_sel FE N3 Sel.head ?_ ⟨⟨List.mem_cons_of_mem _ (List.mem_cons_of_mem _ List.mem_cons_self), trivial⟩, Off.put List.mem_cons_self (Off.put List.mem_cons_self Off.refl), rs, (fa', listOf vs2'.toArray n2') :: mk, o2', _, tb ++ [(nm, xs2')], a2', t3', rfl, rfl, hd2', ?_, ?_, ?_, ?_, ?_, ?_, ?_, ?_⟩
        · intro p hp
          simp only [List.mem_cons] at hp
          rcases hp with rfl | rfl | rfl | hp
          · exact Nat.ne_of_lt hI1
          · exact Nat.ne_of_lt hI2
          · exact Nat.ne_of_lt hI3
          · rcases List.mem_append.mp hp with hp | hp
            · rcases List.mem_cons.mp hp with rfl | hp
              · exact Nat.ne_of_gt hxe'.1
              · exact hoI p hp
            · exact Nat.ne_of_lt (ktn_ltOf hI4 p (List.mem_append_right _ hp))
        · exact (hdc.mono fun _ _ z => ⟨z.1, z.2.mono fun _ h => List.mem_cons_of_mem _ h⟩).snoc ⟨rfl, fa', vs2', n2', rfl, List.mem_cons_self, hxi'⟩
        · simp only [List.map_append, List.map_cons, List.map_nil, List.append_assoc, List.cons_append, List.nil_append]
          exact hnd
        · exact hab.cons hxe'.2.2.1
        · intro p hp
          rcases List.mem_cons.mp hp with rfl | hp
          · exact Nat.ne_of_gt hxe'.1
          · exact hoI p hp
        · intro e he
          rcases List.mem_append.mp he with he | he
          · exact hlen e he
          · rw [List.mem_singleton.mp he]; exact hxl'
        · simp only [List.length_append, List.length_singleton]; omega
        · omega
        · omega
      · rename Fr _ _ _ _ => FE
        refine UnrEndW_sel FE N' (Sel.tail Sel.head) ?_ ⟨⟨List.mem_cons_of_mem _ (List.mem_cons_of_mem _ List.mem_cons_self), trivial⟩, Off.put List.mem_cons_self (Off.put List.mem_cons_self Off.refl), rs, mk, o, kvs, tb, a' + 1, t2', rfl, rfl, hdo, hdc, ?_, hab, hoI, hlen, ?_, ?_, ?_⟩
        · intro p hp
          simp only [List.mem_cons] at hp
          rcases hp with rfl | rfl | rfl | hp
          · exact Nat.ne_of_lt hI1
          · exact Nat.ne_of_lt hI2
          · exact Nat.ne_of_lt hI3
          · rcases List.mem_append.mp hp with hp | hp
            · exact hoI p hp
            · exact Nat.ne_of_lt (ktn_ltOf hI4 p (List.mem_append_right _ hp))
        · have q := List.nodup_append.mp hnd
          exact List.nodup_append.mpr ⟨q.1, (List.nodup_cons.mp q.2.1).2, fun a ha b hb => q.2.2 a ha b (List.mem_cons_of_mem _ hb)⟩
        · omega
        · omega
        · omega
  · rintro u news ⟨rs, mk, o, kvs, tb, a', t', hxs, rfl, hdo, hdc, hnd, hab, hoI, hlen, hl3, ha1, ha2⟩ h tk F N
    simp only [offM] at F
    k_steps
    rename Fr _ _ _ _ => FE
    rename News _ _ _ _ => NE
    refine ret _ ((st, stO na a' t' n1) :: (((d', o) :: mk) ++ rest)) _ _ FE (fun p hp => NE p ?_) ⟨(d', o) :: mk, tb, a', t', rfl, ⟨d', o, kvs, rfl, List.mem_cons_self, lo', hdo, hdc.mono fun _ _ z => ⟨z.1, z.2.mono fun _ h => List.mem_cons_of_mem _ h⟩⟩, ?_, ?_, hlen, ?_, ha1, ?_⟩
    · simp only [List.cons_append, List.mem_cons, List.mem_append] at hp ⊢
      grind
    · exact (hab.mono (Nat.le_of_lt hn2)).cons ld1
    · intro p hp q hq
      rcases List.mem_cons.mp hp with rfl | hp
      · exact ktn_ltOf ld2 q hq
      · exact Nat.lt_trans (ktn_ltOf hn3 q hq) (hab p hp)
    · omega
    · omega
end
end
section
set_option maxHeartbeats 4000000
theorem calmM4 : True := by
  w_top off
  trivial
theorem fl4 : ∀ (w : World) (h : Heap), PySem.Challenge.rw_ev0001_01 = PySem.Challenge.rw_ev0001_01 → (hd.heap_39 w.params).In h → True := by
  k_fill
  intros; trivial
section
open LCg LCt
local macro_rules | `(tactic| k_all) => `(tactic| first | assumption | exact Above.ne (by assumption) (by omega) | (refine forall_append ?_ ?_ <;> k_all))
local macro_rules | `(tactic| k_mem) => `(tactic| first | assumption | exact List.mem_cons_self | (refine List.mem_cons_of_mem _ ?_; k_mem))
local macro_rules | `(tactic| walk_at "eval ListComp") => `(tactic| (refine Stop.out ?_))
local macro_rules | `(tactic| walk_at "compareOp Is") => `(tactic| (with_unfolding_all refine is_int_ref ?_))
theorem Off1_mem {D : Addr} : ∀ {l : Led}, Off1 D l → ∀ p ∈ l, p.1 ≠ D
  | [], _, _, h => nomatch h
  | _ :: _, x, p, h => by
    rcases List.mem_cons.mp h with rfl | h
    · exact x.1
    · exact Off1_mem x.2 p h
theorem real_ {w : World} {v : Value} {xs : List Int} {news : Led} (hl : LsIn news v xs) (hlen : xs.length ≤ 1000) :
    CallsTo w 96 [v] 1 news (fun r nw => ∃ D ys n, r = .ref D ∧ nw = (D, listOf ys.toArray n) :: news ∧ All2 ItmV ys xs ∧ ∀ p ∈ news, p.1 ≠ D) := by
  intro dp un gd cn cs a ccd cl outer A₀ base h₀ L m loose mean mg mb s Q E B F X N T hk hd' hu ret
  obtain ⟨ax, vs, n, rfl, hm, hi⟩ := hl
  refine wpAny_call ?_
  k_dflt cell_enter
  k_steps
  refine Stop.mk ?_
  rename Fr _ _ _ _ => F1
  (k_dflt (refine ListComp_U (F₀ := F1) (by rfl) (by decide) (by rfl) (by decide) (by rfl) ?_))
  k_steps
  have hsz : vs.toArray.size ≤ sizeLine := by
    rw [sizeLine_eq, List.size_toArray, hi.length]; omega
  (k_dflt (refine CompSrc.ledger (k := n) rfl F1 (by assumption) hm hsz ?_))
  intro g
  refine compRest_inv (fun i ys nw => nw = news ∧ All2 ItmV ys (xs.take i)) vs.toArray.size ?_ ?_ _ 0 [] news (Nat.zero_add _) ⟨rfl, .nil⟩
  · rintro i ys nw hlt ⟨rfl, hys⟩ v I oI C oC D m₂ h tk E' hP hC hx F N off ne
    obtain ⟨j, t, rfl, hj⟩ := hi.at i v (by simpa using hP)
    have htk : xs.take (i + 1) = xs.take i ++ [j] := by rw [List.take_add_one, hj]; rfl
    k_steps
    · rename j = -1 => hc
      refine CompEnd.intro (by assumption) (by assumption) nw (fun p hp => hp) off (Or.inr ⟨_, hm, rfl, _, rfl⟩) ⟨rfl, ?_⟩
      rw [htk]
      exact hys.snoc (by unfold ItmV; rw [if_pos hc])
    · rename j ≠ -1 => hc
      refine CompEnd.intro (by assumption) (by assumption) nw (fun p hp => hp) off (Or.inr ⟨_, hm, rfl, _, rfl⟩) ⟨rfl, ?_⟩
      rw [htk]
      exact hys.snoc (by unfold ItmV; rw [if_neg hc]; exact ⟨_, rfl⟩)
  · rintro ys nw ⟨rfl, hys⟩
    unfold FinE
    intro D h tk F N off
    have hys' : All2 ItmV ys xs := by
      rw [List.size_toArray, hi.length, List.take_length] at hys
      exact hys
    k_steps
    refine ret _ _ _ _ (by assumption) (by assumption) ⟨D, ys, _, rfl, rfl, hys', ?_⟩
    exact Off1_mem off
theorem plain_ {w : World} {v : Value} {xs : List Int} {news : Led} (hl : RlIn news v xs) (hlen : xs.length ≤ 1000) :
    CallsTo w 106 [v] 1 news (fun r nw => ∃ D ys n, r = .ref D ∧ nw = (D, listOf ys.toArray n) :: news ∧ IntsAre ys xs ∧ ∀ p ∈ news, p.1 ≠ D) := by
  intro dp un gd cn cs a ccd cl outer A₀ base h₀ L m loose mean mg mb s Q E B F X N T hk hd' hu ret
  obtain ⟨ax, vs, n, rfl, hm, hi⟩ := hl
  refine wpAny_call ?_
  k_dflt cell_enter
  k_steps
  refine Stop.mk ?_
  rename Fr _ _ _ _ => F1
  (k_dflt (refine ListComp_U (F₀ := F1) (by rfl) (by decide) (by rfl) (by decide) (by rfl) ?_))
  k_steps
  have hsz : vs.toArray.size ≤ sizeLine := by
    rw [sizeLine_eq, List.size_toArray, hi.length]; omega
  (k_dflt (refine CompSrc.ledger (k := n) rfl F1 (by assumption) hm hsz ?_))
  intro g
  refine compRest_inv (fun i ys nw => nw = news ∧ IntsAre ys (xs.take i)) vs.toArray.size ?_ ?_ _ 0 [] news (Nat.zero_add _) ⟨rfl, .nil⟩
  · rintro i ys nw hlt ⟨rfl, hys⟩ v I oI C oC D m₂ h tk E' hP hC hx F N off ne
    obtain ⟨j, hj, hv⟩ := hi.get i v (by simpa using hP)
    have htk : xs.take (i + 1) = xs.take i ++ [j] := by rw [List.take_add_one, hj]; rfl
    unfold ItmV at hv
    split at hv
    · rename j = -1 => hc
      subst hv
      k_steps
      refine CompEnd.intro (by assumption) (by assumption) nw (fun p hp => hp) off (Or.inr ⟨_, hm, rfl, _, rfl⟩) ⟨rfl, ?_⟩
      rw [htk, hc]
      exact hys.append (.cons _ _ .nil)
    · rename ¬ j = -1 => hc
      obtain ⟨t, rfl⟩ := hv
      k_steps
      refine CompEnd.intro (by assumption) (by assumption) nw (fun p hp => hp) off (Or.inr ⟨_, hm, rfl, _, rfl⟩) ⟨rfl, ?_⟩
      rw [htk]
      exact hys.append (.cons _ _ .nil)
  · rintro ys nw ⟨rfl, hys⟩
    unfold FinE
    intro D h tk F N off
    have hys' : IntsAre ys xs := by
      rw [List.size_toArray, hi.length, List.take_length] at hys
      exact hys
    k_steps
    refine ret _ _ _ _ (by assumption) (by assumption) ⟨D, ys, _, rfl, rfl, hys', ?_⟩
    exact Off1_mem off
end
end
section
set_option maxHeartbeats 4000000
theorem calmM5 : True := by
  w_top off
  trivial
theorem fl5 : ∀ (w : World) (h : Heap), PySem.Challenge.rw_ev0001_01 = PySem.Challenge.rw_ev0001_01 → (hd.heap_39 w.params).In h → True := by
  k_fill
  intros; trivial
/-- the place of the first -1 -/
def place : List Int → Option Nat
  | [] => none
  | x :: r => if x = -1 then some 0 else (place r).map (· + 1)
def PlaceV (v : Value) : Option Nat → Prop
  | none => v = .none
  | some i => ∃ t, v = .int (i : Int) t
section
local macro_rules | `(tactic| k_all) => `(tactic| first | assumption | exact Above.ne (by assumption) (by omega) | (refine forall_append ?_ ?_ <;> k_all))
local macro_rules | `(tactic| k_mem) => `(tactic| first | assumption | exact List.mem_cons_self | (refine List.mem_cons_of_mem _ ?_; k_mem))
set_option hygiene false in
local macro_rules | `(tactic| walk_at "exec For Tuple Call cons nil") => `(tactic| ((rename Fr _ _ _ _ => lF'); (with_unfolding_all refine' For_turns lF' ?_); k_whole))
local macro_rules | `(tactic| walk_at "no such key") => `(tactic| skip)
local macro_rules | `(tactic| walk_at "call type:enumerate") => `(tactic| (refine Stop.out ?_))
theorem newsSub {h₀ h : Heap} {L : Addr} {l l' : Led} (hs : ∀ p ∈ l, p ∈ l') (N : News h₀ L h l') : News h₀ L h l := fun p hp => N p (hs p hp)
theorem place_ {w : World} {v : Value} {xs : List Int} {news : Led} (hl : RlIn news v xs) :
    CallsTo w 44 [v] 1 news (fun r nw => nw = news ∧ PlaceV r (place xs)) := by
  intro dp un gd cn cs a ccd cl outer A₀ base h₀ L m loose mean mg mb s Q E B F X N T hk hd' hu ret
  obtain ⟨ax, vs, n, rfl, hm, hi⟩ := hl
  refine wpAny_call ?_
  k_dflt cell_enter
  k_steps
  refine Stop.mk ?_
  rename Fr _ _ _ _ => F1
  rename News _ _ _ _ => N1
  (with_unfolding_all refine ktu_enum (lo := listOf vs.toArray n) (vs := vs) (n := n) rfl F1 N1 hm rfl rfl rfl ?_)
  intro I hI
  refine turns_off [Str.ofString "k", Str.ofString "item"] (fun xs' nw => ∃ i us zs, xs' = enumItems i us ∧ All2 ItmV us zs ∧ place xs = (place zs).map (· + i) ∧ nw = news) ?_ ?_ _ _ ⟨0, vs, xs, rfl, hi, by cases place xs <;> rfl, rfl⟩ ⟨hm, trivial⟩
  · rintro a1 r u nw ⟨i, us, zs, hxs, hz, hp, rfl⟩ - v h tk hv F
    cases hz with
    | nil => cases hxs
    | @cons x z us zs hx hz =>
      obtain ⟨rfl, rfl⟩ := List.cons.inj hxs
      obtain ⟨T1, t1, rfl, hT⟩ := hv
      refine AllObj.cons (fun o1 hc1 => AllObj.cons (fun o2 hc2 => AllObj.nil (fun N => ?_)))
      simp only [offM, List.cons_append, List.nil_append] at F N
      unfold ItmV at hx
      split at hx
      · rename z = -1 => hz1
        subst hx
        k_steps
        refine ret _ nw _ _ (by assumption) (newsSub ?_ (by assumption)) ⟨rfl, ?_⟩
        · intro p hp
          simp only [List.mem_cons]
          grind
        · rw [hp]
          simp only [place, if_pos hz1, Option.map_some, Nat.zero_add]
          exact ⟨_, rfl⟩
      · rename ¬ z = -1 => hz1
        obtain ⟨t, rfl⟩ := hx
        k_steps
        rename Fr _ _ _ _ => FE
        rename News _ _ _ _ => NE
        refine UnrEndW_sel2 FE NE Sel.head Sel.head (fun p hp => Nat.ne_of_lt (Nat.lt_succ_of_lt (hI p hp))) (fun p hp => Nat.ne_of_lt (hI p hp)) ⟨⟨hm, trivial⟩, ?_, i + 1, us, zs, rfl, hz, ?_, rfl⟩
        · repeat' (first | exact Off.refl | refine Off.put (by first | exact List.mem_cons_self | exact List.mem_cons_of_mem _ List.mem_cons_self) ?_)
        · rw [hp]
          simp only [place, if_neg hz1, Option.map_map]
          congr 1
          funext q
          show q + 1 + i = q + (i + 1)
          omega
  · rintro u nw ⟨i, us, zs, hxs, hz, hp, rfl⟩ h tk F N
    simp only [offM] at F
    k_steps
    refine ret _ _ _ _ (by assumption) (by assumption) ⟨rfl, ?_⟩
    cases hz with
    | nil => rw [hp]; rfl
    | cons => cases hxs
end
end
section
set_option maxHeartbeats 4000000
theorem calmM6 : True := by
  w_top off
  trivial
theorem fl6 : ∀ (w : World) (h : Heap), PySem.Challenge.rw_ev0001_01 = PySem.Challenge.rw_ev0001_01 → (hd.heap_39 w.params).In h → True := by
  k_fill
  intros; trivial
abbrev PIn (l : Led) (v : Value) (kv : Str × Value) : Prop := ∃ T t n', v = .ref T ∧ (T, ({ cls := .type "tuple", data := .seq #[.str kv.1 t, kv.2] n' } : Obj)) ∈ l
theorem All2.at {α β : Type} {R : α → β → Prop} : ∀ {l : List α} {l' : List β}, All2 R l l' → ∀ (i : Nat) (a : α), l[i]? = some a → ∃ b, l'[i]? = some b ∧ l'.take (i + 1) = l'.take i ++ [b] ∧ R a b
  | l, l', h, i, a, e => by
    obtain ⟨b, hb, r⟩ := h.get i a e
    refine ⟨b, hb, ?_, r⟩
    rw [List.take_add_one, hb]; rfl
theorem valueAt_nodup {k : Str} {v : Value} : ∀ {kvs : List (Str × Value)} {i : Nat}, (kvs.map (·.1)).Nodup → kvs[i]? = some (k, v) → valueAt kvs k = some v
  | (k', v') :: kvs, 0, _, e => by
    obtain ⟨rfl, rfl⟩ : k' = k ∧ v' = v := by simpa using e
    simp [PySem.valueAt]
  | (k', v') :: kvs, i + 1, hn, e => by
    have hn' : k' ∉ kvs.map (·.1) ∧ (kvs.map (·.1)).Nodup := List.nodup_cons.mp hn
    have e' : kvs[i]? = some (k, v) := e
    have hk : k' ≠ k := fun h => hn'.1 (h ▸ List.mem_map.mpr ⟨(k, v), List.mem_of_getElem? e', rfl⟩)
    have e1 : PySem.valueAt ((k', v') :: kvs) k = PySem.valueAt kvs k := by simp [PySem.valueAt, List.find?_cons, hk]
    rw [e1]
    exact valueAt_nodup hn'.2 e'
section
open LCg LCt
local macro_rules | `(tactic| k_all) => `(tactic| first | assumption | exact Above.ne (by assumption) (by omega) | (refine forall_append ?_ ?_ <;> k_all))
local macro_rules | `(tactic| k_mem) => `(tactic| first | assumption | exact List.mem_cons_self | (refine List.mem_cons_of_mem _ ?_; k_mem) | (refine List.mem_append_right _ ?_; k_mem))
local macro_rules | `(tactic| walk_at "eval ListComp") => `(tactic| (refine Stop.out ?_))
local macro_rules | `(tactic| walk_at "call ref") => `(tactic| (refine Stop.out ?_))
local macro_rules | `(tactic| walk_at "call type:dict") => `(tactic| (refine Stop.out ?_))
local macro_rules | `(tactic| walk_at "eval Subscript") => `(tactic| (refine Subscript_ ?_))
local macro_rules | `(tactic| walk_at "subscriptTail Name Name ref str") => `(tactic| (refine Stop.out ?_))
set_option hygiene false in
local macro_rules | `(tactic| walk_at "newTuple") => `(tactic| (k_here; k_dflt (refine' kup_newTuple ?F ?N ?_ ?z; (case F => k_asm); (case N => k_asm); (case z => kmk_size)); intro T8 h8 F8 N8 l8))
theorem off3_of {I C D : Addr} : ∀ {l : Led}, (∀ p ∈ l, p.1 ≠ I ∧ p.1 ≠ C ∧ p.1 ≠ D) → Off3 I C D l
  | [], _ => trivial
  | p :: r, h => ⟨h p List.mem_cons_self, off3_of fun q hq => h q (List.mem_cons_of_mem _ hq)⟩
theorem tables_ {w : World} {v : Value} {tbs : List Tb} {news : Led} (hl : TsIn PySem.Challenge.rw_ev0001_01.row.prog w LsIn news v tbs) (hlen : tbs.length ≤ 4) (ht : ∀ tb ∈ tbs, tb.length ≤ 3 ∧ ∀ e ∈ tb, e.2.length ≤ 4) :
    CallsTo w 101 [v] 2 news (fun r nw => ∃ made, nw = made ++ news ∧ TsIn PySem.Challenge.rw_ev0001_01.row.prog w RlIn made r tbs ∧ Apart made news) := by
  intro dp un gd cn cs a ccd cl outer A₀ base h₀ L m loose mean mg mb s Q E B F X N T hk hd' hu ret
  obtain ⟨ax, vs, n, rfl, hm, hi⟩ := hl
  refine wpAny_call ?_
  k_dflt cell_enter
  k_steps
  refine Stop.mk ?_
  rename Fr _ _ _ _ => F1
  rename News _ _ _ _ => N1
  (k_dflt (refine ListComp_cell (F₀ := F1) (by rfl) (by rfl) (by decide) (fun _ => by rfl) (fun _ => by rfl) (fun _ _ => by rfl) ?_))
  k_steps
  refine Stop.mk ⟨ax, vs.toArray, n, news, rfl, rfl, (by assumption), (by assumption), hm, (by rw [sizeLine_eq, List.size_toArray, hi.length]; omega), fun i ys nw => ∃ made, nw = made ++ news ∧ All2 (DcIn PySem.Challenge.rw_ev0001_01.row.prog w RlIn made) ys (tbs.take i) ∧ Apart made news, ⟨[], rfl, .nil, fun _ h => nomatch h⟩, ?_, ?_⟩
  · rintro i ys nw hlt ⟨made, rfl, hys, hap⟩ hm' v I oI C oC c oc D h tk E' hv hc F N off4 e1 e2 e3 e4 e5 e6
    obtain ⟨tb, htb, htake, d0, o0, kvs, rfl, hd0, lo0, hdo, hdc⟩ := hi.at i v (by simpa using hv)
    k_steps
    refine Stop.mk ?_
    have hkl : kvs.length = tb.length := hdc.length
    obtain ⟨ht1, ht2⟩ := ht tb (List.mem_of_getElem? htb)
    (k_dflt (refine ListComp_dict (knd := strKind PySem.Challenge.rw_ev0001_01.row.prog w) (F₀ := F) (by rfl) (by decide) (by rfl) (by decide) (by rfl) ?_))
    k_steps
    have hsub : ∀ p ∈ news, p ∈ [(I, oI), (C, oC), (c, oc), (D, lst ys)] ++ (made ++ news) := fun p hp => List.mem_append_right _ (List.mem_append_right _ hp)
    have hcb : (c, oc) ∈ [(I, oI), (C, oC), (c, oc), (D, lst ys)] ++ (made ++ news) := List.mem_cons_of_mem _ (List.mem_cons_of_mem _ List.mem_cons_self)
    have hd0b : (d0, o0) ∈ [(I, oI), (C, oC), (c, oc), (D, lst ys)] ++ (made ++ news) := List.mem_append_right _ (List.mem_append_right _ hd0)
    generalize hbase : [(I, oI), (C, oC), (c, oc), (D, lst ys)] ++ (made ++ news) = base at *
    refine Stop.mk ⟨d0, o0, kvs, base, rfl, rfl, (by assumption), (by assumption), ?_, lo0, hdo, (by rw [sizeLine_eq]; omega), ?_⟩
    · exact hd0b
    rintro _ ⟨h2, rfl⟩
    refine compRest_inv (fun i ys nw => ∃ made1 pairs, nw = made1 ++ base ∧ All2 (PIn made1) ys pairs ∧ DcOf (RlIn made1) pairs (tb.take i) ∧ Apart made1 base) kvs.length ?_ ?_ _ 0 [] base (Nat.zero_add _) ⟨[], [], rfl, .nil, .nil, fun _ h => nomatch h⟩
    · rintro i2 ys2 nw hlt2 ⟨made1, pairs, rfl, hys2, hdc2, hap2⟩ v2 I2 oI2 C2 oC2 D2 m2 h3 tk3 E3 hP2 hC2 hx2 F3 N3 off3 ne3
      obtain ⟨ky, yv, hky, hkis⟩ := hP2
      obtain ⟨kt, rfl⟩ := Value.isStrOf_shape hkis
      obtain ⟨⟨ky', xs⟩, hxs, htk2, hkeq, hval⟩ := hdc.at i2 _ hky
      dsimp only at hkeq hval
      subst hkeq
      have hg := valueAt_nodup (isDict_nodup hdo) hky
      k_steps
      refine Stop.mk ?_
      rename News _ _ _ _ => N4
      (k_dflt (refine kda_item (knd := strKind PySem.Challenge.rw_ev0001_01.row.prog w) N4 (List.mem_cons_of_mem _ (List.mem_cons_of_mem _ (List.mem_cons_of_mem _ (List.mem_append_right _ hd0b)))) hdo hkis hg ?_))
      k_steps
      refine Stop.mk ?_
      have hval5 := hval
      have hl5 : LsIn ((I2, oI2) :: (C2, oC2) :: (D2, lst ys2) :: (made1 ++ base)) yv xs := hval.mono fun p hp => List.mem_cons_of_mem _ (List.mem_cons_of_mem _ (List.mem_cons_of_mem _ (List.mem_append_right _ (hsub p hp))))
      k_dflt (refine' (real_ (w := w) hl5 ?hlen).use ?B ?F ?X ?N ?T ?hk ?hd ?hu ?_; (case B => k_asm); (case F => k_asm); (case X => k_asm); (case N => k_asm); (case T => k_asm); (case hk => exact rfl); (case hd => ktr_room); (case hu => ktr_units))
      case hlen => have := ht2 _ (List.mem_of_getElem? hxs); dsimp only at this; omega
      rintro r nw6 h6 tk6 F6 N6 ⟨D6, ys6, n6, rfl, rfl, hall6, hne6⟩
      k_steps
      refine CompEnd.intro F8 N8 ((T8, { cls := .type "tuple", data := .seq #[.str ky kt, .ref D6] }) :: (D6, listOf ys6.toArray n6) :: (made1 ++ base)) (fun p hp => ?_) (off3_of fun p hp => ?_) ?_ ⟨(T8, { cls := .type "tuple", data := .seq #[.str ky kt, .ref D6] }) :: (D6, listOf ys6.toArray n6) :: made1, pairs ++ [(ky, .ref D6)], rfl, (hys2.mono fun _ _ ⟨T, t, n', e, hm⟩ => ⟨T, t, n', e, List.mem_cons_of_mem _ (List.mem_cons_of_mem _ hm)⟩).snoc ⟨T8, kt, 0, rfl, List.mem_cons_self⟩, ?_, ?_⟩
      · simp only [List.mem_cons, List.mem_append] at hp ⊢; grind
      · simp only [List.mem_cons] at hp
        rcases hp with rfl | rfl | hp
        · exact ⟨(Nat.ne_of_lt (l8 (I2, oI2) (by simp))).symm, (Nat.ne_of_lt (l8 (C2, oC2) (by simp))).symm, (Nat.ne_of_lt (l8 (D2, lst ys2) (by simp))).symm⟩
        · exact ⟨(hne6 (I2, oI2) (by simp)).symm, (hne6 (C2, oC2) (by simp)).symm, (hne6 (D2, lst ys2) (by simp)).symm⟩
        · exact Off3.mem off3 p hp
      · exact List.mem_cons_of_mem _ (List.mem_cons_of_mem _ (List.mem_append_right _ hd0b))
      · rw [htk2]
        exact (hdc2.mono fun _ _ z => ⟨z.1, z.2.mono fun _ h => List.mem_cons_of_mem _ (List.mem_cons_of_mem _ h)⟩).snoc ⟨rfl, D6, ys6, n6, rfl, List.mem_cons_of_mem _ List.mem_cons_self, hall6⟩
      · intro p hp q hq
        rcases List.mem_cons.mp hp with rfl | hp
        · exact (Nat.ne_of_lt (l8 q (by simp only [List.mem_cons, List.mem_append]; grind))).symm
        · rcases List.mem_cons.mp hp with rfl | hp
          · exact (hne6 q (by simp only [List.mem_cons, List.mem_append]; grind)).symm
          · exact hap2 p hp q hq
    · rintro ys2 nw ⟨made1, pairs, rfl, hys2, hdc2, hap2⟩
      unfold FinE
      intro D7 h7 tk7 F7 N7 off7
      k_steps
      refine Stop.mk ?_
      have hdc3 : DcOf (RlIn made1) pairs tb := by rw [hkl, List.take_length] at hdc2; exact hdc2
      have hkp : pairs.map (·.1) = kvs.map (·.1) := by rw [hdc3.keys, hdc.keys]
      (k_dflt (refine call_dict_pairs (prog := PySem.Challenge.rw_ev0001_01.row.prog) (w := w) (its := ys2.toArray) (ax := D7) (pairs := pairs) rfl F7 N7 (modules_low (TopRead.nolimit (by k_asm))) List.mem_cons_self ?_ ?_ ?_ ?_ ?_))
      · rw [List.size_toArray, hys2.length]
      · rw [List.size_toArray, hys2.length, hdc3.length, sizeLine_eq]; omega
      · rw [hkp]; exact isDict_nodup hdo
      · intro j v kv hj hkv
        obtain ⟨kv', hkv', T, t, n', rfl, hT⟩ := hys2.get j v (by simpa using hj)
        rw [hkv] at hkv'
        cases hkv'
        exact ⟨T, t, n', rfl, List.mem_cons_of_mem _ (List.mem_append_left _ hT)⟩
      · intro d9 o9 h9 tk9 F9 N9 l9 lo9 hd9
        subst hbase
        refine ⟨h9, tk9, (d9, o9) :: (D7, lst ys2) :: (made1 ++ (made ++ news)), rfl, F9, fun p hp => N9 p ?_, ?_, ?_, (d9, o9) :: (D7, lst ys2) :: (made1 ++ made), ?_, ?_, ?_⟩
        · simp only [List.cons_append, List.nil_append, List.mem_cons, List.mem_append] at hp ⊢; grind
        · have hb : ∀ p ∈ [(I, oI), (C, oC), (c, oc), (D, lst ys)], p ∈ made1 ++ ([(I, oI), (C, oC), (c, oc), (D, lst ys)] ++ (made ++ news)) := fun p hp => List.mem_append_right _ (List.mem_append_left _ hp)
          have o7 := Off1_mem off7
          intro p hp
          simp only [List.mem_cons, List.mem_append] at hp
          rcases hp with rfl | rfl | hp | hp
          · have q := fun x (hx : x ∈ [(I, oI), (C, oC), (c, oc), (D, lst ys)]) => (Nat.ne_of_lt (l9 x (List.mem_cons_of_mem _ (hb x hx)))).symm
            exact ⟨q (I, oI) (by simp), q (C, oC) (by simp), q (c, oc) (by simp), q (D, lst ys) (by simp)⟩
          · have q := fun x (hx : x ∈ [(I, oI), (C, oC), (c, oc), (D, lst ys)]) => (o7 x (hb x hx)).symm
            exact ⟨q (I, oI) (by simp), q (C, oC) (by simp), q (c, oc) (by simp), q (D, lst ys) (by simp)⟩
          · have q := fun x (hx : x ∈ [(I, oI), (C, oC), (c, oc), (D, lst ys)]) => hap2 p hp x (List.mem_append_left _ hx)
            exact ⟨q (I, oI) (by simp), q (C, oC) (by simp), q (c, oc) (by simp), q (D, lst ys) (by simp)⟩
          · exact off4 p (List.mem_append.mpr hp)
        · simp only [List.mem_cons, List.mem_append]; grind
        · simp only [List.cons_append, List.append_assoc]
        · rw [htake]
          exact (hys.mono fun _ _ z => DcIn.mono (P := RlIn) RlIn.mono (fun p hp => by simp only [List.mem_cons, List.mem_append]; grind) z).snoc ⟨d9, o9, pairs, rfl, List.mem_cons_self, lo9, hd9, hdc3.mono fun _ _ z => ⟨z.1, z.2.mono fun p hp => by simp only [List.mem_cons, List.mem_append]; grind⟩⟩
        · intro p hp q hq
          simp only [List.mem_cons, List.mem_append] at hp
          rcases hp with rfl | rfl | hp | hp
          · exact (Nat.ne_of_lt (l9 q (List.mem_cons_of_mem _ (List.mem_append_right _ (hsub q hq))))).symm
          · exact (Off1_mem off7 q (List.mem_append_right _ (hsub q hq))).symm
          · exact hap2 p hp q (hsub q hq)
          · exact hap p hp q hq
  · rintro ys nw D h tk ⟨made, rfl, hys, hap⟩ F N hD
    k_steps
    have hys' : All2 (DcIn PySem.Challenge.rw_ev0001_01.row.prog w RlIn made) ys tbs := by
      rw [List.size_toArray, hi.length, List.take_length] at hys
      exact hys
    refine ret _ (((D, lst ys) :: made) ++ news) _ _ (by assumption) (by assumption) ⟨(D, lst ys) :: made, rfl, ⟨D, ys, _, rfl, List.mem_cons_self, hys'.mono fun _ _ z => DcIn.mono (P := RlIn) RlIn.mono (fun _ h => List.mem_cons_of_mem _ h) z⟩, ?_⟩
    intro p hp q hq
    rcases List.mem_cons.mp hp with rfl | hp
    · exact (hD q (List.mem_append_right _ hq)).symm
    · exact hap p hp q hq
end
end
section
set_option maxHeartbeats 4000000
theorem calmM7 : True := by
  w_top off
  trivial
theorem fl7 : ∀ (w : World) (h : Heap), PySem.Challenge.rw_ev0001_01 = PySem.Challenge.rw_ev0001_01 → (hd.heap_39 w.params).In h → True := by
  k_fill
  intros; trivial
abbrev Hm := List (Str × Nat)
def setTb : Tb → Str → List Int → Tb
  | [], _, _ => []
  | (k', x) :: r, k, y => if k' = k then (k', y) :: r else (k', x) :: setTb r k y
def dropH (H : Hm) (k : Str) : Hm := H.filter fun p => decide (p.1 ≠ k)
def mstep (st : Tb × Hm) (e : Str × List Int) : Tb × Hm :=
  match st.1.lookup e.1 with
  | none => (st.1 ++ [e], match place e.2 with | none => st.2 | some i => st.2 ++ [(e.1, i)])
  | some cur => match st.2.lookup e.1 with
    | none => st
    | some i => (setTb st.1 e.1 (cur.take i ++ e.2 ++ cur.drop (i + 1)), match place e.2 with | none => dropH st.2 e.1 | some j => dropH st.2 e.1 ++ [(e.1, i + j)])
def mrun (es : Tb) : Tb × Hm := es.foldl mstep ([], [])
theorem mrun_snoc (es : Tb) (e : Str × List Int) : mrun (es ++ [e]) = mstep (mrun es) e := by simp [mrun]
structure MOk (st : Tb × Hm) : Prop where
  few : st.1.length ≤ 100
  fewH : st.2.length ≤ 100
  len : ∀ e ∈ st.1, e.2.length ≤ 1000
  bnd : ∀ k i, st.2.lookup k = some i → i ≤ 1000
  sub : ∀ k, st.1.lookup k = none → st.2.lookup k = none
  ins : ∀ k i cur, st.2.lookup k = some i → st.1.lookup k = some cur → i < cur.length
/-- a list of the table that is made -/
structure Cr where
  nm : Str
  ad : Addr
  vs : List Value
  n : Nat
def kvT (cs : List Cr) : List (Str × Value) := cs.map fun c => (c.nm, .ref c.ad)
def leds (cs : List Cr) : Led := cs.map fun c => (c.ad, listOf c.vs.toArray c.n)
abbrev CrR (c : Cr) (e : Str × List Int) : Prop := c.nm = e.1 ∧ All2 ItmV c.vs e.2
structure MInv (prog : Program) (w : World) (ih : Addr) (oT oH : Obj) (cs : List Cr) (kvsH : List (Str × Value)) (st : Tb × Hm) : Prop where
  dT : oT.IsDictOf (strKind prog w) (kvT cs)
  dH : oH.IsDictOf (strKind prog w) kvsH
  hH : All2 (fun kv h => kv.1 = h.1 ∧ ∃ t, kv.2 = .int ((h.2 : Nat) : Int) t) kvsH st.2
  cr : All2 CrR cs st.1
  above : Above ih (leds cs)
  nd : (cs.map (·.ad)).Nodup
theorem Off.trans {stored stored2 : List Str} {m₀ m₁ m₂ : Str → Option Value} (hs : ∀ x ∈ stored2, x ∈ stored) (h1 : Off stored m₀ m₁) (h2 : Off stored2 m₁ m₂) : Off stored m₀ m₂ := fun z hz => (h2 z fun h => hz (hs z h)).trans (h1 z hz)
theorem cr_find : ∀ {cs : List Cr} {T : Tb}, All2 CrR cs T → ∀ k, (valueAt (kvT cs) k = none ∧ T.lookup k = none ∧ k ∉ T.map (·.1)) ∨
    ∃ pre c post Tp cur Tq, cs = pre ++ c :: post ∧ T = Tp ++ (k, cur) :: Tq ∧ All2 CrR pre Tp ∧ All2 CrR post Tq ∧ c.nm = k ∧ All2 ItmV c.vs cur ∧ valueAt (kvT cs) k = some (.ref c.ad) ∧ T.lookup k = some cur ∧ k ∉ Tp.map (·.1)
  | _, _, .nil, k => .inl ⟨rfl, rfl, fun h => nomatch h⟩
  | c :: cs, (k', x) :: T, .cons h r, k => by
    obtain ⟨hn, hv⟩ := h
    dsimp only at hn hv
    by_cases hk : k' = k
    · subst hk
      refine .inr ⟨[], c, cs, [], x, T, rfl, rfl, .nil, r, hn, hv, ?_, by simp [List.lookup_cons], fun h => nomatch h⟩
      simp [kvT, PySem.valueAt, hn]
    · have hk' : (k == k') = false := by simpa using fun e => hk e.symm
      have e1 : PySem.valueAt (kvT (c :: cs)) k = PySem.valueAt (kvT cs) k := by simp [kvT, PySem.valueAt, List.find?_cons, hn, hk]
      have e2 : List.lookup k ((k', x) :: T) = List.lookup k T := by simp [List.lookup_cons, hk']
      rw [e1, e2]
      rcases cr_find r k with ⟨h1, h2, h3⟩ | ⟨pre, c', post, Tp, cur, Tq, rfl, rfl, a1, a2, a3, a4, a5, a6, a7⟩
      · refine .inl ⟨h1, h2, fun hm => ?_⟩
        rcases List.mem_cons.mp hm with e | hm
        · exact hk e.symm
        · exact h3 hm
      · refine .inr ⟨c :: pre, c', post, (k', x) :: Tp, cur, Tq, rfl, rfl, .cons ⟨hn, hv⟩ a1, a2, a3, a4, a5, a6, fun hm => ?_⟩
        rcases List.mem_cons.mp hm with e | hm
        · exact hk e.symm
        · exact a7 hm
theorem setTb_at {k : Str} {cur new : List Int} {Tq : Tb} : ∀ {Tp : Tb}, k ∉ Tp.map (·.1) → setTb (Tp ++ (k, cur) :: Tq) k new = Tp ++ (k, new) :: Tq
  | [], _ => by simp [setTb]
  | (k', x) :: Tp, h => by
    have h1 : ¬ k' = k := fun e => h (by simp [e])
    have h2 : k ∉ Tp.map (·.1) := fun e => h (List.mem_cons_of_mem _ e)
    simp only [List.cons_append, setTb, if_neg h1, setTb_at h2]
theorem hh_find : ∀ {kvs : List (Str × Value)} {H : Hm}, All2 (fun kv h => kv.1 = h.1 ∧ ∃ t, kv.2 = .int ((h.2 : Nat) : Int) t) kvs H → ∀ k, (valueAt kvs k = none ∧ H.lookup k = none) ∨ ∃ i t, valueAt kvs k = some (.int ((i : Nat) : Int) t) ∧ H.lookup k = some i
  | _, _, .nil, k => .inl ⟨rfl, rfl⟩
  | (k1, v) :: kvs, (k', i) :: H, .cons h r, k => by
    obtain ⟨hn, t, hv⟩ := h
    dsimp only at hn hv
    subst hn hv
    by_cases hk : k1 = k
    · subst hk
      exact .inr ⟨i, t, by simp [PySem.valueAt], by simp [List.lookup_cons]⟩
    · have hk' : (k == k1) = false := by simpa using fun e => hk e.symm
      have e1 : PySem.valueAt ((k1, .int ((i : Nat) : Int) t) :: kvs) k = PySem.valueAt kvs k := by simp [PySem.valueAt, List.find?_cons, hk]
      have e2 : List.lookup k ((k1, i) :: H) = List.lookup k H := by simp [List.lookup_cons, hk']
      rw [e1, e2]
      exact hh_find r k
theorem hh_drop {kvs : List (Str × Value)} {H : Hm} {R : Str × Value → Str × Nat → Prop} (hR : ∀ a b, R a b → a.1 = b.1) (h : All2 R kvs H) (k : Str) : All2 R (without kvs k) (dropH H k) := by
  induction h with
  | nil => exact .nil
  | @cons a b l l' h r ih =>
    unfold without dropH at ih ⊢
    have e := hR _ _ h
    by_cases hk : b.1 = k
    · rw [List.filter_cons_of_neg (by simp [e, hk]), List.filter_cons_of_neg (by simp [hk])]
      exact ih
    · rw [List.filter_cons_of_pos (by simp [e, hk]), List.filter_cons_of_pos (by simp [hk])]
      exact .cons h ih
theorem without_nmem (kvs : List (Str × Value)) (k : Str) : k ∉ (without kvs k).map (·.1) := by
  intro h
  obtain ⟨p, hp, e⟩ := List.mem_map.mp h
  have := (List.mem_filter.mp hp).2
  simp [e] at this
theorem cr_dc {made : Led} : ∀ {crs : List Cr} {T : Tb}, All2 CrR crs T → (∀ p ∈ leds crs, p ∈ made) → DcOf (RlIn made) (kvT crs) T
  | _, _, .nil, _ => .nil
  | c :: _, _, .cons h r, hm => .cons ⟨h.1, c.ad, c.vs, c.n, rfl, hm _ List.mem_cons_self, h.2⟩ (cr_dc r fun p hp => hm p (List.mem_cons_of_mem _ hp))
theorem hh_nmem {kvs : List (Str × Value)} {k : Str} (h : valueAt kvs k = none) : k ∉ kvs.map (·.1) := by
  intro hm
  obtain ⟨p, hp, e⟩ := List.mem_map.mp hm
  have h' : kvs.find? (fun p => decide (p.1 = k)) = none := by simpa [PySem.valueAt] using h
  have := List.find?_eq_none.mp h' p hp
  simp [e] at this
section
variable {prog : Program} {w : World} {ih : Addr} {oT oH oT' oH' : Obj} {crs : List Cr} {kvsH : List (Str × Value)} {st : Tb × Hm} {T : Tb} {H : Hm}
theorem MInv.add {k : Str} {D : Addr} {vi : List Value} {n : Nat} {xs : List Int} (v : MInv prog w ih oT oH crs kvsH st) (hk : valueAt (kvT crs) k = none) (hd : oT'.IsDictOf (strKind prog w) (stored (kvT crs) k (.ref D))) (hx : All2 ItmV vi xs) (hD : @LT.lt Nat _ ih D) (hn : ∀ p ∈ leds crs, p.1 ≠ D) :
    MInv prog w ih oT' oH (crs ++ [⟨k, D, vi, n⟩]) kvsH (st.1 ++ [(k, xs)], st.2) where
  dT := by rw [stored_new _ (hh_nmem hk)] at hd; simpa [kvT] using hd
  dH := v.dH
  hH := v.hH
  cr := v.cr.snoc ⟨rfl, hx⟩
  above := by
    intro p hp
    simp only [leds, List.map_append, List.map_cons, List.map_nil] at hp
    rcases List.mem_append.mp hp with hp | hp
    · exact v.above p hp
    · rw [List.mem_singleton.mp hp]; exact hD
  nd := by
    simp only [List.map_append, List.map_cons, List.map_nil]
    refine List.nodup_append.mpr ⟨v.nd, by simp, ?_⟩
    intro a ha b hb
    rw [List.mem_singleton.mp hb]
    obtain ⟨c, hc, rfl⟩ := List.mem_map.mp ha
    exact hn _ (List.mem_map.mpr ⟨c, hc, rfl⟩)
theorem MInv.putH {k : Str} {i : Nat} {t : Tok} (v : MInv prog w ih oT oH crs kvsH st) (hk : valueAt kvsH k = none) (hd : oH'.IsDictOf (strKind prog w) (stored kvsH k (.int ((i : Nat) : Int) t))) :
    MInv prog w ih oT oH' crs (kvsH ++ [(k, .int ((i : Nat) : Int) t)]) (st.1, st.2 ++ [(k, i)]) where
  dT := v.dT
  dH := by rw [stored_new _ (hh_nmem hk)] at hd; exact hd
  hH := v.hH.snoc ⟨rfl, t, rfl⟩
  cr := v.cr
  above := v.above
  nd := v.nd
theorem MInv.delH {k : Str} (v : MInv prog w ih oT oH crs kvsH st) (hd : oH'.IsDictOf (strKind prog w) (without kvsH k)) :
    MInv prog w ih oT oH' crs (without kvsH k) (st.1, dropH st.2 k) where
  dT := v.dT
  dH := hd
  hH := hh_drop (fun _ _ h => h.1) v.hH k
  cr := v.cr
  above := v.above
  nd := v.nd
theorem MInv.cut {pre post : List Cr} {c : Cr} {k : Str} {cur new : List Int} {Tp Tq : Tb} {vs' : List Value} {n' : Nat} (v : MInv prog w ih oT oH (pre ++ c :: post) kvsH (Tp ++ (k, cur) :: Tq, H)) (h1 : All2 CrR pre Tp) (h2 : All2 CrR post Tq) (hn : c.nm = k) (hx : All2 ItmV vs' new) :
    MInv prog w ih oT oH (pre ++ ⟨c.nm, c.ad, vs', n'⟩ :: post) kvsH (Tp ++ (k, new) :: Tq, H) where
  dT := by have := v.dT; simpa [kvT] using this
  dH := v.dH
  hH := v.hH
  cr := h1.append (.cons ⟨hn, hx⟩ h2)
  above := by
    intro p hp
    simp only [leds, List.map_append, List.map_cons] at hp
    rcases List.mem_append.mp hp with hp | hp
    · exact v.above p (by simp only [leds, List.map_append]; exact List.mem_append_left _ hp)
    · rcases List.mem_cons.mp hp with rfl | hp
      · exact v.above (c.ad, listOf c.vs.toArray c.n) (by simp [leds])
      · exact v.above p (by simp only [leds, List.map_append, List.map_cons]; exact List.mem_append_right _ (List.mem_cons_of_mem _ hp))
  nd := by have := v.nd; simpa using this
end
theorem All2.take {α β : Type} {R : α → β → Prop} : ∀ {l : List α} {l' : List β}, All2 R l l' → ∀ n, All2 R (l.take n) (l'.take n)
  | _, _, _, 0 => by simpa using .nil
  | _, _, .nil, _ + 1 => .nil
  | _, _, .cons h r, n + 1 => .cons h (r.take n)
theorem All2.drop {α β : Type} {R : α → β → Prop} : ∀ {l : List α} {l' : List β}, All2 R l l' → ∀ n, All2 R (l.drop n) (l'.drop n)
  | _, _, h, 0 => h
  | _, _, .nil, _ + 1 => .nil
  | _, _, .cons h r, n + 1 => r.drop n
theorem valueAt_mem {kvs : List (Str × Value)} {k : Str} {v : Value} (h : valueAt kvs k = some v) : k ∈ kvs.map (·.1) := by
  unfold PySem.valueAt at h
  obtain ⟨p, hp, _⟩ := Option.map_eq_some_iff.mp h
  have h1 := List.find?_some hp
  exact List.mem_map.mpr ⟨p, List.mem_of_find?_eq_some hp, of_decide_eq_true h1⟩
theorem Sel.app {x : Addr × Obj} {r : Led} : ∀ {l : Led}, Sel x (l ++ x :: r) (l ++ r)
  | [] => .head
  | _ :: _ => .tail Sel.app
section
local macro_rules | `(tactic| k_all) => `(tactic| first | assumption | exact Above.ne (by assumption) (by omega) | (refine forall_append ?_ ?_ <;> k_all))
local macro_rules | `(tactic| k_mem) => `(tactic| first | assumption | exact List.mem_cons_self | (refine List.mem_cons_of_mem _ ?_; k_mem))
local macro_rules | `(tactic| walk_at "eval Dict nil nil") => `(tactic| (refine Stop.out ?_))
set_option hygiene false in
local macro_rules | `(tactic| walk_at "exec For Name Name cons nil") => `(tactic| ((rename Fr _ _ _ _ => lF'); (with_unfolding_all refine' For_turns lF' ?_); k_whole))
set_option hygiene false in
local macro_rules | `(tactic| walk_at "exec For Tuple Call cons nil") => `(tactic| ((rename Fr _ _ _ _ => lF'); (with_unfolding_all refine' For_turns lF' ?_); k_whole))
local macro_rules | `(tactic| walk_at "pyIter ref") => `(tactic| (refine Stop.out ?_))
local macro_rules | `(tactic| walk_at "getMethod ref") => `(tactic| (refine Stop.out ?_))
local macro_rules | `(tactic| walk_at "call builtin:dict.get") => `(tactic| (refine Stop.out ?_))
local macro_rules | `(tactic| walk_at "call builtin:dict.pop") => `(tactic| (refine Stop.out ?_))
local macro_rules | `(tactic| walk_at "call builtin:dict.items") => `(tactic| (refine Stop.out ?_))
local macro_rules | `(tactic| walk_at "setItem ref str") => `(tactic| (refine Stop.out ?_))
local macro_rules | `(tactic| walk_at "setItem ref ref") => `(tactic| (refine Stop.out ?_))
local macro_rules | `(tactic| walk_at "call type:list") => `(tactic| (refine Stop.out ?_))
local macro_rules | `(tactic| walk_at "call ref") => `(tactic| (refine Stop.out ?_))
local macro_rules | `(tactic| walk_at "eval Slice") => `(tactic| (with_unfolding_all refine slice2 ?_))
theorem merged_ {w : World} {v : Value} {tbs : List Tb} {news : Led} (hl : TsIn PySem.Challenge.rw_ev0001_01.row.prog w RlIn news v tbs) (hlen : tbs.length ≤ 5) (h3 : ∀ tb ∈ tbs, tb.length ≤ 3) (h4 : ∀ tb ∈ tbs, ∀ e ∈ tb, e.2.length ≤ 4) (hsm : ∀ pre, pre <+: tbs.flatten → MOk (mrun pre)) :
    CallsTo w 51 [v] 2 news (fun r nw => ∃ made, nw = made ++ news ∧ DcIn PySem.Challenge.rw_ev0001_01.row.prog w RlIn made r (mrun tbs.flatten).1 ∧ Apart made news) := by
  intro dp un gd cn cs a ccd cl outer A₀ base h₀ L m loose mean mg mb s Q E B F X N T hk hd' hu ret
  obtain ⟨ax, vs, n, rfl, hm, hi⟩ := hl
  refine wpAny_call ?_
  k_dflt cell_enter
  k_steps
  refine Stop.mk ?_
  (k_here; k_dflt (refine' newDict_K ?k1 ?k2 (TopRead.nolimit (by k_asm)) ?_; (case k1 => k_asm); (case k2 => k_asm); k_whole))
  intro dT h1 oT F1 N1 lT loT hT fs1 hi1 fi1
  clear fs1 hi1 fi1
  k_steps
  refine Stop.mk ?_
  (k_here; k_dflt (refine' newDict_K ?k1 ?k2 (TopRead.nolimit (by k_asm)) ?_; (case k1 => k_asm); (case k2 => k_asm); k_whole))
  intro dH h2 oH F2 N2 lH loH hH fs1 hi1 fi1
  clear fs1 hi1 fi1
  k_steps
  refine Stop.mk ?_
  rename Fr _ _ _ _ => FA
  rename News _ _ _ _ => NA
  have NB : News _ _ _ ((dT, oT) :: (dH, oH) :: (leds [] ++ news)) := fun p hp => NA p (by
    simp only [leds, List.map_nil, List.nil_append, List.mem_cons] at hp ⊢
    grind)
  (with_unfolding_all refine iter_listTurns (lo := listOf vs.toArray n) (vs := vs) (n := n) rfl FA NB (List.mem_cons_of_mem _ (List.mem_cons_of_mem _ hm)) rfl rfl ?_)
  intro I hI
  have hIT : @LT.lt Nat _ dT I := hI (dT, oT) List.mem_cons_self
  have hIH : @LT.lt Nat _ dH I := hI (dH, oH) (List.mem_cons_of_mem _ List.mem_cons_self)
  have hIn : ∀ p ∈ news, p.1 < I := fun p hp => hI p (List.mem_cons_of_mem _ (List.mem_cons_of_mem _ hp))
  have hTH : @LT.lt Nat _ dT dH := lH (dT, oT) List.mem_cons_self
  refine turns_off [Str.ofString "toks", Str.ofString "state", Str.ofString "items", Str.ofString "curitems", Str.ofString "inherit_ndx", Str.ofString "new_inh_ndx"]
    (fun xs nw => ∃ us done rest crs oT oH kvsH, xs = us.map Itm.val ∧ tbs = done ++ rest ∧ All2 (DcIn PySem.Challenge.rw_ev0001_01.row.prog w RlIn news) us rest ∧ nw = (dT, oT) :: (dH, oH) :: (leds crs ++ news) ∧
      MInv PySem.Challenge.rw_ev0001_01.row.prog w dH oT oH crs kvsH (mrun done.flatten) ∧ (∀ p ∈ leds crs, p.1 ≠ I)) ?_ ?_ _ _ ⟨vs, [], tbs, [], oT, oH, [], rfl, rfl, hi, rfl, ⟨hT, hH, .nil, .nil, fun _ h => (nomatch h), .nil⟩, fun _ h => (nomatch h)⟩ ⟨List.mem_cons_of_mem _ (List.mem_cons_of_mem _ hm), trivial⟩
  · rintro a1 r u nw ⟨us, done, rest, crs, oT, oH, kvsH, hxs, htb, hus, rfl, inv, hoI⟩ - v h tk hv F
    cases hus with
    | nil => cases hxs
    | @cons u0 tb us rest hu0 hus =>
      obtain ⟨rfl, rfl⟩ := List.cons.inj hxs
      have hv' : v = u0 := hv
      subst hv'
      obtain ⟨d0, o0, kvs0, rfl, hd0, lo0, hdo0, hdc0⟩ := hu0
      refine AllObj.cons (fun oI hcI => AllObj.nil (fun N => ?_))
      simp only [offM, List.cons_append, List.nil_append] at F N
      have hd0b : (d0, o0) ∈ leds crs ++ news := List.mem_append_right _ hd0
      have hkl : kvs0.length ≤ 3 := by rw [hdc0.length]; exact h3 tb (by rw [htb]; exact List.mem_append_right _ List.mem_cons_self)
      k_steps
      refine Stop.mk ?_
      rename News _ _ _ _ => N3
      (k_dflt (refine kob_method (knd := strKind PySem.Challenge.rw_ev0001_01.row.prog w) PySem.F.slot_dict_items PySem.F.type_dict_items N3 (List.mem_cons_of_mem _ (List.mem_cons_of_mem _ (List.mem_cons_of_mem _ hd0b))) hdo0 ?_))
      k_steps
      refine Stop.mk ?_
      rename Fr _ _ _ _ => F3
      (k_dflt (refine kta_callItems (knd := strKind PySem.Challenge.rw_ev0001_01.row.prog w) F3 N3 (List.mem_cons_of_mem _ (List.mem_cons_of_mem _ (List.mem_cons_of_mem _ hd0b))) hdo0 lo0 ?_))
      intro h4' hvw F4 N4
      k_steps
      refine Stop.mk ?_
      (with_unfolding_all refine kta_items (knd := strKind PySem.Challenge.rw_ev0001_01.row.prog w) (enc := PyData.str) rfl F4 N4 hvw (List.mem_cons_of_mem _ (List.mem_cons_of_mem _ (List.mem_cons_of_mem _ hd0b))) hdo0 (fun _ _ h => Value.isStrOf_shape h) rfl ?_)
      intro I2 hI2
      have hI2I : @LT.lt Nat _ I I2 := hI2 (I, oI) List.mem_cons_self
      have hI2n : ∀ p ∈ news, p.1 < I2 := fun p hp => Nat.lt_trans (hIn p hp) hI2I
      refine turns_off [Str.ofString "state", Str.ofString "items", Str.ofString "curitems", Str.ofString "inherit_ndx", Str.ofString "new_inh_ndx"]
        (fun xs nw => ∃ kl td tl crs oT oH kvsH, xs = kl.map (fun p : Str × Value => Itm.pair (kyVal (PyData.str p.1)) p.2) ∧ tb = td ++ tl ∧ DcOf (RlIn news) kl tl ∧ nw = (I, oI) :: (dT, oT) :: (dH, oH) :: (leds crs ++ news) ∧
          MInv PySem.Challenge.rw_ev0001_01.row.prog w dH oT oH crs kvsH (mrun (done.flatten ++ td)) ∧ (∀ p ∈ leds crs, p.1 ≠ I) ∧ (∀ p ∈ leds crs, p.1 ≠ I2)) ?_ ?_ _ _
        ⟨kvs0, [], tb, crs, oT, oH, kvsH, rfl, rfl, hdc0, rfl, by rw [List.append_nil]; exact inv, hoI, fun p hp => Nat.ne_of_lt (hI2 p (List.mem_cons_of_mem _ (List.mem_cons_of_mem _ (List.mem_cons_of_mem _ (List.mem_append_left _ hp)))))⟩
        ⟨List.mem_cons_of_mem _ (List.mem_cons_of_mem _ (List.mem_cons_of_mem _ hd0b)), trivial⟩
      · rintro a1 r u2 nw ⟨kl, td, tl, crs, oT, oH, kvsH, hxs, htb2, hdc, rfl, inv, hoI, hoI2⟩ - v h tk hv F
        cases hdc with
        | nil => cases hxs
        | @cons kv e kl tl hkv hdc =>
          obtain ⟨ky, kx⟩ := kv
          obtain ⟨ky', xs0⟩ := e
          obtain ⟨hke, hkr⟩ := hkv
          dsimp only at hke hkr
          subst hke
          obtain ⟨rfl, rfl⟩ := List.cons.inj hxs
          obtain ⟨T1, t1, rfl, hT1⟩ := hv
          have hT1' : h.IsTuple T1 #[.str ky t1, kx] := hT1
          clear hT1
          refine AllObj.cons (fun o2 hc2 => AllObj.nil (fun N => ?_))
          simp only [offM, List.cons_append, List.nil_append] at F N
          have hmT : (dT, oT) ∈ (I2, o2) :: (I, oI) :: (dT, oT) :: (dH, oH) :: (leds crs ++ news) := List.mem_cons_of_mem _ (List.mem_cons_of_mem _ List.mem_cons_self)
          have hmH : (dH, oH) ∈ (I2, o2) :: (I, oI) :: (dT, oT) :: (dH, oH) :: (leds crs ++ news) := List.mem_cons_of_mem _ (List.mem_cons_of_mem _ (List.mem_cons_of_mem _ List.mem_cons_self))
          have ok := hsm (done.flatten ++ td) (by
            rw [htb, List.flatten_append, List.flatten_cons, htb2]
            exact ⟨(ky, xs0) :: tl ++ rest.flatten, by simp only [List.append_assoc]⟩)
          obtain ⟨T, H, hst⟩ : ∃ T H, mrun (done.flatten ++ td) = (T, H) := ⟨_, _, rfl⟩
          have hst2 : mrun (done.flatten ++ (td ++ [(ky, xs0)])) = mstep (T, H) (ky, xs0) := by rw [← List.append_assoc, mrun_snoc, hst]
          rw [hst] at inv ok
          obtain ⟨ai, vi, ni, rfl, hmi, hall⟩ := hkr
          have hvl : vi.length = xs0.length := hall.length
          have hszT : (kvT crs).length ≤ sizeLine := by
            have := inv.cr.length
            have := ok.few
            rw [sizeLine_eq]; simp only [kvT, List.length_map]; dsimp only at *; omega
          have hszH : kvsH.length ≤ sizeLine := by
            have := inv.hH.length
            have := ok.fewH
            rw [sizeLine_eq]; dsimp only at *; omega
          have hmi5 : (ai, listOf vi.toArray ni) ∈ (I2, o2) :: (I, oI) :: (dT, oT) :: (dH, oH) :: (leds crs ++ news) := List.mem_cons_of_mem _ (List.mem_cons_of_mem _ (List.mem_cons_of_mem _ (List.mem_cons_of_mem _ (List.mem_append_right _ hmi))))
          have hHI : ∀ p ∈ leds crs ++ news, p.1 ≠ dT := fun p hp => (List.mem_append.mp hp).elim (fun h => Nat.ne_of_gt (Nat.lt_trans hTH (inv.above p h))) fun h => Nat.ne_of_lt (lT p h)
          have hHH : ∀ p ∈ leds crs ++ news, p.1 ≠ dH := fun p hp => (List.mem_append.mp hp).elim (fun h => Nat.ne_of_gt (inv.above p h)) fun h => Nat.ne_of_lt (Nat.lt_trans (lT p h) hTH)
          have hI2T : @LT.lt Nat _ dT I2 := Nat.lt_trans hIT hI2I
          have hI2H : @LT.lt Nat _ dH I2 := Nat.lt_trans hIH hI2I
          have hxl : xs0.length ≤ 4 := h4 tb (by rw [htb]; exact List.mem_append_right _ List.mem_cons_self) (ky, xs0) (by rw [htb2]; exact List.mem_append_right _ List.mem_cons_self)
          k_steps
          refine Stop.mk ?_
          rename News _ _ _ _ => N5
          (k_dflt (refine kob_method (knd := strKind PySem.Challenge.rw_ev0001_01.row.prog w) PySem.F.slot_dict_get PySem.F.type_dict_get N5 hmT inv.dT ?_))
          k_steps
          refine Stop.mk ?_
          rcases cr_find inv.cr ky with ⟨hv1, hl1, hn1⟩ | ⟨pre, c, post, Tp, cur, Tq, rfl, hTT, a1, a2, a3, a4, hv1, hl1, a7⟩
          · (k_dflt (refine kdg_get1 (knd := strKind PySem.Challenge.rw_ev0001_01.row.prog w) N5 hmT inv.dT loT (strKind_is _ _ _ _) none hv1 ?_))
            dsimp only [Option.getD]
            k_steps
            refine Stop.mk ?_
            rename Fr _ _ _ _ => F5
            rename News _ _ _ _ => N5b
            (k_dflt (refine kup_listOf (its2 := vi.toArray) (n2 := ni) (zs := vi) F5 N5b hmi5 rfl ?_ (by rw [sizeLine_eq]; show vi.length ≤ _; omega)))
            intro D cD h6 F6 N6 lD
            k_steps
            refine Stop.mk ?_
            rename Fr _ _ _ _ => F7
            have hDT : @LT.lt Nat _ dT D := lD _ hmT
            have hDH : @LT.lt Nat _ dH D := lD _ hmH
            have hDI : @LT.lt Nat _ I D := lD (I, oI) (List.mem_cons_of_mem _ List.mem_cons_self)
            have hDI2 : @LT.lt Nat _ I2 D := lD (I2, o2) List.mem_cons_self
            (k_dflt (refine setDict (knd := strKind PySem.Challenge.rw_ev0001_01.row.prog w) F7 N6 (.tail (.tail (.tail .head))) ?_ inv.dT (strKind_is _ _ _ _) hszT ?_))
            · intro p hp
              simp only [List.mem_cons] at hp
              rcases hp with rfl | rfl | rfl | rfl | hp
              · exact Nat.ne_of_gt hDT
              · exact Nat.ne_of_gt hI2T
              · exact Nat.ne_of_gt hIT
              · exact Nat.ne_of_gt hTH
              · exact hHI p hp
            intro h8 oT' F8 N8 hdT'
            have hnD : ∀ p ∈ leds crs, p.1 ≠ D := fun p hp => Nat.ne_of_lt (lD p (List.mem_cons_of_mem _ (List.mem_cons_of_mem _ (List.mem_cons_of_mem _ (List.mem_cons_of_mem _ (List.mem_append_left _ hp))))))
            have inv2 := inv.add (n := cD) hv1 hdT' hall hDH hnD
            have hoA : ∀ p ∈ leds (crs ++ [⟨ky, D, vi, cD⟩]), p.1 ≠ I := fun p hp => by
              simp only [leds, List.map_append, List.map_cons, List.map_nil] at hp
              rcases List.mem_append.mp hp with hp | hp
              · exact hoI p hp
              · rw [List.mem_singleton.mp hp]; exact Nat.ne_of_gt hDI
            have hoA2 : ∀ p ∈ leds (crs ++ [⟨ky, D, vi, cD⟩]), p.1 ≠ I2 := fun p hp => by
              simp only [leds, List.map_append, List.map_cons, List.map_nil] at hp
              rcases List.mem_append.mp hp with hp | hp
              · exact hoI2 p hp
              · rw [List.mem_singleton.mp hp]; exact Nat.ne_of_gt hDI2
            have hH1 : valueAt kvsH ky = none := by
              rcases hh_find inv.hH ky with ⟨h, _⟩ | ⟨i, t, _, h⟩
              · exact h
              · rw [ok.sub ky hl1] at h; cases h
            k_steps
            refine Stop.mk ?_
            have hl9 : RlIn ((dT, oT') :: (D, listOf vi.toArray cD) :: (I2, o2) :: (I, oI) :: (dH, oH) :: (leds crs ++ news)) (.ref ai) xs0 := ⟨ai, vi, ni, rfl, by simp only [List.mem_cons, List.mem_append]; simp only [hmi, or_true], hall⟩
            k_dflt (refine' (place_ (w := w) hl9).use ?B ?F ?X ?N ?T ?hk ?hd ?hu ?_; (case B => k_asm); (case F => k_asm); (case X => k_asm); (case N => k_asm); (case T => k_asm); (case hk => exact rfl); (case hd => ktr_room); (case hu => ktr_units))
            rintro r nw9 h9 tk9 F9 N9 ⟨rfl, hpl⟩
            cases hpx : place xs0 with
            | none =>
              rw [hpx] at hpl
              have hr : r = .none := hpl
              subst hr
              k_steps
              rename Fr _ _ _ _ => FE
              rename News _ _ _ _ => NE
              have NF : News _ _ _ ((I2, o2) :: (I, oI) :: (dT, oT') :: (dH, oH) :: (leds (crs ++ [⟨ky, D, vi, cD⟩]) ++ news)) := fun p hp => NE p (by
                simp only [leds, List.map_append, List.map_cons, List.map_nil, List.cons_append, List.nil_append, List.mem_cons, List.mem_append] at hp ⊢
                grind)
              refine UnrEndW_sel FE NF Sel.head ?_ ⟨⟨List.mem_cons_of_mem _ (List.mem_cons_of_mem _ (List.mem_cons_of_mem _ (List.mem_append_right _ hd0))), trivial⟩, ?_, kl, td ++ [(ky, xs0)], tl, crs ++ [⟨ky, D, vi, cD⟩], oT', oH, kvsH, rfl, by rw [htb2, List.append_assoc]; rfl, hdc, rfl, ?_, hoA, hoA2⟩
              · intro p hp
                simp only [List.mem_cons] at hp
                rcases hp with rfl | rfl | rfl | hp
                · exact Nat.ne_of_lt hI2I
                · exact Nat.ne_of_lt hI2T
                · exact Nat.ne_of_lt hI2H
                · exact (List.mem_append.mp hp).elim (hoA2 p) fun h => Nat.ne_of_lt (hI2n p h)
              · repeat' (first | exact Off.refl | refine Off.put (by k_mem) ?_)
              · have e : mstep (T, H) (ky, xs0) = (T ++ [(ky, xs0)], H) := by simp [mstep, hl1, hpx]
                rw [hst2, e]
                exact inv2
            | some i =>
              rw [hpx] at hpl
              obtain ⟨t, rfl⟩ := hpl
              k_steps
              refine Stop.mk ?_
              rename Fr _ _ _ _ => F10
              rename News _ _ _ _ => N10
              (k_dflt (refine setDict (knd := strKind PySem.Challenge.rw_ev0001_01.row.prog w) F10 N10 (.tail (.tail (.tail (.tail .head)))) ?_ inv.dH (strKind_is _ _ _ _) hszH ?_))
              · intro p hp
                simp only [List.mem_cons] at hp
                rcases hp with rfl | rfl | rfl | rfl | hp
                · exact Nat.ne_of_lt hTH
                · exact Nat.ne_of_gt hDH
                · exact Nat.ne_of_gt hI2H
                · exact Nat.ne_of_gt hIH
                · exact hHH p hp
              intro h11 oH' F11 N11 hdH'
              have inv3 := inv2.putH hH1 hdH'
              k_steps
              rename Fr _ _ _ _ => FE
              rename News _ _ _ _ => NE
              have NF : News _ _ _ ((I2, o2) :: (I, oI) :: (dT, oT') :: (dH, oH') :: (leds (crs ++ [⟨ky, D, vi, cD⟩]) ++ news)) := fun p hp => NE p (by
                simp only [leds, List.map_append, List.map_cons, List.map_nil, List.cons_append, List.nil_append, List.mem_cons, List.mem_append] at hp ⊢
                grind)
              refine UnrEndW_sel FE NF Sel.head ?_ ⟨⟨List.mem_cons_of_mem _ (List.mem_cons_of_mem _ (List.mem_cons_of_mem _ (List.mem_append_right _ hd0))), trivial⟩, ?_, kl, td ++ [(ky, xs0)], tl, crs ++ [⟨ky, D, vi, cD⟩], oT', oH', kvsH ++ [(ky, .int ((i : Nat) : Int) t)], rfl, by rw [htb2, List.append_assoc]; rfl, hdc, rfl, ?_, hoA, hoA2⟩
              · intro p hp
                simp only [List.mem_cons] at hp
                rcases hp with rfl | rfl | rfl | hp
                · exact Nat.ne_of_lt hI2I
                · exact Nat.ne_of_lt hI2T
                · exact Nat.ne_of_lt hI2H
                · exact (List.mem_append.mp hp).elim (hoA2 p) fun h => Nat.ne_of_lt (hI2n p h)
              · repeat' (first | exact Off.refl | refine Off.put (by k_mem) ?_)
              · have e : mstep (T, H) (ky, xs0) = (T ++ [(ky, xs0)], H ++ [(ky, i)]) := by simp [mstep, hl1, hpx]
                rw [hst2, e]
                exact inv3
          · (k_dflt (refine kdg_get1 (knd := strKind PySem.Challenge.rw_ev0001_01.row.prog w) N5 hmT inv.dT loT (strKind_is _ _ _ _) (some _) hv1 ?_))
            dsimp only [Option.getD]
            k_steps
            refine Stop.mk ?_
            dsimp only at hTT
            subst hTT
            rename News _ _ _ _ => N6
            (k_dflt (refine kob_method (knd := strKind PySem.Challenge.rw_ev0001_01.row.prog w) PySem.F.slot_dict_pop PySem.F.type_dict_pop N6 hmH inv.dH ?_))
            k_steps
            refine Stop.mk ?_
            rename Fr _ _ _ _ => F7
            rename News _ _ _ _ => N7
            rcases hh_find inv.hH ky with ⟨hv2, hl2⟩ | ⟨i, ti, hv2, hl2⟩
            · (k_dflt (refine pop_none (knd := strKind PySem.Challenge.rw_ev0001_01.row.prog w) N7 hmH inv.dH loH (strKind_is _ _ _ _) (by rfl) hv2 ?_))
              k_steps
              rename Fr _ _ _ _ => FE
              rename News _ _ _ _ => NE
              refine UnrEndW_sel FE NE Sel.head ?_ ⟨⟨List.mem_cons_of_mem _ (List.mem_cons_of_mem _ (List.mem_cons_of_mem _ (List.mem_append_right _ hd0))), trivial⟩, ?_, kl, td ++ [(ky, xs0)], tl, pre ++ c :: post, oT, oH, kvsH, rfl, by rw [htb2, List.append_assoc]; rfl, hdc, rfl, ?_, hoI, hoI2⟩
              · intro p hp
                simp only [List.mem_cons] at hp
                rcases hp with rfl | rfl | rfl | hp
                · exact Nat.ne_of_lt hI2I
                · exact Nat.ne_of_lt hI2T
                · exact Nat.ne_of_lt hI2H
                · exact (List.mem_append.mp hp).elim (hoI2 p) fun h => Nat.ne_of_lt (hI2n p h)
              · repeat' (first | exact Off.refl | refine Off.put (by k_mem) ?_)
              · have e : mstep (Tp ++ (ky, cur) :: Tq, H) (ky, xs0) = (Tp ++ (ky, cur) :: Tq, H) := by simp only [mstep, hl1, hl2]
                rw [hst2, e]
                exact inv
            · (k_dflt (refine popThere (knd := strKind PySem.Challenge.rw_ev0001_01.row.prog w) F7 N7 (.tail (.tail (.tail .head))) ?_ inv.dH (strKind_is _ _ _ _) (by rfl) hv2 hszH ?_))
              · intro p hp
                simp only [List.mem_cons] at hp
                rcases hp with rfl | rfl | rfl | hp
                · exact Nat.ne_of_gt hI2H
                · exact Nat.ne_of_gt hIH
                · exact Nat.ne_of_lt hTH
                · exact hHH p hp
              intro h8 oH' F8 N8 hdH'
              k_steps
              refine Stop.mk ?_
              rename Fr _ _ _ _ => F9
              rename News _ _ _ _ => N9
              have hleds : leds (pre ++ c :: post) ++ news = leds pre ++ (c.ad, listOf c.vs.toArray c.n) :: (leds post ++ news) := by simp [leds]
              have hcm : (c.ad, listOf c.vs.toArray c.n) ∈ leds (pre ++ c :: post) := by simp [leds]
              have habv : @LT.lt Nat _ dH c.ad := inv.above _ hcm
              have hci : i < c.vs.length := by rw [a4.length]; exact ok.ins ky i cur hl2 hl1
              have hcl : cur.length ≤ 1000 := ok.len (ky, cur) (List.mem_append_right _ List.mem_cons_self)
              have hib := ok.bnd ky i hl2
              have hnd := inv.nd
              (k_dflt (refine setSlice_K (rest := (dH, oH') :: (I2, o2) :: (I, oI) :: (dT, oT) :: (leds pre ++ (leds post ++ news))) (vs := c.vs) (us := vi) (n2 := ni) (i := i) (F9.push _) (N9.grown fun _ _ e => Heap.get?_push_of_some _ e) (.tail (.tail (.tail (.tail (by rw [hleds]; exact Sel.app))))) ?_ ?_ (Heap.IsSliceOf.new _ _ _ _) hci ?_ ?_))
              · intro p hp
                simp only [List.mem_cons, List.mem_append] at hp
                rcases hp with rfl | rfl | rfl | rfl | hp | hp | hp
                · exact Nat.ne_of_lt habv
                · exact (hoI2 _ hcm).symm
                · exact (hoI _ hcm).symm
                · exact Nat.ne_of_lt (Nat.lt_trans hTH habv)
                · obtain ⟨c', hc', rfl⟩ := List.mem_map.mp hp
                  intro e
                  simp only [List.map_append, List.map_cons] at hnd
                  exact (List.nodup_append.mp hnd).2.2 c'.ad (List.mem_map.mpr ⟨c', hc', rfl⟩) c.ad List.mem_cons_self e
                · obtain ⟨c', hc', rfl⟩ := List.mem_map.mp hp
                  intro e
                  simp only [List.map_append, List.map_cons] at hnd
                  exact (List.nodup_cons.mp (List.nodup_append.mp hnd).2.1).1 (List.mem_map.mpr ⟨c', hc', e⟩)
                · exact Nat.ne_of_lt (Nat.lt_trans (lT p hp) (Nat.lt_trans hTH habv))
              · simp only [List.mem_cons, List.mem_append]; simp only [hmi, or_true]
              · rw [sizeLine_eq, a4.length]; omega
              intro h11 n11 F11 N11
              have inv2 := (inv.delH hdH').cut (n' := n11) a1 a2 a3 ((a4.take i).append hall |>.append (a4.drop (i + 1)))
              have hoA : ∀ J : Addr, (∀ p ∈ leds (pre ++ c :: post), p.1 ≠ J) → ∀ p ∈ leds (pre ++ ⟨c.nm, c.ad, c.vs.take i ++ vi ++ c.vs.drop (i + 1), n11⟩ :: post), p.1 ≠ J := fun J hJ p hp => by
                simp only [leds, List.map_append, List.map_cons] at hp
                rcases List.mem_append.mp hp with hp | hp
                · exact hJ p (by simp only [leds, List.map_append]; exact List.mem_append_left _ hp)
                · rcases List.mem_cons.mp hp with rfl | hp
                  · exact hJ (c.ad, listOf c.vs.toArray c.n) hcm
                  · exact hJ p (by simp only [leds, List.map_append, List.map_cons]; exact List.mem_append_right _ (List.mem_cons_of_mem _ hp))
              k_steps
              refine Stop.mk ?_
              rename News _ _ _ _ => N12
              have hl9 : RlIn ((c.ad, listOf (c.vs.take i ++ vi ++ c.vs.drop (i + 1)).toArray n11) :: (dH, oH') :: (I2, o2) :: (I, oI) :: (dT, oT) :: (leds pre ++ (leds post ++ news))) (.ref ai) xs0 := ⟨ai, vi, ni, rfl, by simp only [List.mem_cons, List.mem_append]; simp only [hmi, or_true], hall⟩
              k_dflt (refine' (place_ (w := w) hl9).use ?B ?F ?X ?N ?T ?hk ?hd ?hu ?_; (case B => k_asm); (case F => k_asm); (case X => k_asm); (case N => k_asm); (case T => k_asm); (case hk => exact rfl); (case hd => ktr_room); (case hu => ktr_units))
              rintro r nw9 h9 tk9 F9 N9 ⟨rfl, hpl⟩
              cases hpx : place xs0 with
              | none =>
                rw [hpx] at hpl
                have hr : r = .none := hpl
                subst hr
                k_steps
                rename Fr _ _ _ _ => FE
                rename News _ _ _ _ => NE
                have NF : News _ _ _ ((I2, o2) :: (I, oI) :: (dT, oT) :: (dH, oH') :: (leds (pre ++ ⟨c.nm, c.ad, c.vs.take i ++ vi ++ c.vs.drop (i + 1), n11⟩ :: post) ++ news)) := fun p hp => NE p (by
                  simp only [leds, List.map_append, List.map_cons, List.mem_cons, List.mem_append] at hp ⊢
                  grind)
                refine UnrEndW_sel FE NF Sel.head ?_ ⟨⟨List.mem_cons_of_mem _ (List.mem_cons_of_mem _ (List.mem_cons_of_mem _ (List.mem_append_right _ hd0))), trivial⟩, ?_, kl, td ++ [(ky, xs0)], tl, pre ++ ⟨c.nm, c.ad, c.vs.take i ++ vi ++ c.vs.drop (i + 1), n11⟩ :: post, oT, oH', without kvsH ky, rfl, by rw [htb2, List.append_assoc]; rfl, hdc, rfl, ?_, hoA I hoI, hoA I2 hoI2⟩
                · intro p hp
                  simp only [List.mem_cons] at hp
                  rcases hp with rfl | rfl | rfl | hp
                  · exact Nat.ne_of_lt hI2I
                  · exact Nat.ne_of_lt hI2T
                  · exact Nat.ne_of_lt hI2H
                  · exact (List.mem_append.mp hp).elim (hoA I2 hoI2 p) fun h => Nat.ne_of_lt (hI2n p h)
                · repeat' (first | exact Off.refl | refine Off.put (by k_mem) ?_)
                · have e : mstep (Tp ++ (ky, cur) :: Tq, H) (ky, xs0) = (Tp ++ (ky, cur.take i ++ xs0 ++ cur.drop (i + 1)) :: Tq, dropH H ky) := by simp only [mstep, hl1, hl2, hpx, setTb_at a7]
                  rw [hst2, e]
                  exact inv2
              | some j =>
                rw [hpx] at hpl
                obtain ⟨t, rfl⟩ := hpl
                k_steps
                refine Stop.mk ?_
                rename Fr _ _ _ _ => F13
                rename News _ _ _ _ => N13
                have hH1 : valueAt (without kvsH ky) ky = none := by
                  rcases hh_find inv2.hH ky with ⟨h, _⟩ | ⟨i, t, h, _⟩
                  · exact h
                  · exact absurd (valueAt_mem h) (without_nmem kvsH ky)
                (k_dflt (refine setDict (knd := strKind PySem.Challenge.rw_ev0001_01.row.prog w) F13 N13 (.tail .head) ?_ hdH' (strKind_is _ _ _ _) (Nat.le_trans (List.length_filter_le _ _) hszH) ?_))
                · intro p hp
                  simp only [List.mem_cons, List.mem_append] at hp
                  rcases hp with rfl | rfl | rfl | rfl | hp | hp | hp
                  · exact Nat.ne_of_gt habv
                  · exact Nat.ne_of_gt hI2H
                  · exact Nat.ne_of_gt hIH
                  · exact Nat.ne_of_lt hTH
                  · exact hHH p (by rw [hleds]; exact List.mem_append_left _ hp)
                  · exact hHH p (by rw [hleds]; exact List.mem_append_right _ (List.mem_cons_of_mem _ (List.mem_append_left _ hp)))
                  · exact hHH p (by rw [hleds]; exact List.mem_append_right _ (List.mem_cons_of_mem _ (List.mem_append_right _ hp)))
                intro h14 oH2 F14 N14 hdH2
                obtain ⟨kvs3, inv3⟩ := (⟨_, inv2.putH (i := i + j) hH1 (by push_cast; exact hdH2)⟩ : ∃ kvs3, MInv _ _ _ _ _ _ kvs3 _)
                k_steps
                rename Fr _ _ _ _ => FE
                rename News _ _ _ _ => NE
                have NF : News _ _ _ ((I2, o2) :: (I, oI) :: (dT, oT) :: (dH, oH2) :: (leds (pre ++ ⟨c.nm, c.ad, c.vs.take i ++ vi ++ c.vs.drop (i + 1), n11⟩ :: post) ++ news)) := fun p hp => NE p (by
                  simp only [leds, List.map_append, List.map_cons, List.mem_cons, List.mem_append] at hp ⊢
                  grind)
                refine UnrEndW_sel FE NF Sel.head ?_ ⟨⟨List.mem_cons_of_mem _ (List.mem_cons_of_mem _ (List.mem_cons_of_mem _ (List.mem_append_right _ hd0))), trivial⟩, ?_, kl, td ++ [(ky, xs0)], tl, pre ++ ⟨c.nm, c.ad, c.vs.take i ++ vi ++ c.vs.drop (i + 1), n11⟩ :: post, oT, oH2, kvs3, rfl, by rw [htb2, List.append_assoc]; rfl, hdc, rfl, ?_, hoA I hoI, hoA I2 hoI2⟩
                · intro p hp
                  simp only [List.mem_cons] at hp
                  rcases hp with rfl | rfl | rfl | hp
                  · exact Nat.ne_of_lt hI2I
                  · exact Nat.ne_of_lt hI2T
                  · exact Nat.ne_of_lt hI2H
                  · exact (List.mem_append.mp hp).elim (hoA I2 hoI2 p) fun h => Nat.ne_of_lt (hI2n p h)
                · repeat' (first | exact Off.refl | refine Off.put (by k_mem) ?_)
                · have e : mstep (Tp ++ (ky, cur) :: Tq, H) (ky, xs0) = (Tp ++ (ky, cur.take i ++ xs0 ++ cur.drop (i + 1)) :: Tq, dropH H ky ++ [(ky, i + j)]) := by simp only [mstep, hl1, hl2, hpx, setTb_at a7]
                  rw [hst2, e]
                  exact inv3
      · rintro u2 nw ⟨kl, td, tl, crs, oT, oH, kvsH, hxs, htb2, hdc, rfl, inv, hoI, hoI2⟩ h tk F N
        simp only [offM] at F
        k_steps
        rename Fr _ _ _ _ => FE
        rename News _ _ _ _ => NE
        cases hdc with
        | cons => cases hxs
        | nil =>
          rw [List.append_nil] at htb2
          subst htb2
          refine UnrEndW_sel FE NE Sel.head ?_ ⟨⟨List.mem_cons_of_mem _ (List.mem_cons_of_mem _ (List.mem_append_right _ hm)), trivial⟩, ?_, us, done ++ [tb], rest, crs, oT, oH, kvsH, rfl, by rw [htb, List.append_assoc]; rfl, hus, rfl, by rw [List.flatten_append]; simpa using inv, hoI⟩
          · intro p hp
            rcases List.mem_cons.mp hp with rfl | hp
            · exact Nat.ne_of_lt hIT
            · rcases List.mem_cons.mp hp with rfl | hp
              · exact Nat.ne_of_lt hIH
              · rcases List.mem_append.mp hp with hp | hp
                · exact hoI p hp
                · exact Nat.ne_of_lt (hIn p hp)
          · repeat' (first | exact Off.refl | refine Off.put (by k_mem) ?_)
  · rintro u nw ⟨us, done, rest, crs, oT, oH, kvsH, hxs, htb, hus, rfl, inv, hoI⟩ h tk F N
    simp only [offM] at F
    k_steps
    rename Fr _ _ _ _ => FE
    rename News _ _ _ _ => NE
    cases hus with
    | cons => cases hxs
    | nil =>
      have htb' : tbs = done := by rw [htb, List.append_nil]
      subst htb'
      refine ret _ (((dT, oT) :: (dH, oH) :: leds crs) ++ news) _ _ FE NE ⟨(dT, oT) :: (dH, oH) :: leds crs, rfl, ⟨dT, oT, kvT crs, rfl, List.mem_cons_self, loT, inv.dT, cr_dc inv.cr fun p hp => List.mem_cons_of_mem _ (List.mem_cons_of_mem _ hp)⟩, ?_⟩
      intro p hp q hq
      have hq1 : @LT.lt Nat _ q.1 dT := lT q hq
      rcases List.mem_cons.mp hp with rfl | hp
      · exact Nat.ne_of_gt hq1
      · rcases List.mem_cons.mp hp with rfl | hp
        · exact Nat.ne_of_gt (Nat.lt_trans hq1 hTH)
        · exact Nat.ne_of_gt (Nat.lt_trans (Nat.lt_trans hq1 hTH) (inv.above p hp))
end
end
section
set_option maxHeartbeats 4000000
theorem calmM8 : True := by
  w_top off
  trivial
theorem fl8 : ∀ (w : World) (h : Heap), PySem.Challenge.rw_ev0001_01 = PySem.Challenge.rw_ev0001_01 → (hd.heap_39 w.params).In h → True := by
  k_fill
  intros; trivial
def RowsIn (l : Led) (v : Value) (rows : List (List Int)) : Prop := ∃ a us n, v = .ref a ∧ (a, listOf us.toArray n) ∈ l ∧ All2 (LsIn l) us rows
/-- the law's own merging -/
def lm : List (List Int) → List Int
  | [] => []
  | [f] => f
  | f :: r => match place f with | none => f | some i => f.take i ++ lm r ++ f.drop (i + 1)
theorem list_item {prog : Program} {w : World} {A : Around} {E : Value → Shared → Prop} {s : Shared} {h₀ : Heap} {L : Addr} {news : Led} {value slice : PySem.Expr} {l : Addr} {vs : List Value} {n k : Nat} {u : Tok} {v : Value} {Q : Value → Shared → Prop}
    (N : News h₀ L s.heap news) (hl : (l, listOf vs.toArray n) ∈ news) (hhi : k < 2 ^ 63) (hx : vs[k]? = some v) (h : Q v s)
    (hs : subscripted slice false (.ref l) (.int (k : Int) u) = operate [.ref l, .int (k : Int) u] (getItem (.ref l) (.int (k : Int) u)) := by with_unfolding_all rfl)
    (ht : ∀ r, letTemporaryGo value (.ref l) r = pure () := by intro _; with_unfolding_all rfl) :
    wpAny (model prog w) A (subscriptTail value slice (.ref l) (.int (k : Int) u)) Q E s :=
  have hL := N.isList hl
  tail_any hL.typeIs slot_list_getitem.lookup (wpAny_getItem_list hL (Int.natCast_nonneg _) (by omega) (by simpa using hx) h) hs
theorem ints_kf : ∀ {vs : List Value} {xs : List Int}, IntsAre vs xs → kf_ints vs = true
  | _, _, .nil => rfl
  | _, _, .cons _ _ r => by
    have h := ints_kf r
    exact h
theorem ints_any : ∀ {vs : List Value} {xs : List Int}, IntsAre vs xs → vs.any (isInt (-1)) = (place xs).isSome
  | _, _, .nil => rfl
  | _, _, .cons i t r => by
    have ih := ints_any r
    by_cases h : i = -1
    · subst h; rfl
    · have e : isInt (-1) (.int i t) = false := by simp [isInt, h]
      simp only [List.any_cons, e, ih, place, if_neg h, Bool.false_or, Option.isSome_map]
theorem ints_at : ∀ {vs : List Value} {xs : List Int}, IntsAre vs xs → kf_at (-1) vs = place xs
  | _, _, .nil => rfl
  | _, _, .cons i t r => by
    have ih := ints_at r
    by_cases h : i = -1
    · subst h; rfl
    · have e : isInt (-1) (.int i t) = false := by simp [isInt, h]
      simp only [kf_at, e, cond_false, ih, place, if_neg h]
      rename_i vs x
      cases place x <;> rfl
theorem place_lt : ∀ {xs : List Int} {i : Nat}, place xs = some i → i < xs.length
  | x :: r, i, h => by
    unfold place at h
    by_cases hx : x = -1
    · rw [if_pos hx] at h; cases h; exact Nat.zero_lt_succ _
    · rw [if_neg hx] at h
      obtain ⟨j, hj, e⟩ := Option.map_eq_some_iff.mp h
      subst e
      exact Nat.succ_lt_succ (place_lt hj)
theorem lm_len : ∀ (rows : List (List Int)), (∀ x ∈ rows, x.length ≤ 4) → (lm rows).length ≤ 4 * rows.length
  | [], _ => by simp [lm]
  | [f], h => by have := h f List.mem_cons_self; simp only [lm, List.length_cons, List.length_nil]; omega
  | f :: g :: r, h => by
    have h1 := h f List.mem_cons_self
    have h2 := lm_len (g :: r) fun x hx => h x (List.mem_cons_of_mem _ hx)
    simp only [lm, List.length_cons] at h2 ⊢
    cases hp : place f with
    | none => dsimp only; omega
    | some i =>
      dsimp only
      have := place_lt hp
      simp only [List.length_append, List.length_take, List.length_drop]
      omega
section
local macro_rules | `(tactic| k_all) => `(tactic| first | assumption | exact Above.ne (by assumption) (by omega) | (refine forall_append ?_ ?_ <;> k_all))
local macro_rules | `(tactic| k_mem) => `(tactic| first | assumption | exact List.mem_cons_self | (refine List.mem_cons_of_mem _ ?_; k_mem))
local macro_rules | `(tactic| walk_at "subscriptTail Name Constant ref int") => `(tactic| (refine Stop.out ?_))
local macro_rules | `(tactic| walk_at "subscriptTail Name Slice ref ref") => `(tactic| (refine Stop.out ?_))
local macro_rules | `(tactic| walk_at "getMethod ref") => `(tactic| (refine Stop.out ?_))
local macro_rules | `(tactic| walk_at "call builtin:list.index") => `(tactic| (refine Stop.out ?_))
local macro_rules | `(tactic| walk_at "call ref") => `(tactic| (refine Stop.out ?_))
local macro_rules | `(tactic| walk_at "compareOp NotIn int ref") => `(tactic| (refine Stop.out ?_))
local macro_rules | `(tactic| walk_at "call builtin:len") => `(tactic| (refine Stop.out ?_))
local macro_rules | `(tactic| walk_at "binaryOp Add ref ref") => `(tactic| (refine Stop.out ?_))
theorem lmerged_ {w : World} : ∀ (rows : List (List Int)), rows ≠ [] → rows.length ≤ 5 → (∀ x ∈ rows, x.length ≤ 4) → ∀ (v : Value) (news : Led), RowsIn news v rows →
    CallsTo w 91 [v] rows.length news (fun r nw => ∃ made, nw = made ++ news ∧ LsIn nw r (lm rows) ∧ Apart made news) := by
  intro rows
  induction rows with
  | nil => intro h; exact absurd rfl h
  | cons f rs ih =>
    intro _ hlen h4 v news hl
    intro dp un gd cn cs a ccd cl outer A₀ base h₀ L m loose mean mg mb s Q E B F X N T hk hd' hu ret
    obtain ⟨ax, us, n, rfl, hm, hi⟩ := hl
    cases hi with
    | @cons u0 _ us _ hu0 hus =>
    obtain ⟨af, vf, nf, rfl, hmf, hif⟩ := hu0
    have hulen : us.length = rs.length := hus.length
    simp only [List.length_cons] at hd' hu hlen
    refine wpAny_call ?_
    k_dflt cell_enter
    k_steps
    refine Stop.mk ?_
    rename News _ _ _ _ => N1
    (k_dflt (refine list_item (k := 0) N1 hm (by decide) rfl ?_))
    k_steps
    refine Stop.mk ?_
    rename News _ _ _ _ => N2
    (k_dflt (refine len_list (N2.isList hm) (by simp; omega) ?_))
    simp only [List.size_toArray, List.length_cons]
    cases hus with
    | nil =>
      k_steps
      refine ret _ news _ _ (by assumption) (by assumption) ⟨[], rfl, ⟨af, vf, nf, rfl, hmf, hif⟩, fun _ h => nomatch h⟩
    | @cons u1 g us rs hu1 hus =>
      have hul2 : us.length = rs.length := hus.length
      simp only [List.length_cons] at hulen hlen hd' hu ⊢
      have hfl : f.length ≤ 4 := h4 f List.mem_cons_self
      have hvl : vf.length = f.length := hif.length
      k_steps
      · exfalso; omega
      refine Stop.mk ?_
      rename News _ _ _ _ => N3
      cases hpx : place f with
      | none =>
        (k_dflt (refine kf_notin (b := true) N3 hmf (ints_kf hif) (by show (!vf.any (isInt (-1))) = true; rw [ints_any hif, hpx]; rfl) ?_))
        k_steps
        refine ret _ news _ _ (by assumption) (by assumption) ⟨[], rfl, ?_, fun _ h => nomatch h⟩
        have e : lm (f :: g :: rs) = f := by simp only [lm, hpx]
        rw [e]
        exact ⟨af, vf, nf, rfl, hmf, hif⟩
      | some i =>
        have hil : i < f.length := place_lt hpx
        (k_dflt (refine kf_notin (b := false) N3 hmf (ints_kf hif) (by show (!vf.any (isInt (-1))) = false; rw [ints_any hif, hpx]; rfl) ?_))
        k_steps
        refine Stop.mk ?_
        rename News _ _ _ _ => N4
        (k_dflt (refine kf_method N4 hmf PySem.F.slot_list_index PySem.F.type_list_index ?_))
        k_steps
        refine Stop.mk ?_
        rename News _ _ _ _ => N5
        (k_dflt (refine kf_index (j := i) (i := (i : Int)) N5 hmf (ints_kf hif) (by show kf_at (-1) vf = some i; rw [ints_at hif, hpx]) rfl (by rw [sizeLine_eq]; show vf.length ≤ _; omega) ?_))
        k_steps
        refine Stop.mk ?_
        rename Fr _ _ _ _ => F6
        rename News _ _ _ _ => N6
        have hzf : vf.toArray.size ≤ sizeLine := by rw [sizeLine_eq, List.size_toArray]; omega
        (k_dflt (refine kmk_slice_ints (lo := none) (hi := some (i : Int)) F6 N6 (N6.isList hmf) .none (.int _ _) hif (kmk_upto hif (Int.natCast_nonneg _)) rfl ?_ (by with_unfolding_all rfl) (by intro _; with_unfolding_all rfl) hzf))
        intro D1 w1 h7 F7 N7 l7 hi7 _ _
        k_steps
        refine Stop.mk ?_
        rename Fr _ _ _ _ => F8
        rename News _ _ _ _ => N8
        (k_dflt (refine kmk_slice_lit (lo := some 1) (hi := none) (zs := u1 :: us) F8 N8 (N8.isList (List.mem_cons_of_mem _ hm)) (.int _ _) .none ?_ ?_ (by with_unfolding_all rfl) (by intro _; with_unfolding_all rfl) ?_))
        · rw [show (1 : Int) = ((1 : Nat) : Int) from rfl, slicePick_from _ 1 (by simp)]
          simp
        rotate_left
        · rw [sizeLine_eq, List.size_toArray]; simp only [List.length_cons]; omega
        intro D2 h9 F9 N9 l9
        k_steps
        refine Stop.mk ?_
        have hrs : RowsIn ((D2, listOf (u1 :: us).toArray 0) :: (D1, listOf w1.toArray 0) :: news) (.ref D2) (g :: rs) := by
          have sub : ∀ p ∈ news, p ∈ (D2, listOf (u1 :: us).toArray 0) :: (D1, listOf w1.toArray 0) :: news := fun p hp => List.mem_cons_of_mem _ (List.mem_cons_of_mem _ hp)
          exact ⟨D2, u1 :: us, 0, rfl, List.mem_cons_self, .cons (hu1.mono sub) (hus.mono fun _ _ z => z.mono sub)⟩
        have ih1 := ih (by simp) (by simp only [List.length_cons]; omega) (fun x hx => h4 x (List.mem_cons_of_mem _ hx)) _ _ hrs
        simp only [List.length_cons] at ih1
        k_dflt (refine' ih1.use ?B ?F ?X ?N ?T ?hk ?hd ?hu ?_; (case B => k_asm); (case F => k_asm); (case X => k_asm); (case N => k_asm); (case T => k_asm); (case hk => exact rfl); (case hd => ktr_room); (case hu => ktr_units))
        rintro r nw10 h10 tk10 F10 N10 ⟨made, rfl, ⟨ar, vr, nr, rfl, hmr, hir⟩, hap⟩
        k_steps
        refine Stop.mk ?_
        rename Fr _ _ _ _ => F11
        rename News _ _ _ _ => N11
        have hgl : (lm (g :: rs)).length ≤ 4 * (rs.length + 1) := lm_len (g :: rs) (fun x hx => h4 x (List.mem_cons_of_mem _ hx))
        have htl : (f.take (i : Int).toNat).length ≤ 4 := by rw [List.length_take]; omega
        have sub1 : ∀ p ∈ news, p ∈ made ++ (D2, listOf (u1 :: us).toArray 0) :: (D1, listOf w1.toArray 0) :: news := fun p hp => List.mem_append_right _ (List.mem_cons_of_mem _ (List.mem_cons_of_mem _ hp))
        (k_dflt (refine kmk_add_ints F11 N11 (N11.isList (List.mem_append_right _ (List.mem_cons_of_mem _ List.mem_cons_self))) (N11.isList hmr) hi7 hir ?_ (by rw [sizeLine_eq]; omega)))
        intro D3 w3 h12 F12 N12 l12 hi12
        k_steps
        refine Stop.mk ?_
        rename Fr _ _ _ _ => F13
        rename News _ _ _ _ => N13
        (k_dflt (refine kmk_slice_ints (lo := some ((i : Int) + 1)) (hi := none) F13 N13 (N13.isList (List.mem_cons_of_mem _ (sub1 _ hmf))) (.int _ _) .none hif (kmk_from hif (by omega)) rfl ?_ (by with_unfolding_all rfl) (by intro _; with_unfolding_all rfl) hzf))
        intro D4 w4 h14 F14 N14 l14 hi14 _ _
        have hdl : (f.drop ((i : Int) + 1).toNat).length ≤ 4 := by rw [List.length_drop]; omega
        k_steps
        refine Stop.mk ?_
        rename Fr _ _ _ _ => F15
        rename News _ _ _ _ => N15
        (k_dflt (refine kmk_add_ints F15 N15 (N15.isList (List.mem_cons_of_mem _ List.mem_cons_self)) (N15.isList List.mem_cons_self) hi12 hi14 ?_ (by rw [sizeLine_eq, List.length_append]; omega)))
        intro D5 w5 h16 F16 N16 l16 hi16
        k_steps
        rename News _ _ _ _ => NE
        refine ret _ (((D5, listOf w5.toArray 0) :: (D4, listOf w4.toArray 0) :: (D3, listOf w3.toArray 0) :: (made ++ [(D2, listOf (u1 :: us).toArray 0), (D1, listOf w1.toArray 0)])) ++ news) _ _ (by assumption) (fun p hp => NE p ?_) ⟨_, rfl, ?_, ?_⟩
        · simp only [List.cons_append, List.append_assoc, List.nil_append, List.mem_cons, List.mem_append] at hp ⊢
          grind
        · have e : lm (f :: g :: rs) = f.take (i : Int).toNat ++ lm (g :: rs) ++ f.drop ((i : Int) + 1).toNat := by
            have e1 : (i : Int).toNat = i := by omega
            have e2 : ((i : Int) + 1).toNat = i + 1 := by omega
            rw [e1, e2]
            simp only [lm, hpx]
          rw [e]
          exact ⟨D5, w5, 0, rfl, List.mem_cons_self, hi16⟩
        · intro p hp q hq
          have hq1 := sub1 q hq
          simp only [List.mem_cons, List.mem_append, List.not_mem_nil, or_false] at hp
          rcases hp with rfl | rfl | rfl | hp | rfl | rfl
          · exact Nat.ne_of_gt (l16 q (List.mem_cons_of_mem _ (List.mem_cons_of_mem _ hq1)))
          · exact Nat.ne_of_gt (l14 q (List.mem_cons_of_mem _ hq1))
          · exact Nat.ne_of_gt (l12 q hq1)
          · exact hap p hp q (List.mem_cons_of_mem _ (List.mem_cons_of_mem _ hq))
          · exact Nat.ne_of_gt (l9 q (List.mem_cons_of_mem _ hq))
          · exact Nat.ne_of_gt (l7 q hq)
end
end
section
set_option maxHeartbeats 4000000
theorem calmM9 : True := by
  w_top off
  trivial
theorem fl9 : ∀ (w : World) (h : Heap), PySem.Challenge.rw_ev0001_01 = PySem.Challenge.rw_ev0001_01 → (hd.heap_39 w.params).In h → True := by
  k_fill
  intros; trivial
section
open LCg LCt
local macro_rules | `(tactic| k_all) => `(tactic| first | assumption | exact Above.ne (by assumption) (by omega) | (refine forall_append ?_ ?_ <;> k_all))
local macro_rules | `(tactic| k_mem) => `(tactic| first | assumption | exact List.mem_cons_self | (refine List.mem_cons_of_mem _ ?_; k_mem))
local macro_rules | `(tactic| walk_at "eval ListComp") => `(tactic| (refine Stop.out ?_))
local macro_rules | `(tactic| walk_at "subscriptTail Name Slice ref ref") => `(tactic| (refine Stop.out ?_))
local macro_rules | `(tactic| walk_at "binaryOp Add ref ref") => `(tactic| (refine Stop.out ?_))
set_option hygiene false in
local macro_rules | `(tactic| walk_at "newList") => `(tactic| (k_here; k_dflt (refine' newList_K ?k1 ?k2 ?_; (case k1 => k_asm); (case k2 => k_asm); k_whole); intro nl1 nh1 nF1 nN1 nl2))
theorem state_ {w : World} {sa : Addr} {svs : List Value} {sxs : List Int} {news : Led} (hints : IntsAre svs sxs) (hsl : sxs.length ≤ 63)
    {dp un : Nat} {gd : Option (List Code)} {cn : Str} {cs : Scope} {a : Addr} {ccd : Value} {cl : List (Str × Addr)} {outer : List Env} {A₀ : Around} {base h₀ : Heap} {L : Addr} {m : Str → Option Value} {loose : List Str} {mean : ExcName → Option Value} {mg mb : Str → Option Value} {s : Shared} {Q E : Value → Shared → Prop}
    (B : Below A₀ base outer h₀) (F : Fr h₀ L s.heap m) (X : (hd.heap_39 w.params).In h₀) (N : News h₀ L s.heap news)
    (T : Top hd.view_39 loose mean mg mb h₀) (hk : cs.kind = .function) (hsa : h₀.IsList sa svs.toArray) (hd' : dp + 1 < recursionLimit) (hu : un + 8 < cLine)
    (ret : ∀ st na ns vs t n1 n2 h' tk', NumOk vs ns → Fr h₀ L h' m → News h₀ L h' ((st, stO na 0 t n1) :: (na, listOf vs.toArray n2) :: news) → (∀ p ∈ news, p.1 < na) → @LT.lt Nat _ na st → Q (.ref st) { s with heap := h', toks := tk' }) :
    wpAny (model PySem.Challenge.rw_ev0001_01.row.prog w) (ktrTop dp un gd cn cs L a ccd cl outer) (call (.ref 63) [.ref sa]) Q E s := by
  refine wpAny_call ?_
  k_dflt cell_enter
  have hsa2 := (by assumption : Fr h₀ L _ m).lst hsa
  k_steps
  refine Stop.mk ?_
  rename Fr _ _ _ _ => F1
  have hlen2 : svs.length = sxs.length := hints.length
  (k_dflt (refine ListComp_U (F₀ := F1) (by rfl) (by decide) (by rfl) (by decide) (by rfl) ?_))
  k_steps
  refine Stop.mk ?_
  rename Fr _ _ _ _ => F2
  rename News _ _ _ _ => N2
  (k_dflt (refine kmk_slice_ints (lo := none) (hi := some 24) F2 N2 (F2.lst hsa2) .none (.int _ _) hints (kmk_upto hints (by decide)) rfl ?_ (by with_unfolding_all rfl) (by intro _; with_unfolding_all rfl) (by rw [sizeLine_eq, List.size_toArray]; omega)))
  intro D3 w3 h3 F3 N3 l3 hi3 _ _
  have hi3' : IntsAre w3 (sxs.take 24) := hi3
  have hw3 : w3.length ≤ 24 := by rw [hi3'.length, List.length_take]; omega
  k_steps
  (k_dflt (refine CompSrc.ledger (k := 0) rfl (by assumption) N3 List.mem_cons_self (by rw [sizeLine_eq, List.size_toArray]; omega) ?_))
  intro g
  refine compRest_inv (fun i ys nw => nw = (D3, listOf w3.toArray 0) :: news ∧ ∃ zs, IntsAre ys zs ∧ zs.length = i ∧ ∀ x ∈ zs, 0 ≤ x ∧ x < 1000003) w3.toArray.size ?_ ?_ _ 0 [] _ (Nat.zero_add _) ⟨rfl, [], .nil, rfl, fun _ h => nomatch h⟩
  · rintro i ys nw hlt ⟨rfl, zs, hzs, hzl, hzb⟩ v I oI C oC D m₂ h tk E' hP hC hx F N off ne
    obtain ⟨j, t, rfl, hj⟩ := hi3'.at i v (by simpa using hP)
    k_steps
    refine CompEnd.intro (by assumption) (by assumption) _ (fun p hp => hp) off (Or.inr ⟨_, List.mem_cons_self, rfl, _, rfl⟩) ⟨rfl, zs ++ [(if j < 0 then -j else j).fmod 1000003], hzs.append (.cons _ _ .nil), by rw [List.length_append, hzl]; rfl, fun x hx => ?_⟩
    rcases List.mem_append.mp hx with hx | hx
    · exact hzb x hx
    · rw [List.mem_singleton.mp hx]
      exact ⟨Int.fmod_nonneg_of_pos _ (by decide), Int.fmod_lt_of_pos _ (by decide)⟩
  · rintro ys nw ⟨rfl, zs, hzs, hzl, hzb⟩
    unfold FinE
    intro D h tk F N off
    k_steps
    refine Stop.mk ?_
    rename Fr _ _ _ _ => F5
    rename News _ _ _ _ => N5
    have hzl2 : zs.length ≤ 24 := by rw [hzl, List.size_toArray]; exact hw3
    (k_dflt (refine kmk_add_ints (ms := [5, 0, 11]) F5 N5 (N5.isList (List.mem_cons_of_mem _ List.mem_cons_self)) (N5.isList List.mem_cons_self) hzs (.cons _ _ (.cons _ _ (.cons _ _ .nil))) ?_ (by rw [sizeLine_eq]; simp only [List.length_cons, List.length_nil]; omega)))
    intro D8 w8 h8 F8 N8 l8 hi8
    k_steps
    rename News _ _ _ _ => NE
    obtain ⟨t, NE⟩ := (⟨_, NE⟩ : ∃ t, News h₀ L _ ((nl1, stO D8 0 t 0) :: (D8, listOf w8.toArray 0) :: _))
    refine ret nl1 D8 (zs ++ [5, 0, 11]) w8 t 0 0 _ _ ⟨hi8, ?_, ?_, ?_⟩ (by assumption) (fun p hp => NE p ?_) ?_ ?_
    · simp only [List.length_append, List.length_cons]; omega
    · simp only [List.length_append, List.length_cons, List.length_nil]; omega
    · intro x hx
      rcases List.mem_append.mp hx with hx | hx
      · exact hzb x hx
      · simp only [List.mem_cons, List.not_mem_nil, or_false] at hx
        rcases hx with rfl | rfl | rfl <;> decide
    · simp only [List.mem_cons] at hp ⊢
      grind
    · intro p hp
      exact l8 p (List.mem_cons_of_mem _ (List.mem_cons_of_mem _ (List.mem_cons_of_mem _ hp)))
    · exact nl2 _ List.mem_cons_self
end
end
section
set_option maxHeartbeats 1000000
abbrev FrL {h₀ h : Heap} {L : Addr} {m : Str → Option Value} (_ : Fr h₀ L h m) : Addr := L
theorem Stop.cell {M : Model} {A : Around} {env : Env} {x : Str} {v : Value} {Q : Unit → Shared → Prop} {E : Value → Shared → Prop} {s : Shared} (hx : env.kindOf x = some .cell) (h : Stop (wpAny M A (storeName env x v) Q E s)) : wpAny M A (storeName env x v) Q E s := h
section
variable {prog : Program} {w : World} {A : Around} {E : Value → Shared → Prop} {s : Shared} {env : Env} {h₀ : Heap} {L : Addr} {m : Str → Option Value}
theorem storeCell {M : Model} {x : Str} {c : Addr} {v : Value} {o : Obj} {ov : Option Value} {all rest : Led} {Q : Unit → Shared → Prop} (F : Fr h₀ L s.heap m) (N : News h₀ L s.heap all) (hk : env.scope.kind = .function) (hx : env.kindOf x = some .cell) (hc : env.cells.lookup x = some c)
    (S : Sel (c, o) all rest) (hr : ∀ p ∈ rest, p.1 ≠ c) (hd : o.data = .cell ov)
    (h : ∀ h' o', o'.data = .cell (some v) → Fr h₀ L h' m → News h₀ L h' ((c, o') :: rest) → Q () { s with heap := h' }) : wpAny M A (storeName env x v) Q E s := by
  have N1 := S.news N
  have hm := N1 _ List.mem_cons_self
  refine wpAny_storeName_cell hk hx hc ⟨o, hm.1, hd⟩ fun h' hcell hs => ?_
  obtain ⟨o', ho', hd'⟩ := hcell
  refine h h' o' hd' (F.change hs hm.2.1 hm.2.2) fun p hp => ?_
  rcases List.mem_cons.mp hp with rfl | hp
  · exact ⟨ho', hm.2⟩
  · exact ⟨hs.extBut _ _ (hr p hp) (N1 p (List.mem_cons_of_mem _ hp)).1, (N1 p (List.mem_cons_of_mem _ hp)).2⟩
theorem readCell {M : Model} {x : Str} {pos : Pos} {c : Addr} {o : Obj} {v : Value} {news : Led} {Q : Value → Shared → Prop} (N : News h₀ L s.heap news) (hk : env.scope.kind = .function) (hx : env.kindOf x = some .cell) (hc : env.cells.lookup x = some c)
    (hm : (c, o) ∈ news) (hd : o.data = .cell (some v)) (h : Q v s) (hb : (x == ("__debug__" : Str)) = false := by decide) :
    wpAny M A (eval (.Name x pos) env) Q E s := wpAny_Name (wpAny_loadName_cell hk hx hc ⟨o, N.get hm, hd⟩ h) hb
/-- two values that read as the same items -/
theorem itm_eq {x y : Value} {i : Int} (hx : ItmV x i) (hy : ItmV y i) : SeqAt.EqAt A s x y true := by
  unfold ItmV at hx hy
  by_cases hi : i = -1
  · rw [if_pos hi] at hx hy
    rw [hx, hy]
    exact SeqAt.EqAt.same _
  · rw [if_neg hi] at hx hy
    obtain ⟨t, rfl⟩ := hx
    obtain ⟨u, rfl⟩ := hy
    have := SeqAt.EqAt.int_int (A := A) (s := s) i t i u
    rwa [beq_self_eq_true] at this
theorem rl_eqAt {l : Led} {v v' : Value} {xs : List Int} (N : News h₀ L s.heap l) (h : RlIn l v xs) (h' : RlIn l v' xs) (hu : A.units < cLine) : SeqAt.EqAt A s v v' true := by
  obtain ⟨a, vs, n, rfl, hm, hi⟩ := h
  obtain ⟨b, us, n2, rfl, hm2, hj⟩ := h'
  by_cases e : a = b
  · rw [e]; exact SeqAt.EqAt.same _
  · refine SeqAt.EqAt.of_refs e ?_
    have hl : vs.toArray.size = us.toArray.size := by simp only [List.size_toArray]; rw [hi.length, hj.length]
    have := SeqAt.RcAt.lists (A := A) (e := fun _ => true) (N.isList hm) (N.isList hm2) hl hu (fun j h1 h2 => by
      simp only [List.getElem_toArray]
      have h1' : j < vs.length := by simpa using h1
      have h2' : j < us.length := by simpa using h2
      obtain ⟨x, hx, r1⟩ := hi.get j vs[j] (by rw [List.getElem?_eq_getElem])
      obtain ⟨y, hy, r2⟩ := hj.get j us[j] (by rw [List.getElem?_eq_getElem])
      rw [hx] at hy
      cases hy
      exact itm_eq r1 r2)
    rwa [List.all_eq_true.mpr (fun _ _ => rfl)] at this
theorem hits_of {K : Type} [DecidableEq K] {kb : List (K × Value)} : ∀ {r : List (K × Value)}, (∀ p ∈ r, ∃ y, valueAt kb p.1 = some y ∧ SeqAt.EqAt A s p.2 y true) → KeqHits A s kb r true
  | [], _ => .nil
  | (k, v) :: r, h => by
    obtain ⟨y, hy, he⟩ := h (k, v) List.mem_cons_self
    exact KeqHits.hit hy he (hits_of fun p hp => h p (List.mem_cons_of_mem _ hp))
theorem ne_dicts {l : Led} {d1 d2 : Value} {tb : Tb} {Q : Value → Shared → Prop} (N : News h₀ L s.heap l) (h1 : DcIn prog w RlIn l d1 tb) (h2 : DcIn prog w RlIn l d2 tb) (hu : A.units + 2 < cLine) (h : Q (.bool false) s) : wpAny (model prog w) A (compareOp .NotEq d1 d2) Q E s := by
  obtain ⟨a, oa, ka, rfl, hma, loa, hda, hca⟩ := h1
  obtain ⟨b, ob, kb, rfl, hmb, lob, hdb, hcb⟩ := h2
  refine keq_ne (knd := strKind prog w) (r := true) loa lob (kda_dict N hma hda) (kda_dict N hmb hdb) (by omega) (fun _ => hits_of fun p hp => ?_) ?_
  · obtain ⟨i, hi, rfl⟩ := List.getElem_of_mem hp
    obtain ⟨e, he, hk, hr⟩ := hca.get i ka[i] (by rw [List.getElem?_eq_getElem])
    have hil : i < kb.length := by rw [hcb.length, ← hca.length]; exact hi
    obtain ⟨e2, he2, hk2, hr2⟩ := hcb.get i kb[i] (by rw [List.getElem?_eq_getElem])
    rw [he] at he2
    cases he2
    refine ⟨kb[i].2, ?_, rl_eqAt N hr hr2 (show A.units + 1 < cLine by omega)⟩
    rw [hk, ← hk2]
    exact valueAt_nodup (isDict_nodup hdb) (i := i) (by rw [List.getElem?_eq_getElem])
  · have e : (ka.length == kb.length && true) = true := by simp [hca.length, hcb.length]
    rw [e]
    exact h
theorem list_keys {d : Addr} {o : Obj} {kvs : List (Str × Value)} {news : Led} {Q : Value → Shared → Prop} (hh : A.handled = none) (F : Fr h₀ L s.heap m) (N : News h₀ L s.heap news) (hm : (d, o) ∈ news) (lo : (d == sysModules) = false) (hd : o.IsDictOf (strKind prog w) kvs) (hc : kvs.length ≤ sizeLine)
    (h : ∀ B n h' tk vs, Fr h₀ L h' m → News h₀ L h' ((B, listOf vs.toArray n) :: news) → (∀ q ∈ news, q.1 < B) → StrsAre vs (kvs.map (·.1)) → Q (.ref B) { s with heap := h', toks := tk }) :
    wpAny (model prog w) A (call (.type "list") [.ref d]) Q E s := by
  obtain ⟨ep, hat⟩ := (kda_dict N hm hd).dictAt
  refine kdl_N (kdl_dict (knd := strKind prog w) (kvs := kvs) (ep := ep) lo) hh F N hat hc fun B n h' tk vs F' N' l1 hl hv => ?_
  refine h B n h' tk vs F' N' l1 (kdy_strs (by rw [hl, List.length_map]) fun j v hvj => ?_)
  obtain ⟨k, x, hx, hk⟩ := hv j v hvj
  obtain ⟨t, rfl⟩ := Value.isStrOf_shape hk
  exact ⟨k, by rw [List.getElem?_map, hx]; rfl, t, rfl⟩
theorem strs_at : ∀ {vs : List Value} {xs : List Str}, StrsAre vs xs → ∀ (j : Nat) (v : Value), vs[j]? = some v → ∃ x t, xs[j]? = some x ∧ v = .str x t
  | _, _, .cons y t r, 0, v, e => ⟨y, t, rfl, (Option.some.inj e).symm⟩
  | _, _, .cons y t r, j + 1, v, e => strs_at r j v e
theorem strs_len : ∀ {vs : List Value} {xs : List Str}, StrsAre vs xs → vs.length = xs.length
  | _, _, .nil => rfl
  | _, _, .cons _ _ r => by simp [strs_len r]
theorem ne_strs {l b : Addr} {vs us : List Value} {xs : List Str} {Q : Value → Shared → Prop} (hl : s.heap.IsList l vs.toArray) (hb : s.heap.IsList b us.toArray) (hi : StrsAre vs xs) (hj : StrsAre us xs) (hu : A.units < cLine) (h : Q (.bool false) s) :
    wpAny (model prog w) A (compareOp .NotEq (.ref l) (.ref b)) Q E s := by
  have hsz : vs.toArray.size = us.toArray.size := by simp only [List.size_toArray]; rw [strs_len hi, strs_len hj]
  have := SeqAt.RcNeAt.lists (A := A) (e := fun _ => true) hl hb hsz hu (fun j h1 h2 => by
    simp only [List.getElem_toArray]
    have h1' : j < vs.length := by simpa using h1
    have h2' : j < us.length := by simpa using h2
    obtain ⟨x, t, hx, e1⟩ := strs_at hi j vs[j] (by rw [List.getElem?_eq_getElem])
    obtain ⟨y, u, hy, e2⟩ := strs_at hj j us[j] (by rw [List.getElem?_eq_getElem])
    rw [hx] at hy
    cases hy
    rw [e1, e2]
    have := SeqAt.EqAt.str_str (A := A.in1) (s := s) x t x u
    rwa [beq_self_eq_true] at this)
  rw [List.all_eq_true.mpr (fun _ _ => rfl)] at this
  exact this prog w E Q h
theorem eq_empty {a b : Addr} {oa ob : Obj} {news : Led} {Q : Value → Shared → Prop} (N : News h₀ L s.heap news) (ha : (a, oa) ∈ news) (hb : (b, ob) ∈ news) (la : (a == sysModules) = false) (lb : (b == sysModules) = false) (da : oa.IsDictOf (strKind prog w) []) (db : ob.IsDictOf (strKind prog w) []) (hu : A.units < cLine) (h : Q (.bool true) s) :
    wpAny (model prog w) A (compareOp .Eq (.ref a) (.ref b)) Q E s :=
  keq_eq (knd := strKind prog w) (r := true) la lb (kda_dict N ha da) (kda_dict N hb db) hu (fun _ => .nil) h
end
end
section
set_option maxHeartbeats 1000000
/-- the cells of a frame at L, in the order of their addresses -/
def cellsOf (L : Nat) : List Obj → Led
  | [] => []
  | o :: r => (L + 1, o) :: cellsOf (L + 1) r
theorem cellsOf_gt (os : List Obj) : ∀ (L : Nat) (p : Addr × Obj), p ∈ cellsOf L os → @LT.lt Nat _ L p.1 := by
  induction os with
  | nil => intro L p hp; exact nomatch hp
  | cons o r ih =>
    intro L p hp
    rcases List.mem_cons.mp hp with e | hp
    · rw [e]; exact Nat.lt_succ_self _
    · exact Nat.lt_trans (Nat.lt_succ_self _) (ih (L + 1) p hp)
/-- nothing of l lies where one of n cells behind L lies -/
def OffC (L n : Nat) (l : Led) : Prop := ∀ p ∈ l, ∀ i : Nat, i < n → @Ne Nat p.1 (L + i + 1)
theorem OffC.append {L n : Nat} {l l' : Led} (h : OffC L n l) (k : OffC L n l') : OffC L n (l ++ l') := fun p hp => (List.mem_append.mp hp).elim (h p) (k p)
theorem OffC.sub {L n : Nat} {l l' : Led} (h : OffC L n l) (k : ∀ p ∈ l', p ∈ l) : OffC L n l' := fun p hp => h p (k p hp)
theorem OffC.cons {L n : Nat} {p : Addr × Obj} {l : Led} (h : ∀ i : Nat, i < n → @Ne Nat p.1 (L + i + 1)) (k : OffC L n l) : OffC L n (p :: l) := fun q hq => by
  rcases List.mem_cons.mp hq with rfl | hq
  · exact h
  · exact k q hq
theorem OffC.above {L n : Nat} {l : Led} (h : Above (L + n) l) : OffC L n l := fun p hp i hi => by have := h p hp; omega
theorem OffC.nil {L n : Nat} : OffC L n [] := fun _ h => nomatch h
theorem cellsOf_get : ∀ {os : List Obj} {L i : Nat} (hi : i < os.length), (L + i + 1, os[i]) ∈ cellsOf L os
  | o :: r, L, 0, _ => List.mem_cons_self
  | o :: r, L, i + 1, hi => by
    have := cellsOf_get (os := r) (L := L + 1) (i := i) (Nat.lt_of_succ_lt_succ hi)
    refine List.mem_cons_of_mem _ ?_
    have e : L + (i + 1) + 1 = L + 1 + i + 1 := by omega
    rw [e]
    exact this
theorem OffC.apart {L : Nat} {os : List Obj} {l base : Led} (h : Apart l base) (k : ∀ p ∈ cellsOf L os, p ∈ base) : OffC L os.length l := fun p hp i hi => h p hp _ (k _ (cellsOf_get hi))
theorem OffC.of_ne {L : Nat} {os : List Obj} {d : Addr} (h : ∀ q ∈ cellsOf L os, q.1 ≠ d) : ∀ i : Nat, i < os.length → @Ne Nat d (L + i + 1) := fun i hi e => h _ (cellsOf_get hi) e.symm
theorem OffC.of_lt {L n : Nat} {d : Addr} (h : @LT.lt Nat _ (L + n) d) : ∀ i : Nat, i < n → @Ne Nat d (L + i + 1) := fun i hi => by show @Ne Nat _ _; omega
/-- the names in the order in which they first come -/
def dueStep (due : List Str) (tb : Tb) : List Str := due ++ (tb.map (·.1)).filter fun k => !(due.any (· == k))
def dueOf (tbs : List Tb) : List Str := tbs.foldl dueStep []
theorem dueOf_snoc (tbs : List Tb) (tb : Tb) : dueOf (tbs ++ [tb]) = dueStep (dueOf tbs) tb := by simp [dueOf]
theorem strs_append : ∀ {a b : List Value} {x y : List Str}, StrsAre a x → StrsAre b y → StrsAre (a ++ b) (x ++ y)
  | _, _, _, _, .nil, k => k
  | _, _, _, _, .cons y t h, k => .cons y t (strs_append h k)
theorem dueStep_len (due : List Str) (tb : Tb) : (dueStep due tb).length ≤ due.length + tb.length := by
  unfold dueStep
  rw [List.length_append]
  have := List.length_filter_le (fun k => !(due.any (· == k))) (tb.map (·.1))
  rw [List.length_map] at this
  omega
theorem dueOf_len_aux : ∀ (tbs : List Tb) (due : List Str), (∀ tb ∈ tbs, tb.length ≤ 3) → (tbs.foldl dueStep due).length ≤ due.length + 3 * tbs.length
  | [], due, _ => by simp
  | tb :: r, due, h => by
    have h1 := dueOf_len_aux r (dueStep due tb) fun x hx => h x (List.mem_cons_of_mem _ hx)
    have h2 := dueStep_len due tb
    have h3 := h tb List.mem_cons_self
    simp only [List.foldl_cons, List.length_cons]
    omega
theorem dueOf_len (tbs : List Tb) (h : ∀ tb ∈ tbs, tb.length ≤ 3) : (dueOf tbs).length ≤ 3 * tbs.length := by
  have := dueOf_len_aux tbs [] h
  simpa [dueOf] using this
theorem cells_split {base : Led} : ∀ {os : List Obj} {L i : Nat} (hi : i < os.length), ∃ rest, Sel (L + i + 1, os[i]) (cellsOf L os ++ base) rest ∧ (∀ o', ∀ p ∈ cellsOf L (os.set i o') ++ base, p = (L + i + 1, o') ∨ p ∈ rest) ∧ ∀ p ∈ rest, p ∈ base ∨ @Ne Nat p.1 (L + i + 1)
  | o :: r, L, 0, _ => by
    refine ⟨cellsOf (L + 1) r ++ base, .head, fun o' p hp => ?_, fun p hp => ?_⟩
    · exact List.mem_cons.mp hp
    · rcases List.mem_append.mp hp with hp | hp
      · right
        have := cellsOf_gt r (L + 1) p hp
        omega
      · exact .inl hp
  | o :: r, L, i + 1, hi => by
    obtain ⟨rest, S, h1, h2⟩ := cells_split (base := base) (os := r) (L := L + 1) (i := i) (Nat.lt_of_succ_lt_succ hi)
    have e : L + (i + 1) + 1 = L + 1 + i + 1 := by omega
    rw [e]
    refine ⟨(L + 1, o) :: rest, .tail S, fun o' p hp => ?_, fun p hp => ?_⟩
    · rcases List.mem_cons.mp hp with rfl | hp
      · exact .inr List.mem_cons_self
      · exact (h1 o' p hp).imp_right (List.mem_cons_of_mem _)
    · rcases List.mem_cons.mp hp with rfl | hp
      · right; dsimp only; omega
      · exact h2 p hp
section
variable {prog : Program} {w : World} {A : Around} {E : Value → Shared → Prop} {s : Shared} {env : Env} {h₀ : Heap} {L : Addr} {m : Str → Option Value}
theorem storeAt {M : Model} {x : Str} {v : Value} {ov : Option Value} {os : List Obj} {base : Led} {L' : Nat} {Q : Unit → Shared → Prop} (i : Nat) (F : Fr h₀ L s.heap m) (N : News h₀ L s.heap (cellsOf L' os ++ base)) (hi : i < os.length) (hk : env.scope.kind = .function) (hx : env.kindOf x = some .cell) (hc : env.cells.lookup x = some (L' + i + 1))
    (hd : os[i].data = .cell ov) (off : OffC L' os.length base)
    (h : ∀ h' o', o'.data = .cell (some v) → Fr h₀ L h' m → News h₀ L h' (cellsOf L' (os.set i o') ++ base) → Q () { s with heap := h' }) : wpAny M A (storeName env x v) Q E s := by
  obtain ⟨rest, S, h1, h2⟩ := cells_split (base := base) (L := L') hi
  refine storeCell F N hk hx hc S (fun p hp => ?_) hd fun h' o' ho F' N' => h h' o' ho F' fun p hp => ?_
  · rcases h2 p hp with hb | hb
    · exact off p hb i hi
    · exact hb
  · rcases h1 o' p hp with rfl | hr
    · exact N' _ List.mem_cons_self
    · exact N' _ (List.mem_cons_of_mem _ hr)
end
end
section
set_option maxHeartbeats 1000000
def rowsFor (k : Str) (tbs : List Tb) : List (List Int) := tbs.filterMap fun tb => tb.lookup k
def plainTb (tb : Tb) : Tb := tb.map fun e => (e.1, e.2.filter fun x => decide (x ≠ -1))
theorem lookup_mem {k : Str} {x : List Int} : ∀ {tb : Tb}, tb.lookup k = some x → (k, x) ∈ tb
  | (k', y) :: r, h => by
    by_cases e : k = k'
    · subst e
      simp [List.lookup_cons] at h
      subst h
      exact List.mem_cons_self
    · have e' : (k == k') = false := by simpa using e
      simp only [List.lookup_cons, e'] at h
      exact List.mem_cons_of_mem _ (lookup_mem h)
theorem ls_rl {l : Led} {v : Value} {xs : List Int} (h : LsIn l v xs) (hx : ∀ x ∈ xs, x ≠ -1) : RlIn l v xs := by
  obtain ⟨a, vs, n, rfl, hm, hi⟩ := h
  refine ⟨a, vs, n, rfl, hm, ?_⟩
  clear hm
  induction hi with
  | nil => exact .nil
  | cons j t r ih => exact .cons (by unfold ItmV; rw [if_neg (hx j List.mem_cons_self)]; exact ⟨t, rfl⟩) (ih fun x h => hx x (List.mem_cons_of_mem _ h))
theorem plain_rl {l : Led} : ∀ {pairs : List (Str × Value)} {tb : Tb}, DcOf (LsIn l) pairs (plainTb tb) → DcOf (RlIn l) pairs (plainTb tb)
  | _, [], .nil => .nil
  | _, e :: r, .cons h k => .cons ⟨h.1, ls_rl h.2 fun x hx => by
      have := (List.mem_filter.mp hx).2
      simpa using this⟩ (plain_rl (tb := r) k)
theorem plainTb_len (tb : Tb) : (plainTb tb).length = tb.length := by simp [plainTb]
theorem plainTb_4 {tb : Tb} (h : ∀ e ∈ tb, e.2.length ≤ 4) : ∀ e ∈ plainTb tb, e.2.length ≤ 4 := by
  intro e he
  obtain ⟨e', he', rfl⟩ := List.mem_map.mp he
  exact Nat.le_trans (List.length_filter_le _ _) (h e' he')
/-- what the state holds where a table without the word stands ahead of all -/
def pick (P : Tb) (tbs : List Tb) (k : Str) : List Int := (P.lookup k).getD (lm (rowsFor k tbs))
end
section
set_option maxHeartbeats 1000000
abbrev S1 := Option (List Int × Option Nat)
def step1 (o : S1) (x : List Int) : S1 :=
  match o with
  | none => some (x, place x)
  | some (cur, none) => some (cur, none)
  | some (cur, some i) => some (cur.take i ++ x ++ cur.drop (i + 1), (place x).map (i + ·))
def ef (k : Str) (es : Tb) : List (List Int) := (es.filter fun e => decide (e.1 = k)).map (·.2)
def Rep (st : Tb × Hm) (f : Str → S1) : Prop := ∀ k, st.1.lookup k = (f k).map (·.1) ∧ st.2.lookup k = (f k).bind (·.2)
theorem lookup_one {β : Type} (k a : Str) (b : β) : List.lookup k [(a, b)] = if k = a then some b else none := by
  by_cases h : k = a
  · subst h; simp [List.lookup_cons]
  · have : (k == a) = false := by simpa using h
    simp [List.lookup_cons, this, h]
theorem lookup_setTb (a : Str) (y : List Int) (k : Str) : ∀ T : Tb, (setTb T a y).lookup k = if k = a then (T.lookup k).map (fun _ => y) else T.lookup k
  | [] => by simp [setTb]
  | (k', x) :: r => by
    have ih := lookup_setTb a y k r
    by_cases h1 : k' = a
    · subst h1
      by_cases h2 : k = k'
      · subst h2; simp [setTb, List.lookup_cons]
      · have e : (k == k') = false := by simpa using h2
        simp [setTb, List.lookup_cons, e, h2]
    · by_cases h2 : k = k'
      · subst h2
        simp [setTb, h1, List.lookup_cons]
      · have e : (k == k') = false := by simpa using h2
        simp only [setTb, if_neg h1, List.lookup_cons, e]
        exact ih
theorem lookup_dropH (a k : Str) : ∀ H : Hm, (dropH H a).lookup k = if k = a then none else H.lookup k
  | [] => by simp [dropH]
  | (k', i) :: r => by
    have ih := lookup_dropH a k r
    unfold dropH at ih ⊢
    by_cases h1 : k' = a
    · rw [List.filter_cons_of_neg (by simp [h1]), ih]
      by_cases h2 : k = a
      · simp [h2]
      · have e : (k == k') = false := by simpa [h1] using h2
        simp only [if_neg h2, List.lookup_cons, e]
    · rw [List.filter_cons_of_pos (by simp [h1])]
      by_cases h2 : k = k'
      · subst h2
        simp [List.lookup_cons, h1]
      · have e : (k == k') = false := by simpa using h2
        simp only [List.lookup_cons, e]
        exact ih
theorem rep_step {st : Tb × Hm} {f : Str → S1} (h : Rep st f) (e : Str × List Int) : Rep (mstep st e) (fun k => if k = e.1 then step1 (f k) e.2 else f k) := by
  obtain ⟨T, H⟩ := st
  obtain ⟨a, x⟩ := e
  obtain ⟨h1, h2⟩ := h a
  dsimp only at h1 h2
  intro k
  obtain ⟨g1, g2⟩ := h k
  dsimp only at g1 g2
  cases hf : f a with
  | none =>
    rw [hf] at h1 h2
    simp only [Option.map_none, Option.bind_none] at h1 h2
    simp only [mstep, h1]
    by_cases hk : k = a
    · subst hk
      rw [if_pos rfl, hf]
      constructor
      · simp [List.lookup_append, h1, lookup_one, step1]
      · cases hp : place x with
        | none => simp [h2, step1, hp]
        | some i => simp [List.lookup_append, h2, lookup_one, step1, hp]
    · rw [if_neg hk]
      constructor
      · simp [List.lookup_append, g1, lookup_one, hk]
      · cases hp : place x with
        | none => exact g2
        | some i => simp [List.lookup_append, g2, lookup_one, hk]
  | some c =>
    obtain ⟨cur, oi⟩ := c
    rw [hf] at h1 h2
    simp only [Option.map_some, Option.bind_some] at h1 h2
    cases oi with
    | none =>
      simp only [mstep, h1, h2]
      by_cases hk : k = a
      · subst hk
        rw [if_pos rfl]
        rw [hf] at g1 g2 ⊢
        exact ⟨g1, g2⟩
      · rw [if_neg hk]
        exact ⟨g1, g2⟩
    | some i =>
      simp only [mstep, h1, h2]
      by_cases hk : k = a
      · subst hk
        rw [if_pos rfl, hf]
        constructor
        · simp [lookup_setTb, h1, step1]
        · cases hp : place x with
          | none => simp [lookup_dropH, step1, hp]
          | some j => simp [List.lookup_append, lookup_dropH, lookup_one, step1, hp]
      · rw [if_neg hk]
        constructor
        · simp [lookup_setTb, hk, g1]
        · cases hp : place x with
          | none => simp [lookup_dropH, hk, g2]
          | some j => simp [List.lookup_append, lookup_dropH, lookup_one, hk, g2]
theorem rep_run : ∀ (es : Tb) {st : Tb × Hm} {f : Str → S1}, Rep st f → Rep (es.foldl mstep st) (fun k => (ef k es).foldl step1 (f k))
  | [], _, _, h => h
  | e :: r, st, f, h => by
    have := rep_run r (rep_step h e)
    intro k
    have q := this k
    by_cases hk : k = e.1
    · have e1 : ef k (e :: r) = e.2 :: ef k r := by simp [ef, hk]
      dsimp only at q ⊢
      rw [e1]
      rw [if_pos hk] at q
      exact q
    · have e1 : ef k (e :: r) = ef k r := by simp [ef, Ne.symm hk]
      dsimp only at q ⊢
      rw [e1]
      rw [if_neg hk] at q
      exact q
def srun (rows : List (List Int)) : S1 := rows.foldl step1 none
theorem rep_mrun (es : Tb) : Rep (mrun es) (fun k => srun (ef k es)) := rep_run es (st := ([], [])) (f := fun _ => none) fun k => ⟨rfl, rfl⟩
/-- the names, each where it first comes -/
def keysStep (due : List Str) (k : Str) : List Str := if due.any (· == k) then due else due ++ [k]
theorem any_mem (due : List Str) (k : Str) : due.any (· == k) = decide (k ∈ due) := by
  induction due with
  | nil => simp
  | cons a r ih =>
    rw [List.any_cons, ih]
    by_cases h : a = k
    · simp [h]
    · have e : (a == k) = false := by simpa using h
      simp [e, Ne.symm h]
theorem lookup_none_iff : ∀ (T : Tb) (k : Str), T.lookup k = none ↔ k ∉ T.map (·.1)
  | [], k => by simp
  | (k', x) :: r, k => by
    by_cases h : k = k'
    · subst h; simp
    · have e : (k == k') = false := by simpa using h
      simp only [List.lookup_cons, e, lookup_none_iff r k, List.map_cons, List.mem_cons, h, false_or]
theorem setTb_keys (a : Str) (y : List Int) : ∀ T : Tb, (setTb T a y).map (·.1) = T.map (·.1)
  | [] => rfl
  | (k', x) :: r => by
    by_cases h : k' = a
    · simp [setTb, h]
    · simp [setTb, h, setTb_keys a y r]
theorem mstep_keys (st : Tb × Hm) (e : Str × List Int) : (mstep st e).1.map (·.1) = keysStep (st.1.map (·.1)) e.1 := by
  obtain ⟨T, H⟩ := st
  obtain ⟨a, x⟩ := e
  unfold keysStep
  rw [any_mem]
  dsimp only
  cases hT : T.lookup a with
  | none =>
    have := (lookup_none_iff T a).mp hT
    rw [decide_eq_false this]
    simp [mstep, hT]
  | some cur =>
    have hm : a ∈ T.map (·.1) := by
      by_cases h : a ∈ T.map (·.1)
      · exact h
      · rw [(lookup_none_iff T a).mpr h] at hT; cases hT
    rw [decide_eq_true hm]
    simp only [mstep, hT, if_true]
    cases hH : H.lookup a with
    | none => rfl
    | some i => exact setTb_keys _ _ _
theorem mrun_keys_aux : ∀ (es : Tb) (st : Tb × Hm), (es.foldl mstep st).1.map (·.1) = (es.map (·.1)).foldl keysStep (st.1.map (·.1))
  | [], st => rfl
  | e :: r, st => by
    have := mrun_keys_aux r (mstep st e)
    rw [mstep_keys] at this
    exact this
theorem keys_fold : ∀ (ks due : List Str), ks.Nodup → ks.foldl keysStep due = due ++ ks.filter fun k => !(due.any (· == k))
  | [], due, _ => by simp
  | k :: ks, due, h => by
    have hn := List.nodup_cons.mp h
    have ih := keys_fold ks (keysStep due k) hn.2
    rw [List.foldl_cons, ih]
    unfold keysStep
    cases hb : due.any (· == k) with
    | true => simp [hb]
    | false =>
      simp only [hb, Bool.false_eq_true, if_false, Bool.not_false, List.filter_cons, if_true, List.append_assoc, List.singleton_append]
      congr 2
      apply List.filter_congr
      intro y hy
      have : y ≠ k := fun e => hn.1 (e ▸ hy)
      have e : (k == y) = false := by simpa using this.symm
      simp [e]
theorem due_keys : ∀ (tbs : List Tb) (due : List Str), (∀ tb ∈ tbs, (tb.map (·.1)).Nodup) → tbs.foldl dueStep due = (tbs.flatten.map (·.1)).foldl keysStep due
  | [], due, _ => rfl
  | tb :: r, due, h => by
    rw [List.foldl_cons, due_keys r _ fun x hx => h x (List.mem_cons_of_mem _ hx), List.flatten_cons, List.map_append, List.foldl_append, keys_fold _ _ (h tb List.mem_cons_self)]
    rfl
theorem mrun_keys {tbs : List Tb} (hn : ∀ tb ∈ tbs, (tb.map (·.1)).Nodup) : (mrun tbs.flatten).1.map (·.1) = dueOf tbs := by
  unfold mrun dueOf
  rw [mrun_keys_aux, due_keys _ _ hn]
  rfl
theorem keysStep_nodup {due : List Str} {k : Str} (h : due.Nodup) : (keysStep due k).Nodup := by
  unfold keysStep
  rw [any_mem]
  by_cases hk : k ∈ due
  · rw [decide_eq_true hk]; exact h
  · rw [decide_eq_false hk]
    simp only [Bool.false_eq_true, if_false]
    refine List.nodup_append.mpr ⟨h, by simp, fun a ha b hb e => ?_⟩
    rw [List.mem_singleton.mp hb] at e
    exact hk (e ▸ ha)
theorem fold_nodup : ∀ (ks : List Str) {due : List Str}, due.Nodup → (ks.foldl keysStep due).Nodup
  | [], _, h => h
  | k :: ks, _, h => fold_nodup ks (keysStep_nodup h)
theorem due_nodup {tbs : List Tb} (hn : ∀ tb ∈ tbs, (tb.map (·.1)).Nodup) : (dueOf tbs).Nodup := by
  unfold dueOf
  rw [due_keys _ _ hn]
  exact fold_nodup _ List.nodup_nil
theorem ef_tb (k : Str) : ∀ {tb : Tb}, (tb.map (·.1)).Nodup → ef k tb = (tb.lookup k).toList
  | [], _ => rfl
  | (k', x) :: r, h => by
    have hn : k' ∉ r.map (·.1) ∧ (r.map (·.1)).Nodup := List.nodup_cons.mp h
    by_cases hk : k' = k
    · subst hk
      have e : r.lookup k' = none := (lookup_none_iff r k').mpr hn.1
      have ih := ef_tb k' hn.2
      rw [e] at ih
      have e2 : ef k' ((k', x) :: r) = x :: ef k' r := by simp [ef]
      rw [e2, ih]
      simp [List.lookup_cons]
    · have e : (k == k') = false := by simpa using Ne.symm hk
      have e2 : ef k ((k', x) :: r) = ef k r := by simp [ef, hk]
      rw [e2, ef_tb k hn.2, List.lookup_cons, e]
theorem ef_flat (k : Str) : ∀ {tbs : List Tb}, (∀ tb ∈ tbs, (tb.map (·.1)).Nodup) → ef k tbs.flatten = rowsFor k tbs
  | [], _ => rfl
  | tb :: r, h => by
    have ih := ef_flat k (tbs := r) fun x hx => h x (List.mem_cons_of_mem _ hx)
    have e : ef k (tb ++ r.flatten) = ef k tb ++ ef k r.flatten := by simp [ef]
    rw [List.flatten_cons, e, ih, ef_tb k (h tb List.mem_cons_self)]
    unfold rowsFor
    cases hl : tb.lookup k with
    | none => simp [hl]
    | some x => simp [hl]
theorem step_stop (cur : List Int) : ∀ rows : List (List Int), rows.foldl step1 (some (cur, none)) = some (cur, none)
  | [] => rfl
  | x :: r => step_stop cur r
theorem step_lm : ∀ (rows : List (List Int)) (cur : List Int) (i : Nat), i < cur.length → (rows.foldl step1 (some (cur, some i))).map (·.1) = some (if rows = [] then cur else cur.take i ++ lm rows ++ cur.drop (i + 1))
  | [], cur, i, _ => by simp
  | [x], cur, i, _ => by simp [step1, lm]
  | x :: y :: r, cur, i, hi => by
    show ((y :: r).foldl step1 (some (cur.take i ++ x ++ cur.drop (i + 1), (place x).map (i + ·)))).map (·.1) = _
    rw [if_neg (by simp)]
    cases hp : place x with
    | none =>
      rw [Option.map_none, step_stop]
      simp [lm, hp]
    | some j =>
      have hj := place_lt hp
      have hti : (cur.take i).length = i := by rw [List.length_take]; omega
      rw [Option.map_some, step_lm (y :: r) _ (i + j) (by simp only [List.length_append, List.length_take, List.length_drop]; omega), if_neg (by simp)]
      congr 1
      have e1 : (cur.take i ++ x ++ cur.drop (i + 1)).take (i + j) = cur.take i ++ x.take j := by
        rw [List.append_assoc, List.take_append, hti, List.take_of_length_le (by omega), Nat.add_sub_cancel_left, List.take_append_of_le_length (by omega)]
      have e2 : (cur.take i ++ x ++ cur.drop (i + 1)).drop (i + j + 1) = x.drop (j + 1) ++ cur.drop (i + 1) := by
        rw [List.append_assoc, List.drop_append, hti, List.drop_of_length_le (by omega), show i + j + 1 - i = j + 1 by omega, List.drop_append_of_le_length (by omega), List.nil_append]
      rw [e1, e2]
      simp only [lm, hp, List.append_assoc]
theorem srun_lm : ∀ (rows : List (List Int)), rows ≠ [] → (srun rows).map (·.1) = some (lm rows)
  | [], h => absurd rfl h
  | [x], _ => by simp [srun, step1, lm]
  | x :: y :: r, _ => by
    show ((y :: r).foldl step1 (some (x, place x))).map (·.1) = _
    cases hp : place x with
    | none => rw [step_stop]; simp [lm, hp]
    | some i =>
      rw [step_lm _ _ _ (place_lt hp), if_neg (by simp)]
      simp [lm, hp]
theorem mrun_at {tbs : List Tb} (hn : ∀ tb ∈ tbs, (tb.map (·.1)).Nodup) {k : Str} (hk : k ∈ dueOf tbs) : rowsFor k tbs ≠ [] ∧ (mrun tbs.flatten).1.lookup k = some (lm (rowsFor k tbs)) := by
  have h := (rep_mrun tbs.flatten k).1
  dsimp only at h
  rw [ef_flat k hn] at h
  have hne : rowsFor k tbs ≠ [] := fun e => by
    rw [e] at h
    have h' : (mrun tbs.flatten).1.lookup k = none := h
    have := (lookup_none_iff _ k).mp h'
    rw [mrun_keys hn] at this
    exact this hk
  refine ⟨hne, ?_⟩
  rw [h, srun_lm _ hne]
end
section
set_option maxHeartbeats 1000000
theorem setTb_len (a : Str) (y : List Int) : ∀ T : Tb, (setTb T a y).length = T.length
  | [] => rfl
  | (k', x) :: r => by
    by_cases h : k' = a
    · simp [setTb, h]
    · simp [setTb, h, setTb_len a y r]
theorem setTb_mem (a : Str) (y : List Int) : ∀ (T : Tb) (e : Str × List Int), e ∈ setTb T a y → e ∈ T ∨ e.2 = y
  | (k', x) :: r, e, h => by
    unfold setTb at h
    by_cases hk : k' = a
    · rw [if_pos hk] at h
      rcases List.mem_cons.mp h with rfl | h
      · exact .inr rfl
      · exact .inl (List.mem_cons_of_mem _ h)
    · rw [if_neg hk] at h
      rcases List.mem_cons.mp h with rfl | h
      · exact .inl List.mem_cons_self
      · exact (setTb_mem a y r e h).imp_left (List.mem_cons_of_mem _)
structure Sz (n : Nat) (st : Tb × Hm) : Prop where
  a : st.1.length ≤ n
  b : st.2.length ≤ n
  c : ∀ e ∈ st.1, e.2.length ≤ 4 * n
theorem sz_step {n : Nat} {st : Tb × Hm} (h : Sz n st) (e : Str × List Int) (he : e.2.length ≤ 4) : Sz (n + 1) (mstep st e) := by
  obtain ⟨T, H⟩ := st
  obtain ⟨k, x⟩ := e
  obtain ⟨ha, hb, hc⟩ := h
  dsimp only at ha hb hc he
  have hd : (dropH H k).length ≤ H.length := List.length_filter_le _ _
  cases hT : T.lookup k with
  | none =>
    simp only [mstep, hT]
    refine ⟨by simp only [List.length_append, List.length_singleton]; omega, ?_, fun e he2 => ?_⟩
    · cases place x with
      | none => exact Nat.le_succ_of_le hb
      | some i => simp only [List.length_append, List.length_singleton]; omega
    · rcases List.mem_append.mp he2 with he2 | he2
      · have := hc e he2; omega
      · rw [List.mem_singleton.mp he2]; dsimp only; omega
  | some cur =>
    have hcur : cur.length ≤ 4 * n := hc _ (lookup_mem hT)
    cases hH : H.lookup k with
    | none =>
      simp only [mstep, hT, hH]
      exact ⟨by dsimp only; omega, by dsimp only; omega, fun e he2 => by have := hc e he2; omega⟩
    | some i =>
      simp only [mstep, hT, hH]
      refine ⟨?_, ?_, fun e he2 => ?_⟩
      · dsimp only; rw [setTb_len]; omega
      · cases place x with
        | none => dsimp only; omega
        | some j => simp only [List.length_append, List.length_singleton]; omega
      · rcases setTb_mem _ _ _ _ he2 with he2 | he2
        · have := hc e he2; omega
        · rw [he2]
          simp only [List.length_append, List.length_take, List.length_drop]
          omega
theorem sz_run : ∀ (es : Tb) {n : Nat} {st : Tb × Hm}, Sz n st → (∀ e ∈ es, e.2.length ≤ 4) → Sz (n + es.length) (es.foldl mstep st)
  | [], _, _, h, _ => h
  | e :: r, n, st, h, h4 => by
    have := sz_run r (sz_step h e (h4 e List.mem_cons_self)) fun x hx => h4 x (List.mem_cons_of_mem _ hx)
    have e1 : n + (e :: r).length = n + 1 + r.length := by simp only [List.length_cons]; omega
    rw [e1]
    exact this
theorem step_in : ∀ (rows : List (List Int)) (o : S1), (∀ cur i, o = some (cur, some i) → i < cur.length) → ∀ cur i, rows.foldl step1 o = some (cur, some i) → i < cur.length
  | [], o, h, cur, i, e => h cur i e
  | x :: r, o, h, cur, i, e => by
    refine step_in r (step1 o x) (fun c j hj => ?_) cur i e
    cases o with
    | none =>
      simp only [step1, Option.some.injEq, Prod.mk.injEq] at hj
      obtain ⟨rfl, hp⟩ := hj
      exact place_lt hp
    | some p =>
      obtain ⟨c0, oi⟩ := p
      cases oi with
      | none =>
        simp only [step1, Option.some.injEq, Prod.mk.injEq] at hj
        cases hj.2
      | some i0 =>
        have h0 := h c0 i0 rfl
        simp only [step1, Option.some.injEq, Prod.mk.injEq] at hj
        obtain ⟨rfl, hp⟩ := hj
        obtain ⟨j0, hj0, rfl⟩ := Option.map_eq_some_iff.mp hp
        have := place_lt hj0
        simp only [List.length_append, List.length_take, List.length_drop]
        omega
theorem flat_len : ∀ {tbs : List Tb}, (∀ tb ∈ tbs, tb.length ≤ 3) → tbs.flatten.length ≤ 3 * tbs.length
  | [], _ => by simp
  | tb :: r, h => by
    have h1 := h tb List.mem_cons_self
    have h2 := flat_len (tbs := r) fun x hx => h x (List.mem_cons_of_mem _ hx)
    simp only [List.flatten_cons, List.length_append, List.length_cons]
    omega
theorem mok_all {tbs : List Tb} (hlen : tbs.length ≤ 5) (h3 : ∀ tb ∈ tbs, tb.length ≤ 3) (h4 : ∀ tb ∈ tbs, ∀ e ∈ tb, e.2.length ≤ 4) : ∀ pre, pre <+: tbs.flatten → MOk (mrun pre) := by
  intro pre hp
  have hl : pre.length ≤ 15 := Nat.le_trans hp.length_le (Nat.le_trans (flat_len h3) (by omega))
  have hsz : Sz pre.length (mrun pre) := by
    have := sz_run pre (n := 0) (st := ([], [])) ⟨Nat.le_refl _, Nat.le_refl _, fun _ h => nomatch h⟩ fun e he => by
      obtain ⟨tb, htb, he2⟩ := List.mem_flatten.mp (hp.subset he)
      exact h4 tb htb e he2
    rw [Nat.zero_add] at this
    exact this
  have hrep := rep_mrun pre
  have hin : ∀ k i cur, (mrun pre).2.lookup k = some i → (mrun pre).1.lookup k = some cur → i < cur.length := by
    intro k i cur h1 h2
    obtain ⟨g1, g2⟩ := hrep k
    dsimp only at g1 g2
    rw [g1] at h2
    rw [g2] at h1
    cases hs : srun (ef k pre) with
    | none => rw [hs] at h2; cases h2
    | some p =>
      obtain ⟨c, oi⟩ := p
      rw [hs] at h1 h2
      have h1' : oi = some i := h1
      have h2' : c = cur := Option.some.inj h2
      subst h1' h2'
      exact step_in _ none (fun _ _ h => nomatch h) _ _ hs
  refine ⟨by have := hsz.a; omega, by have := hsz.b; omega, fun e he => by have := hsz.c e he; omega, ?_, ?_, hin⟩
  · intro k i h1
    obtain ⟨g1, g2⟩ := hrep k
    dsimp only at g1 g2
    cases hs : srun (ef k pre) with
    | none => rw [g2, hs] at h1; cases h1
    | some p =>
      rw [hs] at g1
      have h2 : (mrun pre).1.lookup k = some p.1 := g1
      have := hin k i p.1 h1 h2
      have := hsz.c _ (lookup_mem h2)
      dsimp only at this
      omega
  · intro k h1
    obtain ⟨g1, g2⟩ := hrep k
    dsimp only at g1 g2
    rw [g1] at h1
    rw [g2]
    cases hs : srun (ef k pre) with
    | none => rfl
    | some p => rw [hs] at h1; cases h1
theorem table_of : ∀ {T : Tb} {g : Str → List Int}, (T.map (·.1)).Nodup → (∀ k ∈ T.map (·.1), T.lookup k = some (g k)) → T = (T.map (·.1)).map fun k => (k, g k)
  | [], _, _, _ => rfl
  | (k, x) :: r, g, hn, h => by
    have hn' : k ∉ r.map (·.1) ∧ (r.map (·.1)).Nodup := List.nodup_cons.mp hn
    have h0 : some x = some (g k) := by
      have := h k List.mem_cons_self
      simpa [List.lookup_cons] using this
    have ih := table_of (T := r) (g := g) hn'.2 fun k' hk' => by
      have h1 := h k' (List.mem_cons_of_mem _ hk')
      have : k' ≠ k := fun e => hn'.1 (e ▸ hk')
      have e : (k' == k) = false := by simpa using this
      simpa only [List.lookup_cons, e] using h1
    rw [List.map_cons, List.map_cons, ← Option.some.inj h0, ← ih]
theorem place_none : ∀ {xs : List Int}, (∀ x ∈ xs, x ≠ -1) → place xs = none
  | [], _ => rfl
  | x :: r, h => by
    unfold place
    rw [if_neg (h x List.mem_cons_self), place_none fun y hy => h y (List.mem_cons_of_mem _ hy)]
    rfl
theorem lm_plain {p : List Int} (h : place p = none) (rows : List (List Int)) : lm (p :: rows) = p := by
  cases rows with
  | nil => rfl
  | cons y r => simp only [lm, h]
theorem plainTb_keys (tb : Tb) : (plainTb tb).map (·.1) = tb.map (·.1) := by
  simp [plainTb, List.map_map]
theorem plain_law {tb : Tb} {r : List Tb} (hn : ∀ x ∈ tb :: r, (x.map (·.1)).Nodup) :
    (mrun (plainTb tb :: tb :: r).flatten).1 = (dueOf (tb :: r)).map fun k => (k, pick (plainTb tb) (tb :: r) k) := by
  have hn2 : ∀ x ∈ plainTb tb :: tb :: r, (x.map (·.1)).Nodup := fun x hx => by
    rcases List.mem_cons.mp hx with rfl | hx
    · rw [plainTb_keys]; exact hn tb List.mem_cons_self
    · exact hn x hx
  have hdue : dueOf (plainTb tb :: tb :: r) = dueOf (tb :: r) := by
    unfold dueOf
    simp only [List.foldl_cons]
    congr 1
    have e1 : dueStep [] (plainTb tb) = tb.map (·.1) := by simp [dueStep, plainTb_keys]
    have e2 : dueStep [] tb = tb.map (·.1) := by simp [dueStep]
    rw [e1, e2]
    unfold dueStep
    have : (tb.map (·.1)).filter (fun k => !((tb.map (·.1)).any (· == k))) = [] := by
      apply List.filter_eq_nil_iff.mpr
      intro k hk
      rw [any_mem, decide_eq_true hk]
      simp
    rw [this, List.append_nil]
  have hkeys := mrun_keys hn2
  rw [hdue] at hkeys
  have hnd := due_nodup hn
  rw [← hkeys] at hnd
  have := table_of (g := pick (plainTb tb) (tb :: r)) hnd fun k hk => by
    rw [hkeys, ← hdue] at hk
    rw [(mrun_at hn2 hk).2]
    congr 1
    unfold pick
    have e : rowsFor k (plainTb tb :: tb :: r) = ((plainTb tb).lookup k).toList ++ rowsFor k (tb :: r) := by
      simp only [rowsFor, List.filterMap_cons]
      cases hl : (plainTb tb).lookup k with
      | none => rfl
      | some p => rfl
    rw [e]
    cases hl : (plainTb tb).lookup k with
    | none => rfl
    | some p =>
      refine lm_plain (place_none fun x hx => ?_) _
      obtain ⟨e', he', heq⟩ := List.mem_map.mp (lookup_mem hl)
      have e2 : e'.2.filter (fun x => decide (x ≠ -1)) = p := congrArg Prod.snd heq
      rw [← e2] at hx
      simpa using (List.mem_filter.mp hx).2
  rw [hkeys] at this
  exact this
end
section
set_option maxHeartbeats 8000000
theorem calmM10 : True := by
  w_top off
  trivial
section
open LCg LCt
local macro_rules | `(tactic| k_all) => `(tactic| first | assumption | exact Above.ne (by assumption) (by omega) | (refine forall_append ?_ ?_ <;> k_all))
local macro_rules | `(tactic| k_mem) => `(tactic| first | assumption | exact List.mem_cons_self | (refine List.mem_cons_of_mem _ ?_; k_mem))
local macro_rules | `(tactic| walk_at "eval ListComp") => `(tactic| (refine Stop.out ?_))
local macro_rules | `(tactic| walk_at "call ref") => `(tactic| (refine Stop.out ?_))
local macro_rules | `(tactic| walk_at "storeName") => `(tactic| (with_unfolding_all refine Stop.cell (by rfl) ?_))
local macro_rules | `(tactic| walk_at "eval Name") => `(tactic| (k_dflt (refine' readCell ?N ?k ?x ?c ?m ?d ?_ ?b; (case k => rfl); (case x => rfl); (case c => rfl); (case N => k_asm); (case m => k_mem); (case d => k_asm); (case b => decide))))
local macro_rules | `(tactic| walk_at "exec Assign cons ListComp") => `(tactic| (refine Stop.out ?_))
set_option hygiene false in
local macro_rules | `(tactic| walk_at "exec For Name Call cons nil") => `(tactic| ((rename Fr _ _ _ _ => lF'); (with_unfolding_all refine' For_turns lF' ?_); k_whole))
set_option hygiene false in
local macro_rules | `(tactic| walk_at "call type:range") => `(tactic| (refine range1_rows (by assumption) (by assumption) ?_; intro h' tk' t1' u1' v1' hrg' F' N' hk'))
local macro_rules | `(tactic| walk_at "pyIter ref") => `(tactic| (refine Stop.out ?_))
local macro_rules | `(tactic| walk_at "compareOp NotIn str ref") => `(tactic| (refine Stop.out ?_))
local macro_rules | `(tactic| walk_at "compareOp NotEq ref ref") => `(tactic| (refine Stop.out ?_))
local macro_rules | `(tactic| walk_at "binaryOp Add ref ref") => `(tactic| (refine Stop.out ?_))
local macro_rules | `(tactic| walk_at "call type:list") => `(tactic| (refine Stop.out ?_))
local macro_rules | `(tactic| walk_at "call type:dict") => `(tactic| (refine Stop.out ?_))
local macro_rules | `(tactic| walk_at "compareOp In str ref") => `(tactic| (refine Stop.out ?_))
local macro_rules | `(tactic| walk_at "compareOp Eq ref ref") => `(tactic| (refine Stop.out ?_))
local macro_rules | `(tactic| walk_at "eval Dict nil nil") => `(tactic| (refine Stop.out ?_))
local macro_rules | `(tactic| walk_at "eval Subscript") => `(tactic| (refine Subscript_ ?_))
local macro_rules | `(tactic| walk_at "subscriptTail Name Name ref str") => `(tactic| (refine Stop.out ?_))
local macro_rules | `(tactic| walk_at "subscriptTail Name Constant ref int") => `(tactic| (refine Stop.out ?_))
local macro_rules | `(tactic| walk_at "CompSrc") => `(tactic| (refine Stop.out ?_))
local macro_rules | `(tactic| walk_at "CompSrcT") => `(tactic| (refine Stop.out ?_))
set_option hygiene false in
local macro_rules | `(tactic| walk_at "newList") => `(tactic| (k_here; k_dflt (refine' newList_K ?k1 ?k2 ?_; (case k1 => k_asm); (case k2 => k_asm); k_whole); intro nl1 nh1 nF1 nN1 nl2))
set_option hygiene false in
local macro_rules | `(tactic| walk_at "exec For Name Name cons nil") => `(tactic| ((rename Fr _ _ _ _ => lF'); (with_unfolding_all refine' For_turns lF' ?_); k_whole))
set_option hygiene false in
local macro_rules | `(tactic| walk_at "newTuple") => `(tactic| (k_here; k_dflt (refine' kup_newTuple ?F ?N ?_ ?z; (case F => k_asm); (case N => k_asm); (case z => kmk_size)); intro T8 h8 F8 N8 l8))
theorem reorder6 {h₀ h : Heap} {l : Addr} {a1 a2 a3 a4 a5 a6 : Addr × Obj} {x y : Addr × Obj} (N : News h₀ l h [a1, x, y, a6, a5, a4, a3, a2]) : News h₀ l h ([a1, a2, a3, a4, a5, a6] ++ [x, y]) := fun p hp => N p (by
  simp only [List.cons_append, List.nil_append, List.mem_cons] at hp ⊢
  grind)
theorem main_ : PySem.Challenge.rw_ev0001_01.Holds := hd (by
  k_go0
  all_goals try k_fold
  k_steps
  refine Stop.mk ?_
  rename World => w
  rename Below callerA _ _ _ => K0
  rename Fr _ _ _ _ => F0
  rename News _ _ _ _ => N0
  rename Top _ _ _ _ _ _ => T0
  rename IntsAre _ _ => hI0
  rename Frag.In _ _ => KX0
  rename Heap.IsList _ _ _ => hL0
  rename ¬ (_ < _) => hc0
  have hlen0 := Int.not_lt.mp hc0
  k_dflt (refine' state_ hI0 (by omega) ?B ?F ?X ?N ?T ?hk ?hsa ?hd ?hu ?_; (case B => k_asm); (case F => k_asm); (case X => k_asm); (case N => k_asm); (case T => k_asm); (case hk => exact rfl); (case hsa => assumption); (case hd => ktr_room); (case hu => ktr_units))
  intro st na ns vs t n1 n2 h1 tk1 ok F1 N1 hna hst
  k_steps
  refine Stop.mk ?_
  rename Fr _ _ _ _ => F2
  rename News _ _ _ _ => N2
  have hna6 := hna (_, _) List.mem_cons_self
  dsimp only at hna6
  have hna7 : @LT.lt Nat _ _ _ := hna6
  have hst7 : @LT.lt Nat _ na st := hst
  (k_dflt (refine storeCell F2 N2 (by rfl) (by rfl) (by rfl) (.tail (.tail (.tail (.tail (.tail (.tail (.tail .head))))))) ?_ (by assumption) ?_))
  · intro p hp
    simp only [List.mem_cons, List.not_mem_nil, or_false] at hp
    show @Ne Nat _ _
    rcases hp with rfl | rfl | rfl | rfl | rfl | rfl | rfl <;> (dsimp only; omega)
  intro h3 o1 ho1 F3 N3
  k_steps
  refine Stop.mk ?_
  have NB := reorder6 N'
  (with_unfolding_all refine iter_rangeTurns (n := 3) rfl F' NB hrg' (by decide) (by decide) ?_)
  intro I hI
  have hIs : @LT.lt Nat _ st I := hI (st, _) (List.mem_append_right _ List.mem_cons_self)
  have hLna : @LT.lt Nat _ (FrL F0 + 6) na := hna7
  clear hI hna hna6 hna7 hst
  refine turns_off [Str.ofString "turn", Str.ofString "tables", Str.ofString "table", Str.ofString "rows"]
    (fun xs nw => ∃ (o1 o2 o3 o4 o5 o6 : Obj) (a' : Int) (t' : Tok) (j : Int) (k : Nat), xs = rangeItems j k ∧ nw = cellsOf (FrL F0) [o1, o2, o3, o4, o5, o6] ++ [(st, stO na a' t' n1), (na, listOf vs.toArray n2)] ∧
      o1.data = .cell (some (.ref st)) ∧ (∃ x, o2.data = .cell x) ∧ (∃ x, o3.data = .cell x) ∧ (∃ x, o4.data = .cell x) ∧ (∃ x, o5.data = .cell x) ∧ (∃ x, o6.data = .cell x) ∧ 0 ≤ a' ∧ a' + 100 * (k : Int) ≤ 300) ?_ ?_ _ _
    ⟨o1, _, _, _, _, _, 0, t, 0, 3, rfl, rfl, ho1, ⟨_, by assumption⟩, ⟨_, by assumption⟩, ⟨_, by assumption⟩, ⟨_, by assumption⟩, ⟨_, by assumption⟩, by decide, by decide⟩ trivial
  · rintro b1 r u nw ⟨o1, o2, o3, o4, o5, o6, a', t', j, k, hxs, rfl, ho1, ⟨x2, ho2⟩, ⟨x3, ho3⟩, ⟨x4, ho4⟩, ⟨x5, ho5⟩, ⟨x6, ho6⟩, ha1, ha2⟩ - v h tk hv F
    cases k with
    | zero => cases hxs
    | succ k =>
      simp only [rangeItems] at hxs
      obtain ⟨rfl, rfl⟩ := List.cons.inj hxs
      obtain ⟨t1, rfl⟩ := hv
      refine AllObj.cons (fun oI hcI => AllObj.nil (fun N => ?_))
      have hIst : ∀ p ∈ (I, oI) :: (na, listOf vs.toArray n2) :: cellsOf (FrL F0) [o1, o2, o3, o4, o5, o6], p.1 ≠ st := by
        intro p hp
        simp only [cellsOf, List.mem_cons, List.not_mem_nil, or_false] at hp
        show @Ne Nat _ _
        rcases hp with rfl | rfl | rfl | rfl | rfl | rfl | rfl | rfl <;> (dsimp only; omega)
      simp only [offM, cellsOf, List.cons_append, List.nil_append] at F N
      k_steps
      refine Stop.mk ?_
      rename Fr _ _ _ _ => FC
      (k_dflt (refine LCg.Assign_ListComp_U (F₀ := FC) (by rfl) (by with_unfolding_all rfl) (by with_unfolding_all rfl) (by decide) (by rfl) (by decide) (by rfl) (by rfl) (by rfl) ?_))
      k_steps
      refine Stop.mk ?_
      rename News _ _ _ _ => NC
      obtain ⟨base, hbase⟩ : ∃ base : Led, base = (I, oI) :: (na, listOf vs.toArray n2) :: cellsOf (FrL F0) [o1, o2, o3, o4, o5, o6] := ⟨_, rfl⟩
      rw [← hbase] at hIst
      have hb1 : (FrL F0 + 1, o1) ∈ base := by rw [hbase]; simp only [cellsOf]; simp
      have hbna : (na, listOf vs.toArray n2) ∈ base := by rw [hbase]; simp
      have NC2 : News _ _ _ ((st, stO na a' t' n1) :: base) := fun p hp => NC p (by
        rw [hbase] at hp
        simp only [cellsOf, List.mem_cons] at hp ⊢
        grind)
      k_dflt (refine' use_next ?B ?F ?X ?N ?T ?hk ?hd ?hu .head ok hbna hIst ?h1 ?h2 ?h3 ?h4 ?_; (case B => k_asm); (case F => k_asm); (case X => k_asm); (case N => exact NC2); (case T => k_asm); (case hk => exact rfl); (case hd => ktr_room); (case hu => ktr_units); (case h1 => omega); (case h2 => omega); (case h3 => omega); (case h4 => omega))
      intro r1 t2 h5 tk5 t3 hr0 hr4 F5 N5
      k_steps
      refine Stop.mk ?_
      rename IsRange _ _ _ _ _ _ _ _ => hrg6
      rename Fr _ _ _ _ => F6
      rename News _ _ _ _ => N6
      (k_dflt (refine CompSrc.range (n := (1 + r1).toNat) rfl F6 N6 hrg6 (small_one (by omega) (by omega) (by omega) (by omega)) (by rw [rangeSize_nat]; omega) (by rw [sizeLine_eq]; omega) ?_))
      intro g
      refine compRest_inv (fun i ys nw => ∃ (made : Led) (tbs : List Tb) (a2 : Int) (t4 : Tok), nw = (st, stO na a2 t4 n1) :: (made ++ base) ∧ All2 (DcIn PySem.Challenge.rw_ev0001_01.row.prog w LsIn made) ys tbs ∧ tbs.length = i ∧ (∀ tb ∈ tbs, tb.length ≤ 3 ∧ ∀ e ∈ tb, e.2.length ≤ 4) ∧ Above st made ∧ 0 ≤ a2 ∧ a2 ≤ a' + 1 + 18 * (i : Int)) (1 + r1).toNat ?_ ?_ _ 0 [] _ (Nat.zero_add _) ⟨[], [], a' + 1, t3, rfl, .nil, rfl, fun _ h => (nomatch h), .nil, by omega, by omega⟩
      · rintro i ys nw hlt ⟨made, tbs, a2, t4, rfl, hys, hil, hsz, hab, ha3, ha4⟩ v I2 oI2 C oC D m₂ h tk E' hP hC hx F N off ne
        have hb1' : (FrL F0 + 1, o1) ∈ made ++ base := List.mem_append_right _ hb1
        k_steps
        refine Stop.mk ?_
        rename News _ _ _ _ => N8
        have hoffm := Off3.mem off
        have hst8 : ∀ p ∈ (I2, oI2) :: (C, oC) :: (D, lst ys) :: (made ++ base), p.1 ≠ st := by
          intro p hp
          have h1 := hoffm (st, stO na a2 t4 n1) List.mem_cons_self
          simp only [List.mem_cons, List.mem_append] at hp
          rcases hp with rfl | rfl | rfl | hp | hp
          · exact h1.1.symm
          · exact h1.2.1.symm
          · exact h1.2.2.symm
          · exact Nat.ne_of_gt (hab p hp)
          · exact hIst p hp
        have hna8 : (na, listOf vs.toArray n2) ∈ (I2, oI2) :: (C, oC) :: (D, lst ys) :: (made ++ base) := by simp only [List.mem_cons, List.mem_append]; simp only [hbna, or_true]
        have N9 : News _ _ _ ((st, stO na a2 t4 n1) :: (I2, oI2) :: (C, oC) :: (D, lst ys) :: (made ++ base)) := fun p hp => N8 p (by
          simp only [List.mem_cons, List.mem_append] at hp ⊢
          grind)
        k_dflt (refine' (table_ (w := w) (n1 := n1) (ta := t4) ok hna8 hst8 ha3 (by omega)).use ?B ?F ?X N9 ?T ?hk ?hd ?hu ?_; (case B => k_asm); (case F => k_asm); (case X => k_asm); (case T => k_asm); (case hk => exact rfl); (case hd => ktr_room); (case hu => ktr_units))
        rintro r nw9 h9 tk9 F9 N10 ⟨made2, tb, a3, t5, rfl, hdc, hab2, hgt, hlen4, htl, ha5, ha6⟩
        k_steps
        rename News _ _ _ _ => NE
        refine CompEnd.intro (by assumption) NE ((st, stO na a3 t5 n1) :: ((made2 ++ made) ++ base)) (fun p hp => ?_) (off3_of fun p hp => ?_) trivial ⟨made2 ++ made, tbs ++ [tb], a3, t5, rfl, (hys.mono fun _ _ z => DcIn.mono (P := LsIn) LsIn.mono (fun _ h => List.mem_append_right _ h) z).snoc (DcIn.mono (P := LsIn) LsIn.mono (fun _ h => List.mem_append_left _ h) hdc), by rw [List.length_append, hil]; rfl, fun x hx => ?_, hab2.append hab, by omega, by omega⟩
        · simp only [List.mem_cons, List.mem_append] at hp ⊢
          grind
        · simp only [List.mem_cons, List.mem_append] at hp
          rcases hp with rfl | (hp | hp) | hp
          · exact hoffm (st, stO na a2 t4 n1) List.mem_cons_self
          · exact ⟨(Nat.ne_of_lt (hgt p hp (I2, oI2) (by simp))).symm, (Nat.ne_of_lt (hgt p hp (C, oC) (by simp))).symm, (Nat.ne_of_lt (hgt p hp (D, lst ys) (by simp))).symm⟩
          · exact hoffm p (List.mem_cons_of_mem _ (List.mem_append_left _ hp))
          · exact hoffm p (List.mem_cons_of_mem _ (List.mem_append_right _ hp))
        · rcases List.mem_append.mp hx with hx | hx
          · exact hsz x hx
          · rw [List.mem_singleton.mp hx]; exact ⟨htl, hlen4⟩
      · rintro ys nw ⟨made, tbs, a2, t4, rfl, hys, hil, hsz, hab, ha3, ha4⟩
        unfold FinA
        intro D h tk F N off
        have off1 := Off1_mem off
        k_steps
        refine Stop.mk ?_
        have hofI : OffC (FrL F0) 6 [(I, oI), (na, listOf vs.toArray n2)] := .cons (OffC.of_lt (Nat.lt_trans (Nat.lt_trans hLna hst7) hIs)) (.cons (OffC.of_lt hLna) .nil)
        have hofst : ∀ i : Nat, i < 6 → @Ne Nat st (FrL F0 + i + 1) := OffC.of_lt (Nat.lt_trans hLna hst7)
        have hofD : ∀ i : Nat, i < 6 → @Ne Nat D (FrL F0 + i + 1) := OffC.of_ne (os := [o1, o2, o3, o4, o5, o6]) fun q hq => off1 q (List.mem_cons_of_mem _ (List.mem_append_right _ (by rw [hbase]; exact List.mem_cons_of_mem _ (List.mem_cons_of_mem _ hq))))
        have hofm : OffC (FrL F0) 6 made := .above (hab.mono (Nat.le_of_lt (Nat.lt_trans hLna hst7)))
        obtain ⟨fix, hfix⟩ : ∃ fix : Led, fix = (D, lst ys) :: (st, stO na a2 t4 n1) :: (made ++ [(I, oI), (na, listOf vs.toArray n2)]) := ⟨_, rfl⟩
        have hoffix : OffC (FrL F0) 6 fix := by rw [hfix]; exact .cons hofD (.cons hofst (.append hofm hofI))
        have htsD : (D, lst ys) ∈ fix := by rw [hfix]; exact List.mem_cons_self
        have hysf : All2 (DcIn PySem.Challenge.rw_ev0001_01.row.prog w LsIn fix) ys tbs := hys.mono fun _ _ z => DcIn.mono (P := LsIn) LsIn.mono (fun p hp => by rw [hfix]; exact List.mem_cons_of_mem _ (List.mem_cons_of_mem _ (List.mem_append_left _ hp))) z
        rename News _ _ _ _ => N11
        rename Fr _ _ _ _ => F11
        have hofn : ∀ i : Nat, i < 6 → @Ne Nat nl1 (FrL F0 + i + 1) := OffC.of_lt (Nat.lt_trans (Nat.lt_trans hLna hst7) (nl2 (st, stO na a2 t4 n1) (by simp)))
        have NX : News _ _ _ (cellsOf (FrL F0) [o1, o2, o3, o4, o5, o6] ++ ((nl1, listOf [].toArray 0) :: fix)) := fun p hp => N11 p (by
          rw [hfix] at hp
          rw [hbase]
          simp only [List.mem_cons, List.mem_append] at hp ⊢
          grind)
        (k_dflt (refine storeAt 1 F11 NX (by simp) (by rfl) (by rfl) (by rfl) ho2 (.cons hofn hoffix) ?_))
        intro h12 p2 hp2 F12 N12
        simp only [List.set] at N12
        k_steps
        refine Stop.mk ?_
        have htbl : tbs.length ≤ 4 := by rw [hil]; omega
        have hysl : ys.length = tbs.length := hys.length
        rename News _ _ _ _ => N13
        rename Fr _ _ _ _ => F13
        (with_unfolding_all refine iter_listTurns (lo := lst ys) (vs := ys) (n := _) rfl F13 N13 (List.mem_append_right _ (List.mem_cons_of_mem _ htsD)) rfl rfl ?_)
        intro I3 hI3
        have hI3f : ∀ p ∈ fix, p.1 < I3 := fun p hp => hI3 p (List.mem_append_right _ (List.mem_cons_of_mem _ hp))
        have hI3c : ∀ q1 q2 q3 q4 q5 q6, ∀ p ∈ cellsOf (FrL F0) [q1, q2, q3, q4, q5, q6], p.1 ≠ I3 := by
          intro q1 q2 q3 q4 q5 q6 p hp
          have h6 : @LT.lt Nat _ na I3 := hI3f (na, listOf vs.toArray n2) (by rw [hfix]; simp)
          simp only [cellsOf, List.mem_cons, List.not_mem_nil, or_false] at hp
          show @Ne Nat _ _
          rcases hp with rfl | rfl | rfl | rfl | rfl | rfl <;> (dsimp only; omega)
        refine turns_off [Str.ofString "table"]
          (fun xs nw => ∃ (us : List Value) (done rest : List Tb) (p2 : Obj) (dl : Addr) (dvs : List Value) (nd : Nat), xs = us.map Itm.val ∧ tbs = done ++ rest ∧ All2 (DcIn PySem.Challenge.rw_ev0001_01.row.prog w LsIn fix) us rest ∧ nw = cellsOf (FrL F0) [o1, p2, o3, o4, o5, o6] ++ ((dl, listOf dvs.toArray nd) :: fix) ∧
            p2.data = .cell (some (.ref dl)) ∧ StrsAre dvs (dueOf done) ∧ (∀ i : Nat, i < 6 → @Ne Nat dl (FrL F0 + i + 1)) ∧ dl ≠ I3) ?_ ?_ _ _
          ⟨ys, [], tbs, p2, nl1, [], 0, rfl, rfl, hysf, rfl, hp2, .nil, hofn, Nat.ne_of_lt (hI3 (nl1, _) (List.mem_append_right _ List.mem_cons_self))⟩
          ⟨List.mem_append_right _ (List.mem_cons_of_mem _ htsD), trivial⟩
        · rintro c1 r u2 nw ⟨us, done, rest, p2, dl, dvs, nd, hxs, htb, hus, rfl, hp2, hdvs, hofdl, hdlI⟩ - v h tk hv F
          cases hus with
          | nil => cases hxs
          | @cons u0 tb us rest hu0 hus =>
            obtain ⟨rfl, rfl⟩ := List.cons.inj hxs
            have hv' : v = u0 := hv
            subst hv'
            obtain ⟨d0, o0, kvs0, rfl, hd0, lo0, hdo0, hdc0⟩ := hu0
            refine AllObj.cons (fun oI3 hcI3 => AllObj.nil (fun N => ?_))
            simp only [offM, cellsOf, List.cons_append, List.nil_append] at F N
            have htb3 : tb.length ≤ 3 := (hsz tb (by rw [htb]; exact List.mem_append_right _ List.mem_cons_self)).1
            have hk03 : kvs0.length ≤ 3 := by rw [hdc0.length]; exact htb3
            k_steps
            refine Stop.mk ?_
            rename Fr _ _ _ _ => F14
            (k_dflt (refine ListComp_dictT (knd := strKind PySem.Challenge.rw_ev0001_01.row.prog w) (F₀ := F14) (by rfl) (by decide) (by rfl) (by decide) (by rfl) ?_))
            k_steps
            rename Fr _ _ _ _ => F15
            rename News _ _ _ _ => N15
            obtain ⟨base3, hbase3⟩ : ∃ base3 : Led, base3 = (I3, oI3) :: (FrL F0 + 1, o1) :: (FrL F0 + 1 + 1, p2) :: (FrL F0 + 1 + 1 + 1, o3) :: (FrL F0 + 1 + 1 + 1 + 1, o4) :: (FrL F0 + 1 + 1 + 1 + 1 + 1, o5) :: (FrL F0 + 1 + 1 + 1 + 1 + 1 + 1, o6) :: (dl, listOf dvs.toArray nd) :: fix := ⟨_, rfl⟩
            have hd03 : (d0, o0) ∈ base3 := by rw [hbase3]; simp only [List.mem_cons]; simp only [hd0, or_true]
            have hc23 : (FrL F0 + 1 + 1, p2) ∈ base3 := by rw [hbase3]; simp
            have hdl3 : (dl, listOf dvs.toArray nd) ∈ base3 := by rw [hbase3]; simp
            have N16 : News _ _ _ base3 := fun p hp => N15 p (by rw [hbase3] at hp; exact hp)
            refine Stop.mk ⟨d0, o0, kvs0, base3, rfl, rfl, F15, N16, hd03, lo0, hdo0, by rw [sizeLine_eq]; omega, ?_⟩
            rintro _ ⟨h16, rfl⟩
            refine compRestT_inv (fun i ys nw => nw = base3 ∧ StrsAre ys (((kvs0.take i).map (·.1)).filter fun k => !((dueOf done).any (· == k)))) kvs0.length ?_ ?_ _ 0 [] base3 (Nat.zero_add _) ⟨rfl, .nil⟩
            · rintro i ys2 nw hlt ⟨rfl, hys2⟩ v I4 oI4 C4 oC4 D4 m4 h tk E' hP hC hx F N off ne
              obtain ⟨ky, yv, hky, hkis⟩ := hP
              obtain ⟨kt, rfl⟩ := Value.isStrOf_shape hkis
              have htake : kvs0.take (i + 1) = kvs0.take i ++ [(ky, yv)] := by rw [List.take_add_one, hky]; rfl
              k_steps
              refine Stop.mk ?_
              rename News _ _ _ _ => N17
              obtain ⟨b, hb⟩ : ∃ b, (dueOf done).any (· == ky) = b := ⟨_, rfl⟩
              (k_dflt (refine notin_list_strs (N17.isList (List.mem_cons_of_mem _ (List.mem_cons_of_mem _ (List.mem_cons_of_mem _ hdl3)))) hdvs ?_))
              rw [hb]
              cases b with
              | true =>
                simp only [Bool.not_true]
                k_steps
                refine CompEnd.intro (by assumption) (by assumption) _ (fun p hp => hp) off hd03 ⟨rfl, ?_⟩
                rw [htake, List.map_append, List.filter_append]
                have e : ([(ky, yv)].map (·.1)).filter (fun k => !((dueOf done).any (· == k))) = [] := by simp [hb]
                rw [e, List.append_nil]
                exact hys2
              | false =>
                simp only [Bool.not_false]
                k_steps
                refine CompEnd.intro (by assumption) (by assumption) _ (fun p hp => hp) off hd03 ⟨rfl, ?_⟩
                rw [htake, List.map_append, List.filter_append]
                have e : ([(ky, yv)].map (·.1)).filter (fun k => !((dueOf done).any (· == k))) = [ky] := by simp [hb]
                rw [e]
                exact strs_append hys2 (.cons _ _ .nil)
            · rintro ys2 nw ⟨hnw, hys2⟩
              have hnw2 := hnw.symm
              subst hnw2
              clear hnw
              unfold FinE
              intro D4 h tk F N off
              rw [List.take_length] at hys2
              have hofD4 : ∀ p ∈ base3, p.1 ≠ D4 := Off1_mem off
              have hdone3 : (dueOf done).length ≤ 12 := by
                have := dueOf_len done fun x hx => (hsz x (by rw [htb]; exact List.mem_append_left _ hx)).1
                have h2 : done.length ≤ 4 := by rw [htb, List.length_append] at htbl; omega
                omega
              have hy3 : ys2.length ≤ 3 := by
                rw [strs_len hys2]
                have := List.length_filter_le (fun k => !((dueOf done).any (· == k))) (kvs0.map (·.1))
                rw [List.length_map] at this
                omega
              k_steps
              refine Stop.mk ?_
              rename News _ _ _ _ => N17
              rename Fr _ _ _ _ => F17
              (k_dflt (refine kmk_add_lit (zs := dvs ++ ys2) F17 N17 (N17.isList (List.mem_cons_of_mem _ hdl3)) (N17.isList List.mem_cons_self) rfl ?_ (by rw [sizeLine_eq]; show dvs.length + ys2.length ≤ _; rw [strs_len hdvs]; omega)))
              intro D5 h18 F18 N18 l18
              k_steps
              refine Stop.mk ?_
              rename Fr _ _ _ _ => F19
              have hofD5 : ∀ i : Nat, i < 6 → @Ne Nat D5 (FrL F0 + i + 1) := OffC.of_lt (Nat.lt_trans hLna (l18 (na, listOf vs.toArray n2) (by rw [hbase3, hfix]; simp)))
              have hofI3 : ∀ i : Nat, i < 6 → @Ne Nat I3 (FrL F0 + i + 1) := OffC.of_lt (Nat.lt_trans hLna (hI3f (na, listOf vs.toArray n2) (by rw [hfix]; simp)))
              have hI3D5 : @LT.lt Nat _ I3 D5 := l18 (I3, oI3) (by rw [hbase3]; simp)
              have NX2 : News _ _ _ (cellsOf (FrL F0) [o1, p2, o3, o4, o5, o6] ++ ((D5, listOf (dvs ++ ys2).toArray 0) :: (I3, oI3) :: fix)) := fun p hp => N18 p (by
                rw [hbase3]
                simp only [cellsOf, List.cons_append, List.nil_append, List.mem_cons] at hp ⊢
                grind)
              (k_dflt (refine storeAt 1 F19 NX2 (by simp) (by rfl) (by rfl) (by rfl) hp2 (.cons hofD5 (.cons hofI3 hoffix)) ?_))
              intro h20 p3 hp3 F20 N20
              simp only [List.set] at N20
              k_steps
              rename Fr _ _ _ _ => FE
              rename News _ _ _ _ => NE
              have NF : News _ _ _ ((I3, oI3) :: (cellsOf (FrL F0) [o1, p3, o3, o4, o5, o6] ++ ((D5, listOf (dvs ++ ys2).toArray 0) :: fix))) := fun p hp => NE p (by
                simp only [List.mem_cons, List.mem_append] at hp ⊢
                grind)
              refine UnrEndW_sel FE NF Sel.head ?_ ⟨⟨List.mem_append_right _ (List.mem_cons_of_mem _ htsD), trivial⟩, ?_, us, done ++ [tb], rest, p3, D5, dvs ++ ys2, 0, rfl, by rw [htb, List.append_assoc]; rfl, hus, rfl, hp3, ?_, hofD5, Nat.ne_of_gt hI3D5⟩
              · intro p hp
                rcases List.mem_append.mp hp with hp | hp
                · exact hI3c _ _ _ _ _ _ p hp
                · rcases List.mem_cons.mp hp with rfl | hp
                  · exact Nat.ne_of_gt hI3D5
                  · exact Nat.ne_of_lt (hI3f p hp)
              · repeat' (first | exact Off.refl | refine Off.put (by k_mem) ?_)
              · rw [dueOf_snoc]
                unfold dueStep
                rw [← hdc0.keys]
                exact strs_append hdvs hys2
        · rintro u2 nw ⟨us, done, rest, p2, dl, dvs, nd, hxs, htb, hus, rfl, hp2, hdvs, hofdl, hdlI⟩ h tk F N
          cases hus with
          | cons => cases hxs
          | nil =>
          rw [List.append_nil] at htb
          subst htb
          have hFoff : OffC (FrL F0) 6 ((dl, listOf dvs.toArray nd) :: fix) := .cons hofdl hoffix
          simp only [offM] at F
          k_steps
          refine Stop.mk ?_
          rename Fr _ _ _ _ => F21
          rename News _ _ _ _ => N21
          have hts1 : TsIn PySem.Challenge.rw_ev0001_01.row.prog w LsIn (cellsOf (FrL F0) [o1, p2, o3, o4, o5, o6] ++ ((dl, listOf dvs.toArray nd) :: fix)) (.ref D) tbs := ⟨D, ys, _, rfl, List.mem_append_right _ (List.mem_cons_of_mem _ htsD), hysf.mono fun _ _ z => DcIn.mono (P := LsIn) LsIn.mono (fun _ h => List.mem_append_right _ (List.mem_cons_of_mem _ h)) z⟩
          k_dflt (refine' (tables_ (w := w) hts1 (by omega) hsz).use ?B ?F ?X N21 ?T ?hk ?hd ?hu ?_; (case B => k_asm); (case F => k_asm); (case X => k_asm); (case T => k_asm); (case hk => exact rfl); (case hd => ktr_room); (case hu => ktr_units))
          rintro r1v nw22 h22 tk22 F22 N22 ⟨made1, rfl, hts2, hap1⟩
          k_steps
          refine Stop.mk ?_
          rename News _ _ _ _ => N23
          k_dflt (refine' (merged_ (w := w) (hts2.mono (P := RlIn) RlIn.mono (fun _ h => List.mem_append_left _ h)) (by omega) (fun x hx => (hsz x hx).1) (fun x hx => (hsz x hx).2) (mok_all (by omega) (fun x hx => (hsz x hx).1) (fun x hx => (hsz x hx).2))).use ?B ?F ?X N23 ?T ?hk ?hd ?hu ?_; (case B => k_asm); (case F => k_asm); (case X => k_asm); (case T => k_asm); (case hk => exact rfl); (case hd => ktr_room); (case hu => ktr_units))
          rintro tv nw24 h24 tk24 F24 N24 ⟨made2, rfl, htold, hap2⟩
          k_steps
          refine Stop.mk ?_
          rename Fr _ _ _ _ => F25
          have hcs1 : ∀ p ∈ cellsOf (FrL F0) [o1, p2, o3, o4, o5, o6], p ∈ cellsOf (FrL F0) [o1, p2, o3, o4, o5, o6] ++ ((dl, listOf dvs.toArray nd) :: fix) := fun _ h => List.mem_append_left _ h
          have hof1 : OffC (FrL F0) 6 made1 := OffC.apart (os := [o1, p2, o3, o4, o5, o6]) hap1 hcs1
          have hof2 : OffC (FrL F0) 6 made2 := OffC.apart (os := [o1, p2, o3, o4, o5, o6]) hap2 fun p hp => List.mem_append_right _ (hcs1 p hp)
          obtain ⟨fx2, hfx2⟩ : ∃ fx2 : Led, fx2 = made2 ++ (made1 ++ ((dl, listOf dvs.toArray nd) :: fix)) := ⟨_, rfl⟩
          have hoff2 : OffC (FrL F0) 6 fx2 := by rw [hfx2]; exact hof2.append (hof1.append hFoff)
          have hdl2 : (dl, listOf dvs.toArray nd) ∈ fx2 := by rw [hfx2]; exact List.mem_append_right _ (List.mem_append_right _ List.mem_cons_self)
          have hfixin : ∀ p ∈ fix, p ∈ fx2 := fun p hp => by rw [hfx2]; exact List.mem_append_right _ (List.mem_append_right _ (List.mem_cons_of_mem _ hp))
          have htsD2 := hfixin _ htsD
          have hys2 : All2 (DcIn PySem.Challenge.rw_ev0001_01.row.prog w LsIn fx2) ys tbs := hysf.mono fun _ _ z => DcIn.mono (P := LsIn) LsIn.mono hfixin z
          have htold2 : DcIn PySem.Challenge.rw_ev0001_01.row.prog w RlIn fx2 tv (mrun tbs.flatten).1 := DcIn.mono (P := RlIn) RlIn.mono (fun p hp => by rw [hfx2]; exact List.mem_append_left _ hp) htold
          have hst2 : (st, stO na a2 t4 n1) ∈ fx2 := hfixin _ (by rw [hfix]; simp)
          have hI2 : (I, oI) ∈ fx2 := hfixin _ (by rw [hfix]; simp)
          have hna2 : (na, listOf vs.toArray n2) ∈ fx2 := hfixin _ (by rw [hfix]; simp)
          have NX3 : News _ _ _ (cellsOf (FrL F0) [o1, p2, o3, o4, o5, o6] ++ fx2) := fun p hp => N24 p (by
            rw [hfx2] at hp
            simp only [List.mem_append] at hp ⊢
            grind)
          have hnds : ∀ tb ∈ tbs, (tb.map (·.1)).Nodup := fun tb htb => by
            obtain ⟨i, hi, rfl⟩ := List.getElem_of_mem htb
            have hi2 : i < ys.length := by omega
            obtain ⟨tb', ht', d, o, kvs, _, _, _, hdo, hdc⟩ := hysf.get i ys[i] (by rw [List.getElem?_eq_getElem])
            rw [List.getElem?_eq_getElem hi] at ht'
            cases ht'
            rw [← hdc.keys]
            exact isDict_nodup hdo
          clear hap1 hap2 hts1 hts2 htold hfix hfx2 hbase hFoff hof1 hof2 hcs1 hoffix hfixin hysf hys htsD
          obtain ⟨dt, ot, kvt, rfl, hmt, lot, hdot, hdct⟩ := htold2
          (k_dflt (refine storeAt 3 F25 NX3 (by simp) (by rfl) (by rfl) (by rfl) ho4 hoff2 ?_))
          intro h26 p4 hp4 F26 N26
          simp only [List.set, cellsOf, List.cons_append, List.nil_append] at N26
          have hkeys : kvt.map (·.1) = dueOf tbs := by rw [hdct.keys, mrun_keys hnds]
          have hdue12 : (dueOf tbs).length ≤ 12 := by
            have := dueOf_len tbs fun x hx => (hsz x hx).1
            omega
          have hkvtl : kvt.length ≤ 12 := by
            have := congrArg List.length hkeys
            rw [List.length_map] at this
            omega
          have hin6 : ∀ p ∈ fx2, p ∈ (FrL F0 + 1, o1) :: (FrL F0 + 1 + 1, p2) :: (FrL F0 + 1 + 1 + 1, o3) :: (FrL F0 + 1 + 1 + 1 + 1, p4) :: (FrL F0 + 1 + 1 + 1 + 1 + 1, o5) :: (FrL F0 + 1 + 1 + 1 + 1 + 1 + 1, o6) :: fx2 := fun p hp => by simp only [List.mem_cons]; simp only [hp, or_true]
          k_steps
          refine Stop.mk ?_
          rename Fr _ _ _ _ => F27
          rename News _ _ _ _ => N27
          (k_dflt (refine list_keys rfl F27 N27 (hin6 _ hmt) lot hdot (by rw [sizeLine_eq]; omega) ?_))
          intro B nB h28 tk28 vK F28 N28 lB hsK
          rw [hkeys] at hsK
          k_steps
          refine Stop.mk ?_
          rename News _ _ _ _ => N29
          (k_dflt (refine ne_strs (N29.isList List.mem_cons_self) (N29.isList (List.mem_cons_of_mem _ (hin6 _ hdl2))) hsK hdvs (by ktr_units) ?_))
          k_steps
          refine Stop.mk ?_
          rename Fr _ _ _ _ => F30
          rename News _ _ _ _ => N30
          have NL : News _ _ _ (cellsOf (FrL F0) [o1, p2, o3, p4, o5, o6] ++ fx2) := fun p hp => N30 p (List.mem_cons_of_mem _ hp)
          (with_unfolding_all refine iter_listTurns (lo := listOf dvs.toArray nd) (vs := dvs) (n := nd) rfl F30 NL (List.mem_append_right _ hdl2) rfl rfl ?_)
          intro I5 hI5
          have hI5f : ∀ p ∈ fx2, p.1 < I5 := fun p hp => hI5 p (List.mem_append_right _ hp)
          have hna5 : @LT.lt Nat _ na I5 := hI5f _ hna2
          have hofI5 : ∀ i : Nat, i < 6 → @Ne Nat I5 (FrL F0 + i + 1) := OffC.of_lt (Nat.lt_trans hLna hna5)
          have hI5c : ∀ q1 q2 q3 q4 q5 q6, ∀ p ∈ cellsOf (FrL F0) [q1, q2, q3, q4, q5, q6], p.1 ≠ I5 := by
            intro q1 q2 q3 q4 q5 q6 p hp
            simp only [cellsOf, List.mem_cons, List.not_mem_nil, or_false] at hp
            show @Ne Nat _ _
            rcases hp with rfl | rfl | rfl | rfl | rfl | rfl <;> (dsimp only; omega)
          refine turns_off [Str.ofString "rows"]
            (fun xs nw => ∃ (us : List Value) (ks : List Str) (p3 : Obj), xs = us.map Itm.val ∧ StrsAre us ks ∧ (∀ k ∈ ks, k ∈ dueOf tbs) ∧ nw = cellsOf (FrL F0) [o1, p2, p3, p4, o5, o6] ++ fx2 ∧ (∃ x, p3.data = .cell x)) ?_ ?_ _ _
            ⟨dvs, dueOf tbs, o3, rfl, hdvs, fun _ h => h, rfl, ⟨_, ho3⟩⟩
            ⟨List.mem_append_right _ hdl2, trivial⟩
          · rintro c1 r u3 nw ⟨us, ks, p3, hxs, hus, hks, rfl, ⟨x3', hp3⟩⟩ - v h tk hv F
            cases hus with
            | nil => cases hxs
            | @cons ky kt us ks hus =>
              obtain ⟨rfl, rfl⟩ := List.cons.inj hxs
              have hv' : v = .str ky kt := hv
              subst hv'
              refine AllObj.cons (fun oI5 hcI5 => AllObj.nil (fun N => ?_))
              have NA : News _ _ _ (cellsOf (FrL F0) [o1, p2, p3, p4, o5, o6] ++ ((I5, oI5) :: fx2)) := fun p hp => N p (by
                simp only [List.mem_append, List.mem_cons, List.singleton_append] at hp ⊢
                grind)
              simp only [offM] at F
              k_steps
              refine Stop.mk ?_
              rename Fr _ _ _ _ => F31
              (k_dflt (refine storeAt 2 F31 NA (by simp) (by rfl) (by rfl) (by rfl) hp3 (.cons hofI5 hoff2) ?_))
              intro h32 q3 hq3 F32 N32
              simp only [List.set, cellsOf, List.cons_append, List.nil_append] at N32
              k_steps
              refine Stop.mk ?_
              rename Fr _ _ _ _ => F33
              (k_dflt (refine LCt.Assign_ListComp_T (F₀ := F33) (by rfl) (by with_unfolding_all rfl) (by with_unfolding_all rfl) (by decide) (by rfl) (by decide) (by rfl) (by rfl) (by rfl) ?_))
              k_steps
              refine Stop.mk ?_
              rename Fr _ _ _ _ => F34
              rename News _ _ _ _ => N34
              obtain ⟨base4, hbase4⟩ : ∃ base4 : Led, base4 = (FrL F0 + 1, o1) :: (FrL F0 + 1 + 1, p2) :: (FrL F0 + 1 + 1 + 1, q3) :: (FrL F0 + 1 + 1 + 1 + 1, p4) :: (FrL F0 + 1 + 1 + 1 + 1 + 1, o5) :: (FrL F0 + 1 + 1 + 1 + 1 + 1 + 1, o6) :: (I5, oI5) :: fx2 := ⟨_, rfl⟩
              have hin4 : ∀ p ∈ fx2, p ∈ base4 := fun p hp => by rw [hbase4]; simp only [List.mem_cons]; simp only [hp, or_true]
              have hc34 : (FrL F0 + 1 + 1 + 1, q3) ∈ base4 := by rw [hbase4]; simp
              have hc44 : (FrL F0 + 1 + 1 + 1 + 1, p4) ∈ base4 := by rw [hbase4]; simp
              have N35 : News _ _ _ base4 := fun p hp => N34 p (by rw [hbase4] at hp; exact hp)
              have hys4 : All2 (DcIn PySem.Challenge.rw_ev0001_01.row.prog w LsIn base4) ys tbs := hys2.mono fun _ _ z => DcIn.mono (P := LsIn) LsIn.mono hin4 z
              (k_dflt (refine LCt.CompSrcT.ledger (k := _) rfl F34 N35 (hin4 _ htsD2) (by rw [sizeLine_eq, List.size_toArray]; omega) ?_))
              intro g
              refine compRestT_inv (fun i zs nw => nw = base4 ∧ All2 (LsIn base4) zs (rowsFor ky (tbs.take i))) ys.toArray.size ?_ ?_ _ 0 [] base4 (Nat.zero_add _) ⟨rfl, .nil⟩
              · rintro i zs nw hlt ⟨hnw, hzs⟩ v I6 oI6 C6 oC6 D6 m6 h tk E' hP hC hx F N off ne
                have hnw2 := hnw.symm
                subst hnw2
                clear hnw
                obtain ⟨tb, htbi, htake, d6, o6', kvs6, rfl, hd6, lo6, hdo6, hdc6⟩ := hys4.at i v (by simpa using hP)
                k_steps
                refine Stop.mk ?_
                rename News _ _ _ _ => N36
                rcases hdc6.valueAt ky with ⟨hv0, hl0⟩ | ⟨x6', xs6, hv1, hl1, hx6⟩
                · (k_dflt (refine kda_in (knd := strKind PySem.Challenge.rw_ev0001_01.row.prog w) N36 (List.mem_cons_of_mem _ (List.mem_cons_of_mem _ (List.mem_cons_of_mem _ hd6))) hdo6 lo6 (strKind_is _ _ _ _) false (by rw [hv0]; rfl) ?_))
                  k_steps
                  refine CompEnd.intro (by assumption) (by assumption) _ (fun p hp => hp) off (Or.inr ⟨_, hin4 _ htsD2, rfl, _, rfl⟩) ⟨rfl, ?_⟩
                  have e : rowsFor ky (tbs.take (i + 1)) = rowsFor ky (tbs.take i) := by rw [htake]; simp [rowsFor, hl0]
                  rw [e]
                  exact hzs
                · (k_dflt (refine kda_in (knd := strKind PySem.Challenge.rw_ev0001_01.row.prog w) N36 (List.mem_cons_of_mem _ (List.mem_cons_of_mem _ (List.mem_cons_of_mem _ hd6))) hdo6 lo6 (strKind_is _ _ _ _) true (by rw [hv1]; rfl) ?_))
                  k_steps
                  refine Stop.mk ?_
                  rename News _ _ _ _ => N37
                  (k_dflt (refine kda_item (knd := strKind PySem.Challenge.rw_ev0001_01.row.prog w) N37 (List.mem_cons_of_mem _ (List.mem_cons_of_mem _ (List.mem_cons_of_mem _ hd6))) hdo6 (strKind_is _ _ _ _) hv1 ?_))
                  k_steps
                  refine CompEnd.intro (by assumption) (by assumption) _ (fun p hp => hp) off (Or.inr ⟨_, hin4 _ htsD2, rfl, _, rfl⟩) ⟨rfl, ?_⟩
                  have e : rowsFor ky (tbs.take (i + 1)) = rowsFor ky (tbs.take i) ++ [xs6] := by rw [htake]; simp [rowsFor, hl1]
                  rw [e]
                  exact hzs.snoc hx6
              · rintro zs nw ⟨hnw, hzs⟩
                have hnw2 := hnw.symm
                subst hnw2
                clear hnw
                unfold FinA
                intro D6 h tk F N off
                have hzs2 : All2 (LsIn base4) zs (rowsFor ky tbs) := by
                  rw [List.size_toArray, hysl, List.take_length] at hzs
                  exact hzs
                obtain ⟨hrne, hlk⟩ := mrun_at hnds (hks ky List.mem_cons_self)
                have hrl4 : (rowsFor ky tbs).length ≤ 4 := Nat.le_trans (List.length_filterMap_le _ _) htbl
                have hre4 : ∀ x ∈ rowsFor ky tbs, x.length ≤ 4 := fun x hx => by
                  obtain ⟨tb, htb, e⟩ := List.mem_filterMap.mp hx
                  exact (hsz tb htb).2 (ky, x) (lookup_mem e)
                have hlml : (lm (rowsFor ky tbs)).length ≤ 16 := by have := lm_len _ hre4; omega
                rcases hdct.valueAt ky with ⟨_, hl0⟩ | ⟨x7, xs7, hv7, hl7, hx7⟩
                · rw [hlk] at hl0; cases hl0
                rw [hlk] at hl7
                obtain rfl := Option.some.inj hl7
                k_steps
                refine Stop.mk ?_
                rename News _ _ _ _ => N38
                (k_dflt (refine kda_item (knd := strKind PySem.Challenge.rw_ev0001_01.row.prog w) N38 (List.mem_cons_of_mem _ (hin4 _ hmt)) hdot (strKind_is _ _ _ _) hv7 ?_))
                k_steps
                refine Stop.mk ?_
                rename News _ _ _ _ => N39
                have hx39 : RlIn ((D6, lst zs) :: base4) x7 (lm (rowsFor ky tbs)) := hx7.mono fun p hp => List.mem_cons_of_mem _ (hin4 p hp)
                k_dflt (refine' (plain_ (w := w) hx39 (by omega)).use ?B ?F ?X N39 ?T ?hk ?hd ?hu ?_; (case B => k_asm); (case F => k_asm); (case X => k_asm); (case T => k_asm); (case hk => exact rfl); (case hd => ktr_room); (case hu => ktr_units))
                rintro r7 nw40 h40 tk40 F40 N40 ⟨D7, ys7, n7, rfl, rfl, hi7, hne7⟩
                k_steps
                refine Stop.mk ?_
                rename News _ _ _ _ => N41
                have hrows : RowsIn ((D7, listOf ys7.toArray n7) :: (D6, lst zs) :: base4) (.ref D6) (rowsFor ky tbs) := ⟨D6, zs, _, rfl, List.mem_cons_of_mem _ List.mem_cons_self, hzs2.mono fun _ _ z => z.mono fun p hp => List.mem_cons_of_mem _ (List.mem_cons_of_mem _ hp)⟩
                k_dflt (refine' (lmerged_ (w := w) (rowsFor ky tbs) hrne (by omega) hre4 _ _ hrows).use ?B ?F ?X N41 ?T ?hk ?hd ?hu ?_; (case B => k_asm); (case F => k_asm); (case X => k_asm); (case T => k_asm); (case hk => exact rfl); (case hd => ktr_room); (case hu => ktr_units))
                rintro r8 nw42 h42 tk42 F42 N42 ⟨made8, rfl, ⟨a8, v8, n8, rfl, hm8, hi8⟩, hap8⟩
                k_steps
                refine Stop.mk ?_
                rename News _ _ _ _ => N43
                (k_dflt (refine ke_ne_ints (N43.isList (List.mem_append_right _ List.mem_cons_self)) (N43.isList hm8) hi7 hi8 (by ktr_units) ?_))
                simp only [decide_true, Bool.not_true]
                k_steps
                rename Fr _ _ _ _ => FE
                rename News _ _ _ _ => NE
                have NF : News _ _ _ ((I5, oI5) :: (cellsOf (FrL F0) [o1, p2, q3, p4, o5, o6] ++ fx2)) := fun p hp => NE p (by
                  rw [hbase4]
                  simp only [cellsOf, List.cons_append, List.nil_append, List.mem_cons, List.mem_append] at hp ⊢
                  grind)
                refine UnrEndW_sel FE NF Sel.head ?_ ⟨⟨List.mem_append_right _ hdl2, trivial⟩, ?_, us, ks, q3, rfl, hus, fun k hk => hks k (List.mem_cons_of_mem _ hk), rfl, ⟨_, hq3⟩⟩
                · intro p hp
                  rcases List.mem_append.mp hp with hp | hp
                  · exact hI5c _ _ _ _ _ _ p hp
                  · exact Nat.ne_of_lt (hI5f p hp)
                · repeat' (first | exact Off.refl | refine Off.put (by k_mem) ?_)
          · rintro u3 nw ⟨us, ks, p3, hxs, hus, hks, rfl, ⟨x3', hp3⟩⟩ h tk F43 N43
            simp only [offM] at F43
            clear hxs hks
            obtain ⟨tb0, tr, htbs⟩ : ∃ tb0 tr, tbs = tb0 :: tr := by
              cases tbs with
              | nil => simp at hil; omega
              | cons x y => exact ⟨x, y, rfl⟩
            obtain ⟨y0, hy0⟩ : ∃ y0, ys[0]? = some y0 := ⟨ys[0]'(by rw [hysl, htbs]; exact Nat.zero_lt_succ _), by rw [List.getElem?_eq_getElem]⟩
            obtain ⟨tb0', htb0', d0, o0, kvs0, rfl, hd0, lo0, hdo0, hdc0⟩ := hys2.get 0 y0 hy0
            have htb0e : tb0' = tb0 := by
              have : tbs[0]? = some tb0 := by rw [htbs]; rfl
              rw [this] at htb0'
              exact (Option.some.inj htb0').symm
            rw [htb0e] at hdc0
            clear htb0e htb0'
            have htb0m : tb0 ∈ tbs := by rw [htbs]; exact List.mem_cons_self
            have htb03 := (hsz tb0 htb0m).1
            have hk03 : kvs0.length ≤ 3 := by rw [hdc0.length]; exact htb03
            k_steps
            refine Stop.mk ?_
            (k_dflt (refine list_item (k := 0) (n := _) N43 (List.mem_append_right _ htsD2) (by decide) hy0 ?_))
            k_steps
            refine Stop.mk ?_
            rename Fr _ _ _ _ => F44
            rename News _ _ _ _ => N44
            (k_dflt (refine storeAt 4 F44 N44 (by simp) (by rfl) (by rfl) (by rfl) ho5 hoff2 ?_))
            intro h45 q5 hq5 F45 N45
            simp only [List.set, cellsOf, List.cons_append, List.nil_append] at N45
            k_steps
            refine Stop.mk ?_
            rename Fr _ _ _ _ => F46
            (k_dflt (refine ListComp_dict (knd := strKind PySem.Challenge.rw_ev0001_01.row.prog w) (F₀ := F46) (by rfl) (by decide) (by rfl) (by decide) (by rfl) ?_))
            k_steps
            rename Fr _ _ _ _ => F47
            rename News _ _ _ _ => N47
            obtain ⟨base5, hbase5⟩ : ∃ base5 : Led, base5 = (FrL F0 + 1, o1) :: (FrL F0 + 1 + 1, p2) :: (FrL F0 + 1 + 1 + 1, p3) :: (FrL F0 + 1 + 1 + 1 + 1, p4) :: (FrL F0 + 1 + 1 + 1 + 1 + 1, q5) :: (FrL F0 + 1 + 1 + 1 + 1 + 1 + 1, o6) :: fx2 := ⟨_, rfl⟩
            have hin5 : ∀ p ∈ fx2, p ∈ base5 := fun p hp => by rw [hbase5]; simp only [List.mem_cons]; simp only [hp, or_true]
            have hc55 : (FrL F0 + 1 + 1 + 1 + 1 + 1, q5) ∈ base5 := by rw [hbase5]; simp
            have N48 : News _ _ _ base5 := fun p hp => N47 p (by rw [hbase5] at hp; exact hp)
            refine Stop.mk ⟨d0, o0, kvs0, base5, rfl, rfl, F47, N48, hin5 _ hd0, lo0, hdo0, by rw [sizeLine_eq]; omega, ?_⟩
            rintro _ ⟨h48, rfl⟩
            refine compRest_inv (fun i zs nw => ∃ (mk : Led) (pairs : List (Str × Value)), nw = mk ++ base5 ∧ All2 (PIn mk) zs pairs ∧ DcOf (LsIn mk) pairs (plainTb (tb0.take i)) ∧ Apart mk base5) kvs0.length ?_ ?_ _ 0 [] base5 (Nat.zero_add _) ⟨[], [], rfl, .nil, .nil, fun _ h => nomatch h⟩
            · rintro i zs nw hlt ⟨mk, pairs, rfl, hzs, hdcp, hapk⟩ v I6 oI6 C6 oC6 D6 m6 h tk E' hP hC hx F N off ne
              obtain ⟨ky, yv, hky, hkis⟩ := hP
              obtain ⟨kt, rfl⟩ := Value.isStrOf_shape hkis
              obtain ⟨⟨ky', xs⟩, hxs, htk6, hkeq, hval⟩ := hdc0.at i _ hky
              dsimp only at hkeq hval
              subst hkeq
              have hg6 := valueAt_nodup (isDict_nodup hdo0) hky
              have hc5m : (FrL F0 + 1 + 1 + 1 + 1 + 1, q5) ∈ mk ++ base5 := List.mem_append_right _ hc55
              k_steps
              refine Stop.mk ?_
              rename Fr _ _ _ _ => F49
              (k_dflt (refine LCt.ListComp_T (F₀ := F49) (by with_unfolding_all rfl) (by decide) (by rfl) (by decide) (by rfl) ?_))
              k_steps
              refine Stop.mk ?_
              rename Fr _ _ _ _ => F50
              rename News _ _ _ _ => N50
              obtain ⟨av, vv, nv, rfl, hmv, hiv⟩ := hval
              have hxl4 : xs.length ≤ 4 := (hsz tb0 htb0m).2 _ (List.mem_of_getElem? hxs)
              have hvvl : vv.length ≤ 4 := by rw [hiv.length]; exact hxl4
              have hinI : ∀ p ∈ fx2, p ∈ (I6, oI6) :: (C6, oC6) :: (D6, lst zs) :: (mk ++ base5) := fun p hp => List.mem_cons_of_mem _ (List.mem_cons_of_mem _ (List.mem_cons_of_mem _ (List.mem_append_right _ (hin5 p hp))))
              (k_dflt (refine kda_item (knd := strKind PySem.Challenge.rw_ev0001_01.row.prog w) N50 (hinI _ hd0) hdo0 hkis hg6 ?_))
              k_steps
              refine Stop.mk ?_
              rename Fr _ _ _ _ => F51
              rename News _ _ _ _ => N51
              obtain ⟨baseI, hbaseI⟩ : ∃ baseI : Led, baseI = (I6, oI6) :: (C6, oC6) :: (D6, lst zs) :: (mk ++ base5) := ⟨_, rfl⟩
              rw [← hbaseI] at N51 hinI
              (k_dflt (refine LCt.CompSrcT.ledger (k := nv) rfl F51 N51 (hinI _ hmv) (by rw [sizeLine_eq, List.size_toArray]; omega) ?_))
              intro g
              refine compRestT_inv (fun i ws nw => nw = baseI ∧ IntsAre ws ((xs.take i).filter fun x => decide (x ≠ -1))) vv.toArray.size ?_ ?_ _ 0 [] baseI (Nat.zero_add _) ⟨rfl, .nil⟩
              · rintro i7 ws nw hlt7 ⟨hnw, hws⟩ v I7 oI7 C7 oC7 D7 m7 h tk E' hP hC7 hx7 F N off7 ne7
                have hnw2 := hnw.symm
                subst hnw2
                clear hnw
                obtain ⟨j7, t7, rfl, hj7⟩ := hiv.at i7 v (by simpa using hP)
                have htake7 : xs.take (i7 + 1) = xs.take i7 ++ [j7] := by rw [List.take_add_one, hj7]; rfl
                k_steps
                · rename j7 ≠ -1 => hc7
                  refine CompEnd.intro (by assumption) (by assumption) _ (fun p hp => hp) off7 (Or.inr ⟨_, hinI _ hmv, rfl, _, rfl⟩) ⟨rfl, ?_⟩
                  rw [htake7, List.filter_append]
                  have e : [j7].filter (fun x => decide (x ≠ -1)) = [j7] := by simp [hc7]
                  rw [e]
                  exact hws.append (.cons _ _ .nil)
                · rename j7 = -1 => hc7
                  refine CompEnd.intro (by assumption) (by assumption) _ (fun p hp => hp) off7 (Or.inr ⟨_, hinI _ hmv, rfl, _, rfl⟩) ⟨rfl, ?_⟩
                  rw [htake7, List.filter_append]
                  have e : [j7].filter (fun x => decide (x ≠ -1)) = [] := by simp [hc7]
                  rw [e, List.append_nil]
                  exact hws
              · rintro ws nw ⟨hnw, hws⟩
                have hnw2 := hnw.symm
                subst hnw2
                clear hnw
                unfold FinE
                intro D9 h tk F N off9
                have hws2 : IntsAre ws (xs.filter fun x => decide (x ≠ -1)) := by
                  rw [List.size_toArray, hiv.length, List.take_length] at hws
                  exact hws
                have off9' := Off1_mem off9
                k_steps
                have hTm : ∀ p ∈ baseI, p.1 < T8 := fun p hp => l8 p (List.mem_cons_of_mem _ hp)
                have hmI : ∀ x : Addr × Obj, x ∈ [(I6, oI6), (C6, oC6), (D6, lst zs)] → x ∈ baseI := fun x hx => by
                  rw [hbaseI]
                  simp only [List.mem_cons, List.not_mem_nil, or_false] at hx ⊢
                  rcases hx with rfl | rfl | rfl <;> simp
                have htup : (T8, ({ cls := .type "tuple", data := .seq #[.str ky kt, .ref D9] } : Obj)) ∈ (T8, ({ cls := .type "tuple", data := .seq #[.str ky kt, .ref D9] } : Obj)) :: (D9, lst ws) :: mk := List.mem_cons_self
                refine CompEnd.intro F8 N8 ((T8, { cls := .type "tuple", data := .seq #[.str ky kt, .ref D9] }) :: (D9, lst ws) :: (mk ++ base5)) (fun p hp => ?_) (off3_of fun p hp => ?_) ?_ ⟨(T8, { cls := .type "tuple", data := .seq #[.str ky kt, .ref D9] }) :: (D9, lst ws) :: mk, pairs ++ [(ky, .ref D9)], rfl, (hzs.mono fun _ _ ⟨T, t, n', e, hm⟩ => ⟨T, t, n', e, List.mem_cons_of_mem _ (List.mem_cons_of_mem _ hm)⟩).snoc ⟨T8, kt, 0, rfl, htup⟩, ?_, ?_⟩
                · rw [hbaseI]
                  simp only [List.mem_cons, List.mem_append] at hp ⊢; grind
                · simp only [List.mem_cons] at hp
                  rcases hp with rfl | rfl | hp
                  · exact ⟨(Nat.ne_of_lt (hTm (I6, oI6) (hmI _ (by simp)))).symm, (Nat.ne_of_lt (hTm (C6, oC6) (hmI _ (by simp)))).symm, (Nat.ne_of_lt (hTm (D6, lst zs) (hmI _ (by simp)))).symm⟩
                  · exact ⟨(off9' (I6, oI6) (hmI _ (by simp))).symm, (off9' (C6, oC6) (hmI _ (by simp))).symm, (off9' (D6, lst zs) (hmI _ (by simp))).symm⟩
                  · exact Off3.mem off p hp
                · exact List.mem_cons_of_mem _ (List.mem_cons_of_mem _ (List.mem_append_right _ (hin5 _ hd0)))
                · have e : plainTb (tb0.take (i + 1)) = plainTb (tb0.take i) ++ [(ky, xs.filter fun x => decide (x ≠ -1))] := by rw [htk6]; simp [plainTb]
                  rw [e]
                  exact (hdcp.mono fun _ _ z => ⟨z.1, z.2.mono fun _ h => List.mem_cons_of_mem _ (List.mem_cons_of_mem _ h)⟩).snoc ⟨rfl, D9, ws, _, rfl, List.mem_cons_of_mem _ List.mem_cons_self, hws2⟩
                · intro p hp q hq
                  have hqI : q ∈ baseI := by rw [hbaseI]; exact List.mem_cons_of_mem _ (List.mem_cons_of_mem _ (List.mem_cons_of_mem _ (List.mem_append_right _ hq)))
                  rcases List.mem_cons.mp hp with rfl | hp
                  · exact Nat.ne_of_gt (hTm q hqI)
                  · rcases List.mem_cons.mp hp with rfl | hp
                    · exact (off9' q hqI).symm
                    · exact hapk p hp q hq
            · rintro zs nw ⟨mk, pairs, rfl, hzs, hdcp, hapk⟩
              unfold FinE
              intro D6 h tk F N off
              have off6 := Off1_mem off
              have hdcp2 : DcOf (LsIn mk) pairs (plainTb tb0) := by rw [hdc0.length, List.take_length] at hdcp; exact hdcp
              have hpk : pairs.map (·.1) = kvs0.map (·.1) := by
                rw [hdcp2.keys, hdc0.keys]
                simp [plainTb, List.map_map]
              have hpl : pairs.length = kvs0.length := by
                have := congrArg List.length hpk
                simpa using this
              k_steps
              refine Stop.mk ?_
              rename Fr _ _ _ _ => F52
              rename News _ _ _ _ => N52
              (k_dflt (refine call_dict_pairs (prog := PySem.Challenge.rw_ev0001_01.row.prog) (w := w) (its := zs.toArray) (ax := D6) (pairs := pairs) rfl F52 N52 (modules_low (TopRead.nolimit (by k_asm))) List.mem_cons_self ?_ ?_ ?_ ?_ ?_))
              · rw [List.size_toArray, hzs.length]
              · rw [List.size_toArray, hzs.length, hpl, sizeLine_eq]; omega
              · rw [hpk]; exact isDict_nodup hdo0
              · intro j v kv hj hkv
                obtain ⟨kv', hkv', T, t, n', rfl, hT⟩ := hzs.get j v (by simpa using hj)
                rw [hkv] at hkv'
                cases hkv'
                exact ⟨T, t, n', rfl, List.mem_cons_of_mem _ (List.mem_append_left _ hT)⟩
              intro d9 o9 h53 tk53 F53 N53 l9 lo9 hd9
              k_steps
              refine Stop.mk ?_
              rename Fr _ _ _ _ => F54
              have hcs5 : ∀ p ∈ cellsOf (FrL F0) [o1, p2, p3, p4, q5, o6], p ∈ base5 := fun p hp => by
                rw [hbase5]
                simp only [cellsOf, List.mem_cons, List.not_mem_nil, or_false] at hp ⊢
                grind
              have hofmk : OffC (FrL F0) 6 mk := OffC.apart (os := [o1, p2, p3, p4, q5, o6]) hapk hcs5
              have hofD6 : ∀ i : Nat, i < 6 → @Ne Nat D6 (FrL F0 + i + 1) := OffC.of_ne (os := [o1, p2, p3, p4, q5, o6]) fun q hq => off6 q (List.mem_append_right _ (hcs5 q hq))
              have hofd9 : ∀ i : Nat, i < 6 → @Ne Nat d9 (FrL F0 + i + 1) := OffC.of_lt (Nat.lt_trans hLna (l9 (na, listOf vs.toArray n2) (List.mem_cons_of_mem _ (List.mem_append_right _ (hin5 _ hna2)))))
              obtain ⟨fx3, hfx3⟩ : ∃ fx3 : Led, fx3 = (d9, o9) :: (D6, lst zs) :: (mk ++ fx2) := ⟨_, rfl⟩
              have hoff3 : OffC (FrL F0) 6 fx3 := by rw [hfx3]; exact .cons hofd9 (.cons hofD6 (hofmk.append hoff2))
              have hin3 : ∀ p ∈ fx2, p ∈ fx3 := fun p hp => by rw [hfx3]; exact List.mem_cons_of_mem _ (List.mem_cons_of_mem _ (List.mem_append_right _ hp))
              have hd93 : (d9, o9) ∈ fx3 := by rw [hfx3]; exact List.mem_cons_self
              have hdcp3 : DcOf (LsIn fx3) pairs (plainTb tb0) := hdcp2.mono fun _ _ z => ⟨z.1, z.2.mono fun p hp => by rw [hfx3]; exact List.mem_cons_of_mem _ (List.mem_cons_of_mem _ (List.mem_append_left _ hp))⟩
              have NX5 : News _ _ _ (cellsOf (FrL F0) [o1, p2, p3, p4, q5, o6] ++ fx3) := fun p hp => N53 p (by
                rw [hfx3] at hp
                rw [hbase5]
                simp only [cellsOf, List.cons_append, List.nil_append, List.mem_cons, List.mem_append] at hp ⊢
                grind)
              have hys3 : All2 (DcIn PySem.Challenge.rw_ev0001_01.row.prog w LsIn fx3) ys tbs := hys2.mono fun _ _ z => DcIn.mono (P := LsIn) LsIn.mono hin3 z
              have hdct3 : DcOf (RlIn fx3) kvt (mrun tbs.flatten).1 := hdct.mono fun _ _ z => ⟨z.1, z.2.mono hin3⟩
              clear hapk hfx3 hofmk hofD6 hofd9 hcs5 hzs hdcp hdcp2
              (k_dflt (refine storeAt 5 F54 NX5 (by simp) (by rfl) (by rfl) (by rfl) ho6 hoff3 ?_))
              intro h55 q6 hq6 F55 N55
              simp only [List.set, cellsOf, List.cons_append, List.nil_append] at N55
              k_steps
              refine Stop.mk ?_
              rename News _ _ _ _ => N56
              have hts6 : TsIn PySem.Challenge.rw_ev0001_01.row.prog w LsIn _ (.ref D) tbs := ⟨D, ys, _, rfl, List.mem_cons_of_mem (nl1, listOf [Value.ref d9].toArray 0) (List.mem_cons_of_mem (FrL F0 + 1, o1) (List.mem_cons_of_mem (FrL F0 + 1 + 1, p2) (List.mem_cons_of_mem (FrL F0 + 1 + 1 + 1, p3) (List.mem_cons_of_mem (FrL F0 + 1 + 1 + 1 + 1, p4) (List.mem_cons_of_mem (FrL F0 + 1 + 1 + 1 + 1 + 1, q5) (List.mem_cons_of_mem (FrL F0 + 1 + 1 + 1 + 1 + 1 + 1, q6) (hin3 _ htsD2))))))), hys3.mono fun _ _ z => DcIn.mono (P := LsIn) LsIn.mono (fun p hp => by simp only [List.mem_cons]; simp only [hp, or_true]) z⟩
              k_dflt (refine' (tables_ (w := w) hts6 (by omega) hsz).use ?B ?F ?X N56 ?T ?hk ?hd ?hu ?_; (case B => k_asm); (case F => k_asm); (case X => k_asm); (case T => k_asm); (case hk => exact rfl); (case hd => ktr_room); (case hu => ktr_units))
              rintro r57 nw57 h57 tk57 F57 N57 ⟨made3, rfl, ⟨a57, us57, n57, rfl, hm57, hus57⟩, hap3⟩
              have hus57l : us57.length ≤ 4 := by rw [hus57.length]; exact htbl
              k_steps
              refine Stop.mk ?_
              rename Fr _ _ _ _ => F58
              rename News _ _ _ _ => N58
              (k_dflt (refine kmk_add_lit (zs := Value.ref d9 :: us57) F58 N58 (N58.isList (List.mem_append_right _ List.mem_cons_self)) (N58.isList (List.mem_append_left _ hm57)) rfl ?_ (by rw [sizeLine_eq]; show 1 + us57.length ≤ _; omega)))
              intro D8 h59 F59 N59 l59
              k_steps
              refine Stop.mk ?_
              rename News _ _ _ _ => N60
              have hin60 : ∀ p ∈ fx3, p ∈ (D8, listOf (Value.ref d9 :: us57).toArray 0) :: (made3 ++ ((nl1, listOf [Value.ref d9].toArray 0) :: (FrL F0 + 1, o1) :: (FrL F0 + 1 + 1, p2) :: (FrL F0 + 1 + 1 + 1, p3) :: (FrL F0 + 1 + 1 + 1 + 1, p4) :: (FrL F0 + 1 + 1 + 1 + 1 + 1, q5) :: (FrL F0 + 1 + 1 + 1 + 1 + 1 + 1, q6) :: fx3)) := fun p hp => by
                simp only [List.mem_cons, List.mem_append]; simp only [hp, or_true]
              have hts60 : TsIn PySem.Challenge.rw_ev0001_01.row.prog w RlIn ((D8, listOf (Value.ref d9 :: us57).toArray 0) :: (made3 ++ ((nl1, listOf [Value.ref d9].toArray 0) :: (FrL F0 + 1, o1) :: (FrL F0 + 1 + 1, p2) :: (FrL F0 + 1 + 1 + 1, p3) :: (FrL F0 + 1 + 1 + 1 + 1, p4) :: (FrL F0 + 1 + 1 + 1 + 1 + 1, q5) :: (FrL F0 + 1 + 1 + 1 + 1 + 1 + 1, q6) :: fx3))) (.ref D8) (plainTb tb0 :: tbs) :=
                ⟨D8, Value.ref d9 :: us57, 0, rfl, List.mem_cons_self, .cons ⟨d9, o9, pairs, rfl, hin60 _ hd93, lo9, hd9, (plain_rl hdcp3).mono fun _ _ z => ⟨z.1, z.2.mono hin60⟩⟩ (hus57.mono fun _ _ z => DcIn.mono (P := RlIn) RlIn.mono (fun p hp => List.mem_cons_of_mem _ (List.mem_append_left _ hp)) z)⟩
              have h3p : ∀ tb ∈ plainTb tb0 :: tbs, tb.length ≤ 3 := fun tb htb => by
                rcases List.mem_cons.mp htb with rfl | htb
                · rw [plainTb_len]; exact htb03
                · exact (hsz tb htb).1
              have h4p : ∀ tb ∈ plainTb tb0 :: tbs, ∀ e ∈ tb, e.2.length ≤ 4 := fun tb htb => by
                rcases List.mem_cons.mp htb with rfl | htb
                · exact plainTb_4 (hsz tb0 htb0m).2
                · exact (hsz tb htb).2
              have hl5p : (plainTb tb0 :: tbs).length ≤ 5 := by simp only [List.length_cons]; omega
              k_dflt (refine' (merged_ (w := w) hts60 hl5p h3p h4p (mok_all hl5p h3p h4p)).use ?B ?F ?X N60 ?T ?hk ?hd ?hu ?_; (case B => k_asm); (case F => k_asm); (case X => k_asm); (case T => k_asm); (case hk => exact rfl); (case hd => ktr_room); (case hu => ktr_units))
              rintro rv nw61 h61 tk61 F61 N61 ⟨made4, rfl, hrv, hap4⟩
              obtain ⟨fx4, hfx4⟩ : ∃ fx4 : Led, fx4 = made4 ++ ((D8, listOf (Value.ref d9 :: us57).toArray 0) :: (made3 ++ ((nl1, listOf [Value.ref d9].toArray 0) :: fx3))) := ⟨_, rfl⟩
              have hin4' : ∀ p ∈ fx3, p ∈ fx4 := fun p hp => by rw [hfx4]; simp only [List.mem_cons, List.mem_append]; simp only [hp, or_true]
              have hrv4 : DcIn PySem.Challenge.rw_ev0001_01.row.prog w RlIn fx4 rv (mrun (plainTb tb0 :: tbs).flatten).1 := DcIn.mono (P := RlIn) RlIn.mono (fun p hp => by rw [hfx4]; exact List.mem_append_left _ hp) hrv
              have N62 : News _ _ _ ((FrL F0 + 1, o1) :: (FrL F0 + 1 + 1, p2) :: (FrL F0 + 1 + 1 + 1, p3) :: (FrL F0 + 1 + 1 + 1 + 1, p4) :: (FrL F0 + 1 + 1 + 1 + 1 + 1, q5) :: (FrL F0 + 1 + 1 + 1 + 1 + 1 + 1, q6) :: fx4) := fun p hp => N61 p (by
                rw [hfx4] at hp
                simp only [List.mem_cons, List.mem_append] at hp ⊢
                grind)
              clear hap3 hap4 hts60 hts6 hrv hm57 hus57 hfx4 N61
              k_steps
              refine Stop.mk ?_
              rename Fr _ _ _ _ => F63
              (k_dflt (refine ListComp_U (F₀ := F63) (by with_unfolding_all rfl) (by decide) (by rfl) (by decide) (by rfl) ?_))
              k_steps
              refine Stop.mk ?_
              rename Fr _ _ _ _ => F64
              rename News _ _ _ _ => N64
              obtain ⟨base7, hbase7⟩ : ∃ base7 : Led, base7 = (FrL F0 + 1, o1) :: (FrL F0 + 1 + 1, p2) :: (FrL F0 + 1 + 1 + 1, p3) :: (FrL F0 + 1 + 1 + 1 + 1, p4) :: (FrL F0 + 1 + 1 + 1 + 1 + 1, q5) :: (FrL F0 + 1 + 1 + 1 + 1 + 1 + 1, q6) :: fx4 := ⟨_, rfl⟩
              have hin7 : ∀ p ∈ fx3, p ∈ base7 := fun p hp => by rw [hbase7]; have := hin4' p hp; simp only [List.mem_cons]; simp only [this, or_true]
              have hin74 : ∀ p ∈ fx4, p ∈ base7 := fun p hp => by rw [hbase7]; simp only [List.mem_cons]; simp only [hp, or_true]
              have hc47 : (FrL F0 + 1 + 1 + 1 + 1, p4) ∈ base7 := by rw [hbase7]; simp
              have hc67 : (FrL F0 + 1 + 1 + 1 + 1 + 1 + 1, q6) ∈ base7 := by rw [hbase7]; simp
              have N65 : News _ _ _ base7 := fun p hp => N64 p (by rw [hbase7] at hp; exact hp)
              have hdl7 : (dl, listOf dvs.toArray nd) ∈ base7 := hin7 _ (hin3 _ hdl2)
              have hmt7 : (dt, ot) ∈ base7 := hin7 _ (hin3 _ hmt)
              have hd97 : (d9, o9) ∈ base7 := hin7 _ hd93
              have hdvl : dvs.length ≤ 12 := by rw [strs_len hdvs]; exact hdue12
              (k_dflt (refine CompSrc.ledger (k := nd) rfl F64 N65 hdl7 (by rw [sizeLine_eq, List.size_toArray]; omega) ?_))
              intro g
              refine compRest_inv (fun i zs nw => ∃ (mk : Led) (prs : List (Str × Value)), nw = mk ++ base7 ∧ All2 (PIn mk) zs prs ∧ DcOf (RlIn base7) prs (((dueOf tbs).take i).map fun k => (k, pick (plainTb tb0) tbs k)) ∧ Apart mk base7) dvs.toArray.size ?_ ?_ _ 0 [] base7 (Nat.zero_add _) ⟨[], [], rfl, .nil, .nil, fun _ h => nomatch h⟩
              · rintro i zs nw hlt ⟨mk, prs, rfl, hzs, hdcp, hapk⟩ v I6 oI6 C6 oC6 D6 m6 h tk E' hP hC hx F N off ne
                obtain ⟨ky, kt, hky, rfl⟩ := strs_at hdvs i v (by simpa using hP)
                have htk6 : (dueOf tbs).take (i + 1) = (dueOf tbs).take i ++ [ky] := by rw [List.take_add_one, hky]; rfl
                have hkydue : ky ∈ dueOf tbs := List.mem_of_getElem? hky
                have hc47m : (FrL F0 + 1 + 1 + 1 + 1, p4) ∈ mk ++ base7 := List.mem_append_right _ hc47
                have hc67m : (FrL F0 + 1 + 1 + 1 + 1 + 1 + 1, q6) ∈ mk ++ base7 := List.mem_append_right _ hc67
                have hmem3 : ∀ p ∈ base7, p ∈ (I6, oI6) :: (C6, oC6) :: (D6, lst zs) :: (mk ++ base7) := fun p hp => List.mem_cons_of_mem _ (List.mem_cons_of_mem _ (List.mem_cons_of_mem _ (List.mem_append_right _ hp)))
                have fin : ∀ (x : Value) (T8 : Addr), RlIn base7 x (pick (plainTb tb0) tbs ky) → (∀ p ∈ (I6, oI6) :: (C6, oC6) :: (D6, lst zs) :: (mk ++ base7), p.1 < T8) →
                    (∀ p ∈ (I6, oI6) :: (C6, oC6) :: (D6, lst zs) :: ((T8, ({ cls := .type "tuple", data := .seq #[.str ky kt, x] } : Obj)) :: (mk ++ base7)), p ∈ (T8, ({ cls := .type "tuple", data := .seq #[.str ky kt, x] } : Obj)) :: (I6, oI6) :: (C6, oC6) :: (D6, lst zs) :: (mk ++ base7)) ∧
                    Off3 I6 C6 D6 ((T8, ({ cls := .type "tuple", data := .seq #[.str ky kt, x] } : Obj)) :: (mk ++ base7)) ∧
                    ∃ (mk' : Led) (prs' : List (Str × Value)), (T8, ({ cls := .type "tuple", data := .seq #[.str ky kt, x] } : Obj)) :: (mk ++ base7) = mk' ++ base7 ∧ All2 (PIn mk') (zs ++ [.ref T8]) prs' ∧ DcOf (RlIn base7) prs' (((dueOf tbs).take (i + 1)).map fun k => (k, pick (plainTb tb0) tbs k)) ∧ Apart mk' base7 := by
                  intro x T8 hx7 l8
                  refine ⟨fun p hp => ?_, off3_of fun p hp => ?_, (T8, { cls := .type "tuple", data := .seq #[.str ky kt, x] }) :: mk, prs ++ [(ky, x)], rfl, (hzs.mono fun _ _ ⟨T, t, n', e, hm⟩ => ⟨T, t, n', e, List.mem_cons_of_mem _ hm⟩).snoc ⟨T8, kt, 0, rfl, List.mem_cons_self⟩, ?_, ?_⟩
                  · simp only [List.mem_cons, List.mem_append] at hp ⊢; grind
                  · rcases List.mem_cons.mp hp with rfl | hp
                    · exact ⟨(Nat.ne_of_lt (l8 (I6, oI6) (by simp))).symm, (Nat.ne_of_lt (l8 (C6, oC6) (by simp))).symm, (Nat.ne_of_lt (l8 (D6, lst zs) (by simp))).symm⟩
                    · exact Off3.mem off p hp
                  · rw [htk6, List.map_append]
                    exact hdcp.snoc ⟨rfl, hx7⟩
                  · intro p hp q hq
                    rcases List.mem_cons.mp hp with rfl | hp
                    · exact Nat.ne_of_gt (l8 q (hmem3 q hq))
                    · exact hapk p hp q hq
                k_steps
                refine Stop.mk ?_
                rename News _ _ _ _ => N66
                rcases hdcp3.valueAt ky with ⟨hv0, hl0⟩ | ⟨x6', xs6, hv1, hl1, hx6⟩
                · obtain ⟨hrne, hlk⟩ := mrun_at hnds hkydue
                  rcases hdct3.valueAt ky with ⟨_, hl0'⟩ | ⟨x7, xs7, hv7, hl7, hx7⟩
                  · rw [hlk] at hl0'; cases hl0'
                  rw [hlk] at hl7
                  obtain rfl := Option.some.inj hl7
                  have hpk : pick (plainTb tb0) tbs ky = lm (rowsFor ky tbs) := by unfold pick; rw [hl0]; rfl
                  (k_dflt (refine kda_in (knd := strKind PySem.Challenge.rw_ev0001_01.row.prog w) N66 (hmem3 _ hd97) hd9 lo9 (strKind_is _ _ _ _) false (by rw [hv0]; rfl) ?_))
                  k_steps
                  refine Stop.mk ?_
                  rename News _ _ _ _ => N67
                  (k_dflt (refine kda_item (knd := strKind PySem.Challenge.rw_ev0001_01.row.prog w) N67 (hmem3 _ hmt7) hdot (strKind_is _ _ _ _) hv7 ?_))
                  k_steps
                  obtain ⟨e1, e2, e3⟩ := fin x7 T8 (by rw [hpk]; exact hx7.mono hin7) l8
                  exact CompEnd.intro F8 N8 _ e1 e2 (Or.inr ⟨_, List.mem_cons_of_mem _ (List.mem_append_right _ hdl7), rfl, _, rfl⟩) e3
                · have hpk : pick (plainTb tb0) tbs ky = xs6 := by unfold pick; rw [hl1]; rfl
                  have hx6r : RlIn fx3 x6' xs6 := ls_rl hx6 fun x hx => by
                    obtain ⟨e', he', heq⟩ := List.mem_map.mp (lookup_mem hl1)
                    have e2 : e'.2.filter (fun x => decide (x ≠ -1)) = xs6 := congrArg Prod.snd heq
                    rw [← e2] at hx
                    simpa using (List.mem_filter.mp hx).2
                  (k_dflt (refine kda_in (knd := strKind PySem.Challenge.rw_ev0001_01.row.prog w) N66 (hmem3 _ hd97) hd9 lo9 (strKind_is _ _ _ _) true (by rw [hv1]; rfl) ?_))
                  k_steps
                  refine Stop.mk ?_
                  rename News _ _ _ _ => N67
                  (k_dflt (refine kda_item (knd := strKind PySem.Challenge.rw_ev0001_01.row.prog w) N67 (hmem3 _ hd97) hd9 (strKind_is _ _ _ _) hv1 ?_))
                  k_steps
                  obtain ⟨e1, e2, e3⟩ := fin x6' T8 (by rw [hpk]; exact hx6r.mono hin7) l8
                  exact CompEnd.intro F8 N8 _ e1 e2 (Or.inr ⟨_, List.mem_cons_of_mem _ (List.mem_append_right _ hdl7), rfl, _, rfl⟩) e3
              · rintro zs nw ⟨mk, prs, rfl, hzs, hdcp, hapk⟩
                unfold FinE
                intro D6 h tk F N off
                have hdcp2 : DcOf (RlIn base7) prs ((dueOf tbs).map fun k => (k, pick (plainTb tb0) tbs k)) := by
                  rw [List.size_toArray, strs_len hdvs, List.take_length] at hdcp
                  exact hdcp
                have hpk : prs.map (·.1) = dueOf tbs := by
                  rw [hdcp2.keys, List.map_map]
                  exact List.map_id' _
                have hpl : prs.length ≤ 12 := by
                  have := congrArg List.length hpk
                  rw [List.length_map] at this
                  omega
                k_steps
                refine Stop.mk ?_
                rename Fr _ _ _ _ => F68
                rename News _ _ _ _ => N68
                (k_dflt (refine call_dict_pairs (prog := PySem.Challenge.rw_ev0001_01.row.prog) (w := w) (its := zs.toArray) (ax := D6) (pairs := prs) rfl F68 N68 (modules_low (TopRead.nolimit (by k_asm))) List.mem_cons_self ?_ ?_ ?_ ?_ ?_))
                · rw [List.size_toArray, hzs.length]
                · rw [List.size_toArray, hzs.length, sizeLine_eq]; omega
                · rw [hpk, ← hkeys]; exact isDict_nodup hdot
                · intro j v kv hj hkv
                  obtain ⟨kv', hkv', T, t, n', rfl, hT⟩ := hzs.get j v (by simpa using hj)
                  rw [hkv] at hkv'
                  cases hkv'
                  exact ⟨T, t, n', rfl, List.mem_cons_of_mem _ (List.mem_append_left _ hT)⟩
                intro d11 o11 h69 tk69 F69 N69 l11 lo11 hd11
                k_steps
                refine Stop.mk ?_
                rename News _ _ _ _ => N70
                have hb7 : ∀ p ∈ base7, p ∈ (d11, o11) :: (D6, lst zs) :: (mk ++ base7) := fun p hp => List.mem_cons_of_mem _ (List.mem_cons_of_mem _ (List.mem_append_right _ hp))
                have hA1 : DcIn PySem.Challenge.rw_ev0001_01.row.prog w RlIn ((d11, o11) :: (D6, lst zs) :: (mk ++ base7)) rv ((dueOf tbs).map fun k => (k, pick (plainTb tb0) tbs k)) := by
                  have e := plain_law (tb := tb0) (r := tr) (by rw [← htbs]; exact hnds)
                  rw [← htbs] at e
                  rw [← e]
                  exact DcIn.mono (P := RlIn) RlIn.mono (fun p hp => hb7 p (hin74 p hp)) hrv4
                have hA2 : DcIn PySem.Challenge.rw_ev0001_01.row.prog w RlIn ((d11, o11) :: (D6, lst zs) :: (mk ++ base7)) (.ref d11) ((dueOf tbs).map fun k => (k, pick (plainTb tb0) tbs k)) := ⟨d11, o11, prs, rfl, List.mem_cons_self, lo11, hd11, hdcp2.mono fun _ _ z => ⟨z.1, z.2.mono hb7⟩⟩
                (k_dflt (refine ne_dicts N70 hA1 hA2 (by ktr_units) ?_))
                k_steps
                rename Fr _ _ _ _ => FE
                rename News _ _ _ _ => NE
                have NF : News _ _ _ ((I, oI) :: (cellsOf (FrL F0) [o1, p2, p3, p4, q5, q6] ++ [(st, stO na a2 t4 n1), (na, listOf vs.toArray n2)])) := fun p hp => by
                  have hI7 := hb7 _ (hin7 _ (hin3 _ hI2))
                  have hst7' := hb7 _ (hin7 _ (hin3 _ hst2))
                  have hna7' := hb7 _ (hin7 _ (hin3 _ hna2))
                  refine NE p ?_
                  rcases List.mem_cons.mp hp with rfl | hp
                  · exact hI7
                  · rcases List.mem_append.mp hp with hp | hp
                    · refine hb7 p ?_
                      rw [hbase7]
                      simp only [cellsOf, List.mem_cons, List.not_mem_nil, or_false] at hp ⊢
                      grind
                    · simp only [List.mem_cons, List.not_mem_nil, or_false] at hp
                      rcases hp with rfl | rfl
                      · exact hst7'
                      · exact hna7'
                refine UnrEndW_sel FE NF Sel.head ?_ ⟨trivial, ?_, o1, p2, p3, p4, q5, q6, a2, t4, j + 1, k, rfl, rfl, ho1, ⟨_, hp2⟩, ⟨_, hp3⟩, ⟨_, hp4⟩, ⟨_, hq5⟩, ⟨_, hq6⟩, ha3, ?_⟩
                · intro p hp
                  rcases List.mem_append.mp hp with hp | hp
                  · simp only [cellsOf, List.mem_cons, List.not_mem_nil, or_false] at hp
                    show @Ne Nat _ _
                    rcases hp with rfl | rfl | rfl | rfl | rfl | rfl <;> (dsimp only; omega)
                  · simp only [List.mem_cons, List.not_mem_nil, or_false] at hp
                    rcases hp with rfl | rfl
                    · exact Nat.ne_of_lt hIs
                    · exact Nat.ne_of_lt (Nat.lt_trans hst7 hIs)
                · repeat' (first | exact Off.refl | refine Off.put (by k_mem) ?_)
                · push_cast at ha2; omega
  · rintro u nw ⟨o1, o2, o3, o4, o5, o6, a', t', j, k, hxs, rfl, ho1, ⟨x2, ho2⟩, ⟨x3, ho3⟩, ⟨x4, ho4⟩, ⟨x5, ho5⟩, ⟨x6, ho6⟩, ha1, ha2⟩ h tk F N
    simp only [offM, cellsOf, List.cons_append, List.nil_append] at F N
    k_steps
    refine Stop.mk ?_
    rename News _ _ _ _ => N80
    have hts80 : TsIn PySem.Challenge.rw_ev0001_01.row.prog w RlIn ((nl1, listOf ([] : List Value).toArray 0) :: (FrL F0 + 1, o1) :: (FrL F0 + 1 + 1, o2) :: (FrL F0 + 1 + 1 + 1, o3) :: (FrL F0 + 1 + 1 + 1 + 1, o4) :: (FrL F0 + 1 + 1 + 1 + 1 + 1, o5) :: (FrL F0 + 1 + 1 + 1 + 1 + 1 + 1, o6) :: [(st, stO na a' t' n1), (na, listOf vs.toArray n2)]) (.ref nl1) [] := ⟨nl1, [], 0, rfl, List.mem_cons_self, .nil⟩
    k_dflt (refine' (merged_ (w := w) hts80 (by decide) (fun _ h => nomatch h) (fun _ h => nomatch h) (mok_all (by decide) (fun _ h => nomatch h) (fun _ h => nomatch h))).use ?B ?F ?X N80 ?T ?hk ?hd ?hu ?_; (case B => k_asm); (case F => k_asm); (case X => k_asm); (case T => k_asm); (case hk => exact rfl); (case hd => ktr_room); (case hu => ktr_units))
    rintro rv nw81 h81 tk81 F81 N81 ⟨made9, rfl, ⟨d81, o81, kv81, rfl, hm81, lo81, hd81, hc81⟩, hap9⟩
    cases hc81
    k_steps
    refine Stop.mk ?_
    (k_here; k_dflt (refine' newDict_K ?k1 ?k2 (TopRead.nolimit (by k_asm)) ?_; (case k1 => k_asm); (case k2 => k_asm); k_whole))
    intro d82 h82 o82 F82 N82 l82 lo82 hd82 fs1 hi1 fi1
    clear fs1 hi1 fi1
    k_steps
    refine Stop.mk ?_
    rename News _ _ _ _ => N83
    (k_dflt (refine eq_empty N83 (List.mem_cons_of_mem _ (List.mem_append_left _ hm81)) List.mem_cons_self lo81 lo82 hd81 hd82 (by ktr_units) ?_))
    k_steps)
end
end
end Mine
theorem PySem.Challenge.cw_ev0001_01_holds : PySem.Challenge.rw_ev0001_01.Holds := by
  exact Mine.main_
