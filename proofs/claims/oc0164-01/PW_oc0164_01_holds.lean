import PyProof.Rows.All
import PyProof.ListRange
import OpenK.KMake
import KE.KUnpack
import KE.KNest
import KE.KLam
import KE.KSortKey
import KE.KSuper
import OpenK.XGo
import Wide.FinOn
import OpenK.AllK
import Wide.All
import PySem.Challenge.RW_oc0164_01
open PySem PySem.Spec PySem.Calls PyProof.Rows PySem.W
set_option Elab.async false
set_option maxRecDepth 100000
set_option maxHeartbeats 8000000
set_option linter.unusedVariables false
set_option genInjectivity false
set_option genSizeOf false
set_option compiler.extract_closed false
namespace Mine
section
noncomputable abbrev PP : Program := PySem.Challenge.pw_oc0164_01
noncomputable abbrev MM (w : World) : Model := model PP w
inductive PV where
  | none
  | bool (b : Bool)
  | int (i : Int)
  | str (s : Str)
  | list (xs : List PV)
  | tup (xs : List PV)
  | raw (v : Value)
  | own (a : Addr) (xs : List PV)
mutual
inductive Is (X : List Addr) (h : Heap) : Value -> PV -> Prop
  | none : Is X h .none .none
  | bool (b : Bool) : Is X h (.bool b) (.bool b)
  | int (i : Int) (t : Tok) : Is X h (.int i t) (.int i)
  | str (x : Str) (t : Tok) : Is X h (.str x t) (.str x)
  | raw (v : Value) : Is X h v (.raw v)
  | list {a : Addr} {vs : List Value} {xs : List PV} : a ∉ X -> h.PlainList a vs.toArray -> IsL X h vs xs -> Is X h (.ref a) (.list xs)
  | tup {a : Addr} {vs : List Value} {xs : List PV} : a ∉ X -> IsTup h a vs.toArray -> IsL X h vs xs -> Is X h (.ref a) (.tup xs)
inductive IsL (X : List Addr) (h : Heap) : List Value -> List PV -> Prop
  | nil : IsL X h [] []
  | cons {v : Value} {p : PV} {vs : List Value} {ps : List PV} : Is X h v p -> IsL X h vs ps -> IsL X h (v :: vs) (p :: ps)
end
structure Nx (N : Nat) (h h' : Heap) : Prop where
  kp : ∀ b o,h.get? b = some o -> (N <= b ∨ o.cls ≠ .none) -> h'.get? b = some o
  sz : h.objs.size <= h'.objs.size
theorem Nx.refl {N : Nat} (h : Heap) : Nx N h h := ⟨fun _ _ e _ => e,Nat.le_refl _⟩
theorem Nx.trans {N : Nat} {a b c : Heap} (x : Nx N a b) (y : Nx N b c) : Nx N a c := ⟨fun i o e n => y.kp i o (x.kp i o e n) n,Nat.le_trans x.sz y.sz⟩
theorem Nx.of_keep {N : Nat} {h h' : Heap} (k : ∀ b o,h.get? b = some o -> h'.get? b = some o) (z : h.objs.size <= h'.objs.size) : Nx N h h' := ⟨fun b o e _ => k b o e,z⟩
theorem Nx.push {N : Nat} (h : Heap) (o : Obj) : Nx N h (h.push o) := .of_keep (fun _ _ e => Heap.get?_push_of_some o e) (by rw [Heap.size_push]; lia)
theorem Nx.isList {N : Nat} {h h' : Heap} (n : Nx N h h') {a : Addr} {xs : Array Value} (x : h.PlainList a xs) : h'.PlainList a xs :=
  let ⟨k,ho⟩ := x; ⟨k,n.kp a _ ho (.inr (by intro e; cases e))⟩
theorem Nx.isTuple {N : Nat} {h h' : Heap} (n : Nx N h h') {a : Addr} {xs : Array Value} (x : IsTup h a xs) : IsTup h' a xs :=
  let ⟨o,ho,hc,r⟩ := x; ⟨o,n.kp a o ho (.inr (by rw [hc]; intro e; cases e)),hc,r⟩
theorem Nx.ns {N : Nat} {h h' : Heap} (n : Nx N h h') {a : Addr} {m : Str -> Option Value} (hN : N <= a) (x : h.Ns a m) : h'.Ns a m :=
  let ⟨o,es,ep,ho,r⟩ := x; ⟨o,es,ep,n.kp a o ho (.inl hN),r⟩
theorem Nx.cell {N : Nat} {h h' : Heap} (n : Nx N h h') {a : Addr} {m : Option Value} (hN : N <= a) (x : h.IsCell a m) : h'.IsCell a m :=
  let ⟨o,ho,r⟩ := x; ⟨o,n.kp a o ho (.inl hN),r⟩
section
variable {X Y : List Addr} {h h' : Heap} (k : ∀ a o xs n,a ∉ X -> h.get? a = some o -> o.data = .seq xs n -> o.cls ≠ .none -> a ∉ Y ∧ h'.get? a = some o)
include k
theorem list_kp {a : Addr} {vs : Array Value} (z : a ∉ X) (q : h.PlainList a vs) : a ∉ Y ∧ h'.PlainList a vs := by
  obtain ⟨n,ho⟩ := q
  have t := k _ _ _ _ z ho rfl (by intro e; cases e)
  exact ⟨t.1,n,t.2⟩
theorem tup_kp {a : Addr} {vs : Array Value} (z : a ∉ X) (q : IsTup h a vs) : a ∉ Y ∧ IsTup h' a vs := by
  obtain ⟨o,ho,hc,n,hd⟩ := q
  have t := k _ _ _ _ z ho hd (by rw [hc]; intro e; cases e)
  exact ⟨t.1,o,t.2,hc,n,hd⟩
theorem Is.kp {v : Value} {p : PV} (x : Is X h v p) : Is Y h' v p :=
  Is.rec (motive_1 := fun v p _ => Is Y h' v p) (motive_2 := fun vs ps _ => IsL Y h' vs ps) .none .bool .int .str .raw (fun z a _ ih => .list (list_kp k z a).1 (list_kp k z a).2 ih) (fun z a _ ih => .tup (tup_kp k z a).1 (tup_kp k z a).2 ih) .nil (fun _ _ a b => .cons a b) x
theorem IsL.kp {vs : List Value} {ps : List PV} (x : IsL X h vs ps) : IsL Y h' vs ps :=
  IsL.rec (motive_1 := fun v p _ => Is Y h' v p) (motive_2 := fun vs ps _ => IsL Y h' vs ps) .none .bool .int .str .raw (fun z a _ ih => .list (list_kp k z a).1 (list_kp k z a).2 ih) (fun z a _ ih => .tup (tup_kp k z a).1 (tup_kp k z a).2 ih) .nil (fun _ _ a b => .cons a b) x
end
theorem Is.nx {N : Nat} {X : List Addr} {h h' : Heap} (n : Nx N h h') {v : Value} {p : PV} (x : Is X h v p) : Is X h' v p :=
  x.kp fun a o _ _ z ho _ hc => ⟨z,n.kp a o ho (.inr hc)⟩
theorem IsL.nx {N : Nat} {X : List Addr} {h h' : Heap} (n : Nx N h h') {vs : List Value} {ps : List PV} (x : IsL X h vs ps) : IsL X h' vs ps :=
  x.kp fun a o _ _ z ho _ hc => ⟨z,n.kp a o ho (.inr hc)⟩
theorem Is.sub {X Y : List Addr} {h : Heap} (n : ∀ a ∈ Y,a ∈ X) {v : Value} {p : PV} (x : Is X h v p) : Is Y h v p :=
  x.kp fun _ _ _ _ z ho _ _ => ⟨fun m => z (n _ m),ho⟩
theorem IsL.sub {X Y : List Addr} {h : Heap} (n : ∀ a ∈ Y,a ∈ X) {vs : List Value} {ps : List PV} (x : IsL X h vs ps) : IsL Y h vs ps :=
  x.kp fun _ _ _ _ z ho _ _ => ⟨fun m => z (n _ m),ho⟩
theorem Is.grow {X Y : List Addr} {h : Heap} (n : ∀ a ∈ Y,a ∈ X ∨ h.objs.size <= a) {v : Value} {p : PV} (x : Is X h v p) : Is Y h v p :=
  x.kp fun _ _ _ _ z ho _ _ => ⟨fun m => (n _ m).elim z fun q => Nat.lt_irrefl _ (Nat.lt_of_lt_of_le (Heap.lt_size ho) q),ho⟩
theorem IsL.grow {X Y : List Addr} {h : Heap} (n : ∀ a ∈ Y,a ∈ X ∨ h.objs.size <= a) {vs : List Value} {ps : List PV} (x : IsL X h vs ps) : IsL Y h vs ps :=
  x.kp fun _ _ _ _ z ho _ _ => ⟨fun m => (n _ m).elim z fun q => Nat.lt_irrefl _ (Nat.lt_of_lt_of_le (Heap.lt_size ho) q),ho⟩
section
variable {X : List Addr} {h : Heap}
theorem IsL.length : ∀ {vs : List Value} {ps : List PV},IsL X h vs ps -> vs.length = ps.length
  | _, _, .nil => rfl
  | _, _, .cons _ b => by rw [List.length_cons,List.length_cons,b.length]
theorem IsL.get {vs : List Value} {ps : List PV} (x : IsL X h vs ps) {i : Nat} {v : Value} (e : vs[i]? = some v) : ∃ p,ps[i]? = some p ∧ Is X h v p := by
  induction vs generalizing ps i with
  | nil => rw [List.getElem?_nil] at e; cases e
  | cons u vs ih =>
    cases x with
    | cons a b =>
      cases i with
      | zero => obtain rfl := Option.some.inj (show some u = some v from e); exact ⟨_,rfl,a⟩
      | succ i => exact ih b e
theorem IsL.get' {vs : List Value} {ps : List PV} (x : IsL X h vs ps) {i : Nat} {p : PV} (e : ps[i]? = some p) : ∃ v,vs[i]? = some v ∧ Is X h v p := by
  induction ps generalizing vs i with
  | nil => rw [List.getElem?_nil] at e; cases e
  | cons u ps ih =>
    cases x with
    | cons a b =>
      cases i with
      | zero => obtain rfl := Option.some.inj (show some u = some p from e); exact ⟨_,rfl,a⟩
      | succ i => exact ih b e
theorem IsL.append : ∀ {vs : List Value} {ps : List PV} {us : List Value} {qs : List PV},IsL X h vs ps -> IsL X h us qs -> IsL X h (vs ++ us) (ps ++ qs)
  | _, _, _, _, .nil,y => y
  | _, _, _, _, .cons a b,y => .cons a (b.append y)
theorem IsL.snoc {vs : List Value} {ps : List PV} {v : Value} {p : PV} (x : IsL X h vs ps) (y : Is X h v p) : IsL X h (vs ++ [v]) (ps ++ [p]) := x.append (.cons y .nil)
theorem IsL.reverse : ∀ {vs : List Value} {ps : List PV},IsL X h vs ps -> IsL X h vs.reverse ps.reverse
  | _, _, .nil => .nil
  | _, _, .cons a b => by rw [List.reverse_cons,List.reverse_cons]; exact b.reverse.append (.cons a .nil)
theorem IsL.drop : ∀ (k : Nat) {vs : List Value} {ps : List PV},IsL X h vs ps -> IsL X h (vs.drop k) (ps.drop k)
  | 0, _, _,x => x
  | _ + 1, _, _, .nil => .nil
  | k + 1, _, _, .cons _ b => b.drop k
theorem IsL.take : ∀ (k : Nat) {vs : List Value} {ps : List PV},IsL X h vs ps -> IsL X h (vs.take k) (ps.take k)
  | 0, _, _, _ => .nil
  | _ + 1, _, _, .nil => .nil
  | k + 1, _, _, .cons a b => .cons a (b.take k)
theorem IsL.places : ∀ {vs : List Value} {ps : List PV},IsL X h vs ps -> ∀ js : List Nat,IsL X h (js.filterMap (vs[·]?)) (js.filterMap (ps[·]?))
  | _, _, _, [] => .nil
  | vs,ps,x,j :: js => by
    have ih := IsL.places x js
    cases hn : ps[j]? with
    | some n =>
      obtain ⟨v,hv,iv⟩ := x.get' hn
      simp only [List.filterMap_cons,hn,hv]
      exact .cons iv ih
    | none =>
      have hv : vs[j]? = none := by rw [List.getElem?_eq_none_iff] at hn ⊢; rw [x.length]; exact hn
      simp only [List.filterMap_cons,hn,hv]
      exact ih
theorem IsL.ofInts : ∀ {vs : List Value} {ns : List Int},IntsAre vs ns -> IsL X h vs (ns.map PV.int)
  | _, _, .nil => .nil
  | _, _, .cons n t r => .cons (.int n t) (IsL.ofInts r)
theorem Is.int_inv {v : Value} {i : Int} (x : Is X h v (.int i)) : ∃ t,v = .int i t := by cases x; exact ⟨_,rfl⟩
theorem Is.str_inv {v : Value} {i : Str} (x : Is X h v (.str i)) : ∃ t,v = .str i t := by cases x; exact ⟨_,rfl⟩
theorem Is.raw_inv {v u : Value} (x : Is X h v (.raw u)) : v = u := by cases x; rfl
theorem Is.bool_inv {v : Value} {i : Bool} (x : Is X h v (.bool i)) : v = .bool i := by cases x; rfl
theorem Is.list_inv {v : Value} {xs : List PV} (x : Is X h v (.list xs)) : ∃ a vs,v = .ref a ∧ a ∉ X ∧ h.PlainList a vs.toArray ∧ IsL X h vs xs := by
  cases x with
  | list z a b => exact ⟨_, _,rfl,z,a,b⟩
theorem Is.tup_inv {v : Value} {xs : List PV} (x : Is X h v (.tup xs)) : ∃ a vs,v = .ref a ∧ a ∉ X ∧ IsTup h a vs.toArray ∧ IsL X h vs xs := by
  cases x with
  | tup z a b => exact ⟨_, _,rfl,z,a,b⟩
theorem IsL.ints : ∀ {vs : List Value} {ns : List Int},IsL X h vs (ns.map PV.int) -> IntsAre vs ns
  | _, [], .nil => .nil
  | v :: vs,n :: ns,x => by
    have x' : IsL X h (v :: vs) (PV.int n :: ns.map PV.int) := x
    cases x' with
    | cons a b =>
      obtain ⟨t,rfl⟩ := a.int_inv
      exact .cons n t b.ints
end
noncomputable def NotCode (o : Obj) : Prop := (∀ fd,o.data ≠ .func fd) ∧ ∀ vs,o.data = .fields vs -> ∀ x t,vs[1]? ≠ some (Value.str x t)
theorem NotCode.fields {o : Obj} {vs : Array Value} (hd : o.data = .fields vs) (hc : ∀ x t,vs[1]? ≠ some (Value.str x t)) : NotCode o := ⟨(fun fd e => by rw [hd] at e; cases e),fun vs' e => by rw [hd] at e; cases e; exact hc⟩
theorem NotCode.dict {o : Obj} {es : Array DictEntry} {n : Nat} (hd : o.data = .dict es n) : NotCode o := ⟨(fun fd e => by rw [hd] at e; cases e),fun vs e => by rw [hd] at e; cases e⟩
theorem NotCode.cell {o : Obj} {v : Option Value} (hd : o.data = .cell v) : NotCode o := ⟨(fun fd e => by rw [hd] at e; cases e),fun vs e => by rw [hd] at e; cases e⟩
theorem NotCode.seq {o : Obj} {xs : Array Value} {n : Nat} (hd : o.data = .seq xs n) : NotCode o := ⟨(fun fd e => by rw [hd] at e; cases e),fun vs e => by rw [hd] at e; cases e⟩
structure TbOk (N : Nat) (X : List Addr) (Tb : Heap -> Prop) : Prop where
  keep : ∀ h h',(∀ b o,h.get? b = some o -> h'.get? b = some o) -> h.objs.size <= h'.objs.size -> Tb h -> Tb h'
  upd : ∀ h h' a o,N <= a -> h.get? a = some o -> NotCode o -> (∀ b x,b ≠ a -> h.get? b = some x -> h'.get? b = some x) -> h.objs.size <= h'.objs.size -> Tb h -> Tb h'
  size : ∀ h,Tb h -> N <= h.objs.size
  low : ∀ h,Tb h -> ∀ x ∈ X,x < h.objs.size
  limit : ∀ h,Tb h -> h.NoLimit
theorem TbOk.push {N : Nat} {X : List Addr} {Tb : Heap -> Prop} (T : TbOk N X Tb) {h : Heap} (x : Tb h) (o : Obj) : Tb (h.push o) :=
  T.keep _ _ (fun _ _ e => Heap.get?_push_of_some o e) (by rw [Heap.size_push]; lia) x
theorem TbOk.fresh {N : Nat} {X : List Addr} {Tb : Heap -> Prop} (T : TbOk N X Tb) {h : Heap} (x : Tb h) : h.objs.size ∉ X := fun m => Nat.lt_irrefl _ (T.low h x _ m)
noncomputable def TbX (Top : Heap -> Prop) (X : List Addr) : Heap -> Prop := fun h => Top h ∧ ∀ x ∈ X,x < h.objs.size
theorem TbX.ok {N : Nat} {Top : Heap -> Prop} (T : TbOk N [] Top) (X : List Addr) : TbOk N X (TbX Top X) where
  keep := fun h h' k z x => ⟨T.keep h h' k z x.1,fun y hy => Nat.lt_of_lt_of_le (x.2 y hy) z⟩
  upd := fun h h' a o n e c k z x => ⟨T.upd h h' a o n e c k z x.1,fun y hy => Nat.lt_of_lt_of_le (x.2 y hy) z⟩
  size := fun h x => T.size h x.1
  low := fun h x => x.2
  limit := fun h x => T.limit h x.1
structure AOk (A : Around) (d : Nat) : Prop where
  hd : A.handled = none
  dp : A.depth + d < 700
  un : A.units + 100 * d < 5000
theorem AOk.less {A : Around} {d e : Nat} (x : AOk A d) (h : e <= d) : AOk A e := ⟨x.hd,by have := x.dp; lia,by have := x.un; lia⟩
section
variable (w : World) (N : Nat) (X : List Addr) (Tb : Heap -> Prop)
structure GV (A : Around) (C : Heap -> Prop) (t : Sem Value) (P : Heap -> Value -> Prop) : Prop where
  run : ∀ (s : Shared) (Q : Value -> Shared -> Prop) (E : Value -> Shared -> Prop),C s.heap -> Tb s.heap ->
    (∀ v h' tk,Nx N s.heap h' -> Tb h' -> P h' v -> Q v { s with heap := h',toks := tk }) -> wpAny (MM w) A t Q E s
noncomputable abbrev EV (A : Around) (env : Env) (C : Heap -> Prop) (e : Expr) (P : Heap -> Value -> Prop) : Prop := GV w N Tb A C (eval e env) P
structure BV (A : Around) (env : Env) (C : Heap -> Prop) (e : Expr) (b : Bool) : Prop where
  run : ∀ (s : Shared) (Q : Bool -> Shared -> Prop) (E : Value -> Shared -> Prop),C s.heap -> Tb s.heap ->
    (∀ h' tk,Nx N s.heap h' -> Tb h' -> Q b { s with heap := h',toks := tk }) -> wpAny (MM w) A (isTrue e env (eval e env)) Q E s
structure EVs (A : Around) (env : Env) (C : Heap -> Prop) (pos : Pos) (es : List Expr) (ps : List PV) : Prop where
  run : ∀ (s : Shared) (Q : List Value -> Shared -> Prop) (E : Value -> Shared -> Prop),C s.heap -> Tb s.heap ->
    (∀ vs h' tk,Nx N s.heap h' -> Tb h' -> IsL X h' vs ps -> Q vs { s with heap := h',toks := tk }) -> wpAny (MM w) A (spliced (backTo pos (starEach es env))) Q E s
end
noncomputable def IsP (X : List Addr) (p : PV) : Heap -> Value -> Prop := fun h v => Is X h v p
noncomputable def Stb (N : Nat) (C : Heap -> Prop) : Prop := ∀ h h',C h -> Nx N h h' -> C h'
end
section
section
variable {w : World} {N : Nat} {X : List Addr} {Tb : Heap -> Prop} {A : Around} {env : Env} {C : Heap -> Prop}
theorem GV.same {t : Sem Value} {P : Heap -> Value -> Prop} (h : ∀ (s : Shared) (Q : Value -> Shared -> Prop) (E : Value -> Shared -> Prop),C s.heap -> Tb s.heap -> (∀ v tk,P s.heap v -> Q v { s with toks := tk }) -> wpAny (MM w) A t Q E s) : GV w N Tb A C t P :=
  ⟨fun s Q E hC hT k => h s Q E hC hT fun v tk p => k v s.heap tk (.refl _) hT p⟩
theorem GV.imp {t : Sem Value} {C' : Heap -> Prop} {P P' : Heap -> Value -> Prop} (x : GV w N Tb A C t P) (hc : ∀ h,Tb h -> C' h -> C h) (hp : ∀ h v,Tb h -> P h v -> P' h v) : GV w N Tb A C' t P' :=
  ⟨fun s Q E hC hT k => x.run s Q E (hc _ hT hC) hT fun v h' tk n t p => k v h' tk n t (hp _ _ t p)⟩
theorem EV.cint {i : Int} {k : Nat} {pos : Pos} : EV w N Tb A env C (.Constant (.int i) k pos) (IsP X (.int i)) :=
  GV.same fun _ _ _ _ _ h => wpAny_Constant_int (h _ _ (.int _ _))
theorem EV.cstr {x : Str} {k : Nat} {pos : Pos} : EV w N Tb A env C (.Constant (.str x) k pos) (IsP X (.str x)) :=
  GV.same fun _ _ _ _ _ h => wpAny_Constant_str (h _ _ (.str _ _))
noncomputable def OP (w : World) (N : Nat) (X : List Addr) (Tb : Heap -> Prop) (A : Around) (op : Operator) (p q c : PV) : Prop :=
  ∀ v u,GV w N Tb A (fun h => Is X h v p ∧ Is X h u q) (binaryOp op v u) (IsP X c)
noncomputable def CP (w : World) (N : Nat) (X : List Addr) (Tb : Heap -> Prop) (A : Around) (op : CmpOp) (p q : PV) (c : Bool) : Prop :=
  ∀ v u,GV w N Tb A (fun h => Is X h v p ∧ Is X h u q) (compareOp op v u) (IsP X (.bool c))
theorem EV.bin {l r : Expr} {op : Operator} {pos : Pos} {p q c : PV} (hC : Stb N C) (hl : EV w N Tb A env C l (IsP X p)) (hr : EV w N Tb A env C r (IsP X q)) (ho : OP w N X Tb A op p q c) :
    EV w N Tb A env C (.BinOp l op r pos) (IsP X c) := by
  constructor
  intro s Q E hc hT k
  refine wpAny_BinOp (hl.run s _ E hc hT fun v h₁ t₁ n₁ T₁ i₁ => ?_)
  refine hr.run _ _ E (hC _ _ hc n₁) T₁ fun u h₂ t₂ n₂ T₂ i₂ => ?_
  exact (ho v u).run _ _ E ⟨i₁.nx n₂,i₂⟩ T₂ fun x h₃ t₃ n₃ T₃ i₃ => k x h₃ t₃ ((n₁.trans n₂).trans n₃) T₃ i₃
theorem EV.cmp {l r : Expr} {op : CmpOp} {pos : Pos} {p q : PV} {c : Bool} (hC : Stb N C) (hl : EV w N Tb A env C l (IsP X p)) (hr : EV w N Tb A env C r (IsP X q)) (ho : CP w N X Tb A op p q c)
    (hm : behindInMarks op r = false := by with_unfolding_all rfl) : EV w N Tb A env C (.Compare l [op] [r] pos) (IsP X (.bool c)) := by
  constructor
  intro s Q E hc hT k
  refine wpAny_Compare1 (hl.run s _ E hc hT fun v h₁ t₁ n₁ T₁ i₁ => ?_) hm
  refine hr.run _ _ E (hC _ _ hc n₁) T₁ fun u h₂ t₂ n₂ T₂ i₂ => ?_
  exact (ho v u).run _ _ E ⟨i₁.nx n₂,i₂⟩ T₂ fun x h₃ t₃ n₃ T₃ i₃ => k x h₃ t₃ ((n₁.trans n₂).trans n₃) T₃ i₃
theorem BV.cmp {l r : Expr} {op : CmpOp} {pos : Pos} {p q : PV} {c : Bool} (hC : Stb N C) (hl : EV w N Tb A env C l (IsP X p)) (hr : EV w N Tb A env C r (IsP X q)) (ho : CP w N X Tb A op p q c)
    (hm : behindInMarks op r = false := by with_unfolding_all rfl) : BV w N Tb A env C (.Compare l [op] [r] pos) c := by
  constructor
  intro s Q E hc hT k
  refine wpAny_isTrue_Compare1 (hl.run s _ E hc hT fun v h₁ t₁ n₁ T₁ i₁ => ?_) hm
  refine hr.run _ _ E (hC _ _ hc n₁) T₁ fun u h₂ t₂ n₂ T₂ i₂ => ?_
  refine (ho v u).run _ _ E ⟨i₁.nx n₂,i₂⟩ T₂ fun x h₃ t₃ n₃ T₃ i₃ => ?_
  obtain rfl := Is.bool_inv i₃
  exact wpAny_truthy_bool (k h₃ t₃ ((n₁.trans n₂).trans n₃) T₃)
theorem EV.ite {t b o : Expr} {pos : Pos} {c : Bool} {p q r : PV} (hC : Stb N C) (ht : BV w N Tb A env C t c) (hb : c = true -> EV w N Tb A env C b (IsP X p)) (ho : c = false -> EV w N Tb A env C o (IsP X q))
    (hr : (if c then p else q) = r) : EV w N Tb A env C (.IfExp t b o pos) (IsP X r) := by
  constructor
  intro s Q E hc hT k
  refine IfExp_ (ht.run s _ E hc hT fun h₁ t₁ n₁ T₁ => ?_)
  cases c with
  | true => exact (hb rfl).run _ _ E (hC _ _ hc n₁) T₁ fun v h₂ t₂ n₂ T₂ i₂ => k v h₂ t₂ (n₁.trans n₂) T₂ (by cases hr; exact i₂)
  | false => exact (ho rfl).run _ _ E (hC _ _ hc n₁) T₁ fun v h₂ t₂ n₂ T₂ i₂ => k v h₂ t₂ (n₁.trans n₂) T₂ (by cases hr; exact i₂)
theorem EV.iteI {t b o : Expr} {pos : Pos} {c : Bool} {p q : Int} (hC : Stb N C) (ht : BV w N Tb A env C t c) (hb : EV w N Tb A env C b (IsP X (.int p))) (ho : EV w N Tb A env C o (IsP X (.int q))) :
    EV w N Tb A env C (.IfExp t b o pos) (IsP X (.int (if c then p else q))) :=
  EV.ite hC ht (fun _ => hb) (fun _ => ho) (by cases c <;> rfl)
theorem EVs.nil {pos : Pos} : EVs w N X Tb A env C pos [] [] := ⟨fun s _ _ _ hT k => args_nil (k [] s.heap s.toks (.refl _) hT .nil)⟩
theorem EVs.cons {pos : Pos} {e : Expr} {es : List Expr} {p : PV} {ps : List PV} (hC : Stb N C) (h : EV w N Tb A env C e (IsP X p)) (hs : EVs w N X Tb A env C pos es ps)
    (he : starEach (e :: es) env = (false,eval e env) :: starEach es env := by rfl) : EVs w N X Tb A env C pos (e :: es) (p :: ps) := by
  constructor
  intro s Q E hc hT k
  refine args_cons (h.run s _ E hc hT fun v h₁ t₁ n₁ T₁ i₁ => ?_) he
  exact hs.run _ _ E (hC _ _ hc n₁) T₁ fun vs h₂ t₂ n₂ T₂ i₂ => k _ h₂ t₂ (n₁.trans n₂) T₂ (.cons (i₁.nx n₂) i₂)
theorem EV.list {es : List Expr} {pos : Pos} {ps : List PV} (T : TbOk N X Tb) (h : EVs w N X Tb A env C pos es ps) (hz : ps.length <= sizeLine) : EV w N Tb A env C (.List es pos) (IsP X (.list ps)) := by
  constructor
  intro s Q E hc hT k
  refine wpAny_List (h.run s _ E hc hT fun vs h₁ t₁ n₁ T₁ i₁ => ⟨by rw [i₁.length]; exact hz, ?_⟩)
  exact k _ _ t₁ (n₁.trans (.push _ _)) (T.push T₁ _) (.list (T.fresh T₁) ⟨_,Heap.get?_push_size _ rfl⟩ (i₁.nx (.push (N := N) _ _)))
theorem EV.tup {es : List Expr} {pos : Pos} {ps : List PV} {j : Nat} (T : TbOk N X Tb) (h : EVs w N X Tb A env C pos es ps) (hz : ps.length <= sizeLine) : EV w N Tb A env C (.Tuple es j pos) (IsP X (.tup ps)) := by
  constructor
  intro s Q E hc hT k
  refine wpAny_Tuple (h.run s _ E hc hT fun vs h₁ t₁ n₁ T₁ i₁ => ⟨by rw [i₁.length]; exact hz, ?_⟩)
  exact k _ _ t₁ (n₁.trans (.push _ _)) (T.push T₁ _) (.tup (T.fresh T₁) ⟨_,Heap.get?_push_size _ rfl,rfl, _,rfl⟩ (i₁.nx (.push (N := N) _ _)))
theorem EV.neg {e : Expr} {pos : Pos} {i : Int} (h : EV w N Tb A env C e (IsP X (.int i))) : EV w N Tb A env C (.UnaryOp .USub e pos) (IsP X (.int (-i))) := by
  constructor
  intro s Q E hc hT k
  refine UnaryOp_ (h.run s _ E hc hT fun v h₁ t₁ n₁ T₁ i₁ => ?_)
  obtain ⟨t,rfl⟩ := Is.int_inv i₁
  exact neg_int (k _ h₁ _ n₁ T₁ (.int _ _))
section ops
variable {a b : Int}
theorem OP.mk {op : Operator} {p q c : PV} (h : ∀ v u (s : Shared) (Q : Value -> Shared -> Prop) (E : Value -> Shared -> Prop),Is X s.heap v p -> Is X s.heap u q -> (∀ x tk,Is X s.heap x c -> Q x { s with toks := tk }) -> wpAny (MM w) A (binaryOp op v u) Q E s) :
    OP w N X Tb A op p q c := fun v u => GV.same fun s Q E hc _ k => h v u s Q E hc.1 hc.2 k
theorem CP.mk {op : CmpOp} {p q : PV} {c : Bool} (h : ∀ v u (s : Shared) (Q : Value -> Shared -> Prop) (E : Value -> Shared -> Prop),Is X s.heap v p -> Is X s.heap u q -> (∀ tk,Q (.bool c) { s with toks := tk }) -> wpAny (MM w) A (compareOp op v u) Q E s) :
    CP w N X Tb A op p q c := fun v u => GV.same fun s Q E hc _ k => h v u s Q E hc.1 hc.2 fun tk => k _ tk (.bool _)
theorem OP.intI {op : Operator} {x : Int} (h : ∀ t u (s : Shared) (Q : Value -> Shared -> Prop) (E : Value -> Shared -> Prop),Q (.int x s.toks) { s with toks := s.toks + 1 } -> wpAny (MM w) A (binaryOp op (.int a t) (.int b u)) Q E s) :
    OP w N X Tb A op (.int a) (.int b) (.int x) := .mk fun v u s Q E i j k => by
  obtain ⟨t,rfl⟩ := i.int_inv
  obtain ⟨u,rfl⟩ := j.int_inv
  exact h t u s Q E (k _ _ (.int _ _))
theorem CP.intI {op : CmpOp} {x : Bool} (h : ∀ t u (s : Shared) (Q : Value -> Shared -> Prop) (E : Value -> Shared -> Prop),Q (.bool x) s -> wpAny (MM w) A (compareOp op (.int a t) (.int b u)) Q E s) :
    CP w N X Tb A op (.int a) (.int b) x := .mk fun v u s Q E i j k => by
  obtain ⟨t,rfl⟩ := i.int_inv
  obtain ⟨u,rfl⟩ := j.int_inv
  exact h t u s Q E (k s.toks)
theorem OP.add : OP w N X Tb A .Add (.int a) (.int b) (.int (a + b)) := .intI fun _ _ _ _ _ h => PyProof.Rows.add_int h
theorem OP.sub : OP w N X Tb A .Sub (.int a) (.int b) (.int (a - b)) := .intI fun _ _ _ _ _ h => sub_int h
theorem OP.mul (hm : IntMulOk a b) : OP w N X Tb A .Mult (.int a) (.int b) (.int (a * b)) := .intI fun _ _ _ _ _ h => PyProof.Rows.mul_int h hm
theorem OP.mod (hb : b ≠ 0) : OP w N X Tb A .Mod (.int a) (.int b) (.int (a.fmod b)) := .intI fun _ _ _ _ _ h => mod_int hb h
theorem OP.div (hb : 0 < b) (hb2 : b < 1000000000) : OP w N X Tb A .FloorDiv (.int a) (.int b) (.int (a.fdiv b)) := .intI fun _ _ _ _ _ h => floordiv_int (by omega) h (.inl (PyProof.noPylong_small (by omega)))
theorem OP.pow (hb : 0 <= b) (hb2 : b <= 1000000) (ha : a.natAbs < 2 ^ 64) : OP w N X Tb A .Pow (.int a) (.int b) (.int (a ^ b.toNat)) := .intI fun _ _ _ _ _ h => pow_int_small hb hb2 ha h
theorem OP.and : OP w N X Tb A .BitAnd (.int a) (.int b) (.int (Builtin.bitAnd a b)) := .intI fun _ _ _ _ _ h => PyProof.Rows.and_int h
theorem OP.or : OP w N X Tb A .BitOr (.int a) (.int b) (.int (Builtin.bitOr a b)) := .intI fun _ _ _ _ _ h => PyProof.Rows.or_int h
theorem OP.xor : OP w N X Tb A .BitXor (.int a) (.int b) (.int (Builtin.bitXor a b)) := .intI fun _ _ _ _ _ h => PyProof.Rows.xor_int h
theorem OP.shr (hb : 0 <= b) : OP w N X Tb A .RShift (.int a) (.int b) (.int (a.fdiv (2 ^ b.toNat))) := .intI fun _ _ _ _ _ h => rshift_int hb h
theorem OP.shl (hb : 0 <= b) (hz : (Builtin.Int.intBits a : Int) + b <= 2 ^ 27) : OP w N X Tb A .LShift (.int a) (.int b) (.int (a * 2 ^ b.toNat)) := .intI fun _ _ _ _ _ h => lshift_int hb hz h
theorem CP.eq : CP w N X Tb A .Eq (.int a) (.int b) (a == b) := .intI fun _ _ _ _ _ h => PyProof.Rows.eq_int h
theorem CP.lt : CP w N X Tb A .Lt (.int a) (.int b) (decide (a < b)) := .intI fun _ _ _ _ _ h => PyProof.Rows.lt_int h
theorem OP.strs {x y : Str} (hz : x.length + y.length <= sizeLine) : OP w N X Tb A .Add (.str x) (.str y) (.str (x ++ y)) := .mk fun v u s Q E i j k => by
  obtain ⟨t,rfl⟩ := i.str_inv
  obtain ⟨u,rfl⟩ := j.str_inv
  exact PyProof.Rows.add_str (fun t' tk => k _ tk (.str _ _)) hz
theorem CP.eqS {x y : Str} : CP w N X Tb A .Eq (.str x) (.str y) (x.cps.toList == y.cps.toList) := .mk fun v u s Q E i j k => by
  obtain ⟨t,rfl⟩ := i.str_inv
  obtain ⟨u,rfl⟩ := j.str_inv
  exact P.eq_str (k s.toks)
end ops
theorem EV.item {v i : Expr} {pos : Pos} {p q r : PV} (hC : Stb N C) (hv : EV w N Tb A env C v (IsP X p)) (hi : EV w N Tb A env C i (IsP X q))
    (ht : ∀ a b,GV w N Tb A (fun h => Is X h a p ∧ Is X h b q) (subscriptTail v i a b) (IsP X r)) : EV w N Tb A env C (.Subscript v i pos) (IsP X r) := by
  constructor
  intro s Q E hc hT k
  refine Subscript_ (hv.run s _ E hc hT fun a h₁ t₁ n₁ T₁ i₁ => ?_)
  refine hi.run _ _ E (hC _ _ hc n₁) T₁ fun b h₂ t₂ n₂ T₂ i₂ => ?_
  exact (ht a b).run _ _ E ⟨i₁.nx n₂,i₂⟩ T₂ fun x h₃ t₃ n₃ T₃ i₃ => k x h₃ t₃ ((n₁.trans n₂).trans n₃) T₃ i₃
noncomputable def PlainIdx : Expr -> Prop
  | .Slice .. => False
  | _ => True
theorem subscripted_plain {i : Expr} (h : PlainIdx i) (a b : Value) : subscripted i false a b = operate [a,b] (getItem a b) := by
  cases i <;> first | rfl | exact h.elim
end
theorem CP.le {w : World} {N : Nat} {X : List Addr} {Tb : Heap -> Prop} {A : Around} {a b : Int} : CP w N X Tb A .LtE (.int a) (.int b) (decide (a <= b)) := .intI fun _ _ _ _ _ h => PyProof.Rows.le_int h
end
section
set_option autoImplicit false
theorem hsz_update (h : Heap) (a : Addr) (f : Obj -> Obj) : (h.update a f).objs.size = h.objs.size := Heap.size_after_update ..
noncomputable abbrev hsz (s : Shared) : Nat := s.heap.objs.size
theorem runs_hsz {M : Model} {Γ : PySem.Ctx} {p : Pos} {t : Sem Fin} {fs : List Frame} {s s' : Shared} {e : End} (h : Runs M Γ p t fs s e s') : hsz s <= hsz s' := by
  induction h <;> (try simp only [Shared.setGen,hsz,hsz_update,Heap.size_push] at *) <;> lia
theorem returns_hsz {M : Model} {Γ : PySem.Ctx} {p : Pos} {s s' : Shared} {r : Result} (h : Returns M Γ p s r s') : hsz s <= hsz s' := runs_hsz h
theorem wakes_hsz {M : Model} {Γ : PySem.Ctx} {p : Pos} {g : Nat} {r : Resume} {s s' : Shared} {res : GenResult} (h : Wakes M Γ p g r s res s') : hsz s <= hsz s' := by
  unfold Wakes at h
  split at h
  . exact h.elim
  . split at h
    . obtain ⟨e₁,s₁,hr, _, _,rfl⟩ := h; exact (runs_hsz hr : hsz (s.setGen g .running) <= hsz s₁)
    . rw [h.2]; exact Nat.le_refl _
    . rw [h.2]; exact Nat.le_refl _
  . obtain ⟨e₁,s₁,hr, _, _,rfl⟩ := h; exact (runs_hsz hr : hsz (s.setGen g .running) <= hsz s₁)
  . rw [h.2]; exact Nat.le_refl _
  . rw [h.2]; exact Nat.le_refl _
theorem wp_hsz {α : Type} (M : Model) (Γ : PySem.Ctx) (n : Nat) (t : Sem α) : ∀ (Q : α -> Pos -> Shared -> Prop) (E : Value -> Pos -> Shared -> Prop) (p : Pos) (s : Shared),n <= hsz s -> Sem.wp M Γ t Q E p s ->
    Sem.wp M Γ t (fun a p' s' => n <= hsz s' ∧ Q a p' s') E p s := by
  induction t with
  | pure a => intro Q E p s hn h; exact ⟨hn,h⟩
  | raise e => intro Q E p s hn h; exact h
  | unsupported _ => intro Q E p s _ h; exact h
  | finish _ => intro Q E p s _ h; exact h
  | rule _ k ih => intro Q E p s hn h; exact ih () Q E p s hn h
  | «at» p' k ih => intro Q E p s hn h; exact ih () Q E p' s hn h
  | load a _ k ih => intro Q E p s hn h; obtain ⟨o,ho,h⟩ := h; exact ⟨o,ho,ih o Q E p s hn h⟩
  | update a _ f k ih => intro Q E p s hn h; exact ⟨h.1,ih () Q E p _ (by simp only [hsz,hsz_update]; exact hn) h.2⟩
  | loadIfAlive a k ih => intro Q E p s hn h; exact ih _ Q E p s hn h
  | point _ k ih => intro Q E p s hn h; exact ih () Q E p s hn h
  | register _ _ => intro Q E p s _ h; exact h
  | alloc o k ih => intro Q E p s hn h; exact ih _ Q E p _ (by simp only [hsz,Heap.size_push]; exact Nat.le_succ_of_le hn) h
  | fresh k ih => intro Q E p s hn h; exact ih _ Q E p _ hn h
  | ask k ih => intro Q E p s hn h; exact ih _ Q E p s hn h
  | choose src m k ih => intro Q E p s hn h; exact ⟨h.1,ih _ Q E p _ hn h.2⟩
  | os q _ k ih => intro Q E p s hn h; exact ih _ Q E p _ hn h
  | call c hd _ _ k ih => intro Q E p s hn h; obtain ⟨r,s',hr,h⟩ := h; exact ⟨r,s',hr,ih r Q E p s' (Nat.le_trans hn (returns_hsz hr)) h⟩
  | handled own k ih => intro Q E p s hn h; exact ih _ Q E p s hn h
  | genState g k ih => intro Q E p s hn h; obtain ⟨st,hs,h⟩ := h; exact ⟨st,hs,ih _ Q E p s hn h⟩
  | newGen c k ih => intro Q E p s hn h; exact ih _ Q E p _ hn h
  | resume g r _ k ih => intro Q E p s hn h; obtain ⟨res,s',hw,h⟩ := h; exact ⟨res,s',hw,ih res Q E p s' (Nat.le_trans hn (wakes_hsz hw)) h⟩
  | yield _ _ _ _ => intro Q E p s _ h; exact h
  | stack k ih => intro Q E p s hn h; exact ih _ Q E p s hn h
  | fork _ _ => intro Q E p s _ h; exact h
  | thread k ih => intro Q E p s hn h; exact ih _ Q E p s hn h
  | await _ _ _ _ _ => intro Q E p s _ h; exact h
theorem wp_grows {α : Type} {M : Model} {A : Around} {s : Shared} {t : Sem α} {Q : α -> Shared -> Prop} {E : Value -> Shared -> Prop}
    (h : wpAny M A t (fun a s' => s.heap.objs.size <= s'.heap.objs.size -> Q a s') E s) : wpAny M A t Q E s :=
  fun Γ p hΓ => Sem.wp_mono M Γ t (fun a p' s' q => q.2 q.1) (fun _ _ _ q => q) p s (wp_hsz M Γ s.heap.objs.size t _ _ p s (Nat.le_refl _) (h Γ p hΓ))
end
section
set_option autoImplicit false
structure Fx (N : Nat) (W : List Addr) (h h' : Heap) : Prop where
  kp : ∀ b o,b ∉ W -> h.get? b = some o -> (N <= b ∨ o.cls ≠ .none) -> h'.get? b = some o
  sz : h.objs.size <= h'.objs.size
theorem Nx.fx {N : Nat} {W : List Addr} {h h' : Heap} (n : Nx N h h') : Fx N W h h' := ⟨fun b o _ e c => n.kp b o e c,n.sz⟩
theorem Fx.trans {N : Nat} {W : List Addr} {a b c : Heap} (x : Fx N W a b) (y : Fx N W b c) : Fx N W a c := ⟨fun i o w e n => y.kp i o w (x.kp i o w e n) n,Nat.le_trans x.sz y.sz⟩
theorem Fx.refl {N : Nat} {W : List Addr} (h : Heap) : Fx N W h h := (Nx.refl h).fx
theorem Fx.sub {N : Nat} {W V : List Addr} {h h' : Heap} (n : Fx N W h h') (s : ∀ a ∈ W,a ∈ V) : Fx N V h h' := ⟨fun b o z e c => n.kp b o (fun m => z (s _ m)) e c,n.sz⟩
noncomputable def Slot (N : Nat) (env : Env) (h : Heap) (x : Str) (ov : Option Value) : Prop :=
  (env.kindOf x = some .local ∧ ∃ m,h.Ns env.locals m ∧ m x = ov) ∨
  ((env.kindOf x = some .cell ∨ env.kindOf x = some .free) ∧ ∃ c,env.cells.lookup x = some c ∧ N <= c ∧ h.IsCell c ov)
structure BlkOk (N : Nat) (hb : Heap) (env : Env) : Prop where
  kind : env.scope.kind = .function
  glob : env.globals = mainGlobals
  bui : env.builtins = builtinsNs
  freshL : hb.objs.size <= env.locals
  base : N <= hb.objs.size
structure EnvOk (N : Nat) (hb : Heap) (env : Env) : Prop extends BlkOk N hb env where
  freshC : ∀ x c,env.kindOf x = some .cell -> env.cells.lookup x = some c -> hb.objs.size <= c
  apart : env.cells.Pairwise fun x y => x.2 ≠ y.2
noncomputable def notOwn : PV -> Bool
  | .own _ _ => false
  | _ => true
noncomputable def okF (fv : List (Option PV)) : Bool := fv.all fun o => match o with | some p => notOwn p | none => true
theorem okF.at {fv : List (Option PV)} (h : okF fv = true) {p : PV} (hp : some p ∈ fv) : notOwn p = true := List.all_eq_true.mp h _ hp
noncomputable def IsS (N : Nat) (X : List Addr) (h : Heap) (v : Value) (p : PV) : Prop :=
  Is X h v p ∨ ∃ a vs xs,p = .own a xs ∧ v = .ref a ∧ a ∈ X ∧ N <= a ∧ h.PlainList a vs.toArray ∧ IsL X h vs xs
theorem IsS.is {N : Nat} {X : List Addr} {h : Heap} {v : Value} {p : PV} (x : IsS N X h v p) (hp : notOwn p = true) : Is X h v p := by
  rcases x with x | ⟨a,vs,xs,rfl, _⟩
  . exact x
  . cases hp
theorem IsS.nx {N : Nat} {X : List Addr} {h h' : Heap} {v : Value} {p : PV} (n : Nx N h h') (x : IsS N X h v p) : IsS N X h' v p := by
  rcases x with x | ⟨a,vs,xs,e1,e2,e3,e4,e5,e6⟩
  . exact .inl (x.nx n)
  . exact .inr ⟨a,vs,xs,e1,e2,e3,e4,n.isList e5,e6.nx n⟩
structure Cx (N : Nat) (X : List Addr) (hb : Heap) (env : Env) (ns : List Str) (vals : List (Option PV)) (h : Heap) : Prop where
  base : Nx N hb h
  nsx : ∃ m,h.Ns env.locals m
  slot : ∀ (i : Nat) (x : Str),ns[i]? = some x -> ∃ u,Slot N env h x u ∧ ∀ p,vals[i]? = some (some p) -> ∃ v,u = some v ∧ IsS N X h v p
noncomputable def Wr (env : Env) (ns : List Str) (X : List Addr) : List Addr := env.locals :: (ns.filterMap (fun x => if env.kindOf x = some .cell then env.cells.lookup x else none) ++ X)
theorem Wr.mono {env : Env} {ns : List Str} {X : List Addr} : ∀ a ∈ Wr env ns [],a ∈ Wr env ns X := fun a h => by
  simp only [Wr,List.append_nil,List.mem_cons,List.mem_append] at h ⊢
  exact h.imp id .inl
inductive Ix : List Str -> Str -> Nat -> Prop
  | hd {x : Str} {ns : List Str} : Ix (x :: ns) x 0
  | tl {x y : Str} {ns : List Str} {i : Nat} : Ix ns x i -> Ix (y :: ns) x (i + 1)
theorem Ix.get {ns : List Str} {x : Str} {i : Nat} (h : Ix ns x i) : ns[i]? = some x := by
  induction h with
  | hd => rfl
  | tl _ ih => simpa using ih
structure NsOk (ns : List Str) : Prop where
  nodup : ns.Nodup
  dbg : ∀ x ∈ ns,(x == ("__debug__" : Str)) = false
  cls : ∀ x ∈ ns,(x == ("__classdict__" : Str)) = false
theorem nodup_get {ns : List Str} (hn : ns.Nodup) {i j : Nat} {x : Str} (hi : ns[i]? = some x) (hj : ns[j]? = some x) : i = j := by
  obtain ⟨h1,e1⟩ := List.getElem?_eq_some_iff.mp hi
  obtain ⟨h2,e2⟩ := List.getElem?_eq_some_iff.mp hj
  have e : ns[i] = ns[j] := e1.trans e2.symm
  have hp := List.pairwise_iff_getElem.mp hn
  rcases Nat.lt_trichotomy i j with h | h | h
  . exact absurd e (hp i j h1 h2 h)
  . exact h
  . exact absurd e.symm (hp j i h2 h1 h)
theorem ns_uniq {h : Heap} {a : Addr} {m m' : Str -> Option Value} (x : h.Ns a m) (y : h.Ns a m') (n : Str) : m n = m' n := by
  obtain ⟨o,es,ep,ho,hd, _,hm⟩ := x
  obtain ⟨o',es',ep',ho',hd', _,hm'⟩ := y
  rw [ho] at ho'; cases ho'
  rw [hd] at hd'; cases hd'
  rw [<- hm, <- hm']
theorem ns_ne_cell {h : Heap} {a c : Addr} {m : Str -> Option Value} {v : Option Value} (x : h.Ns a m) (y : h.IsCell c v) : c ≠ a := by
  rintro rfl
  obtain ⟨o,es,ep,ho,hd, _⟩ := x
  obtain ⟨o',ho',hd'⟩ := y
  rw [ho] at ho'; cases ho'
  rw [hd] at hd'; cases hd'
-- a heap that differs at one place that is no sequence
theorem Is.but {X : List Addr} {h h' : Heap} {a : Addr} (hs : ∀ b o,b ≠ a -> h.get? b = some o -> h'.get? b = some o) (hq : a ∈ X ∨ ∀ o,h.get? a = some o -> ∀ xs n,o.data ≠ .seq xs n) {v : Value} {p : PV} (x : Is X h v p) : Is X h' v p :=
  x.kp fun b o _ _ z ho hd _ => ⟨z,hs b o (fun e => hq.elim (fun m => z (e ▸ m)) fun q => q _ (e ▸ ho) _ _ hd) ho⟩
theorem IsL.but {X : List Addr} {h h' : Heap} {a : Addr} (hs : ∀ b o,b ≠ a -> h.get? b = some o -> h'.get? b = some o) (hq : a ∈ X ∨ ∀ o,h.get? a = some o -> ∀ xs n,o.data ≠ .seq xs n) {vs : List Value} {ps : List PV} (x : IsL X h vs ps) : IsL X h' vs ps :=
  x.kp fun b o _ _ z ho hd _ => ⟨z,hs b o (fun e => hq.elim (fun m => z (e ▸ m)) fun q => q _ (e ▸ ho) _ _ hd) ho⟩
theorem ns_noseq {h : Heap} {a : Addr} {m : Str -> Option Value} (x : h.Ns a m) : ∀ o,h.get? a = some o -> ∀ xs n,o.data ≠ .seq xs n := by
  obtain ⟨o,es,ep,ho,hd, _⟩ := x
  intro o' ho' xs n e
  rw [ho] at ho'; cases ho'
  rw [hd] at e; cases e
theorem cell_noseq {h : Heap} {a : Addr} {m : Option Value} (x : h.IsCell a m) : ∀ o,h.get? a = some o -> ∀ xs n,o.data ≠ .seq xs n := by
  obtain ⟨o,ho,hd⟩ := x
  intro o' ho' xs n e
  rw [ho] at ho'; cases ho'
  rw [hd] at e; cases e
theorem IsS.but {N : Nat} {X : List Addr} {h h' : Heap} {a : Addr} (hs : ∀ b o,b ≠ a -> h.get? b = some o -> h'.get? b = some o) (hq : ∀ o,h.get? a = some o -> ∀ xs n,o.data ≠ .seq xs n) {v : Value} {p : PV} (x : IsS N X h v p) : IsS N X h' v p := by
  rcases x with x | ⟨b,vs,xs,e1,e2,e3,e4,e5,e6⟩
  . exact .inl (x.but hs (.inr hq))
  . obtain ⟨n,ho⟩ := e5
    exact .inr ⟨b,vs,xs,e1,e2,e3,e4,⟨n,hs _ _ (by rintro rfl; exact hq _ ho _ _ rfl) ho⟩,e6.but hs (.inr hq)⟩
section
variable {w : World} {N : Nat} {X : List Addr} {Tb : Heap -> Prop} {A : Around} {env : Env} {hb : Heap} {ns : List Str} {vals : List (Option PV)}
theorem Slot.nx {h h' : Heap} {x : Str} {ov : Option Value} (n : Nx N h h') (hL : N <= env.locals) (s : Slot N env h x ov) : Slot N env h' x ov := by
  rcases s with ⟨k,m,hm,e⟩ | ⟨k,c,hc,hN,hv⟩
  . exact .inl ⟨k,m,n.ns hL hm,e⟩
  . exact .inr ⟨k,c,hc,hN,n.cell hN hv⟩
theorem Cx.stb (hL : N <= env.locals) : Stb N (Cx N X hb env ns vals) := fun h h' c n =>
  ⟨c.base.trans n,let ⟨m,hm⟩ := c.nsx; ⟨m,n.ns hL hm⟩,fun i x hx => let ⟨u,su,hu⟩ := c.slot i x hx; ⟨u,su.nx n hL,fun p hp => let ⟨v,e,iv⟩ := hu p hp; ⟨v,e,iv.nx n⟩⟩⟩
theorem BlkOk.hL (e : BlkOk N hb env) : N <= env.locals := Nat.le_trans e.base e.freshL
theorem EV.name {x : Str} {pos : Pos} {i : Nat} {p : PV} (hk : env.scope.kind = .function) (hn : NsOk ns) (hx : Ix ns x i) (hv : vals[i]? = some (some p)) (hp : notOwn p = true := by rfl) : EV w N Tb A env (Cx N X hb env ns vals) (.Name x pos) (IsP X p) := by
  have hd := hn.dbg x (List.mem_of_getElem? hx.get)
  have hc := hn.cls x (List.mem_of_getElem? hx.get)
  refine GV.same fun s Q E c _ k => ?_
  obtain ⟨u,su,hu⟩ := c.slot i x hx.get
  obtain ⟨v,rfl,iv'⟩ := hu p hv
  have iv := iv'.is hp
  refine wpAny_Name ?_ hd
  rcases su with ⟨kx,m,hm,e⟩ | ⟨kx | kx,a,ha,hN,hcell⟩
  . exact wpAny_loadName_local hk kx hm e (k v s.toks iv)
  . exact wpAny_loadName_cell hk kx ha hcell (k v s.toks iv)
  . exact wpAny_loadName_free hk kx ha hcell (k v s.toks iv) hc
theorem store' (T : TbOk N X Tb) (O : BlkOk N hb env) {x : Str} {i : Nat} {p : PV} {v : Value} {s : Shared} {Q : Unit -> Shared -> Prop} {E : Value -> Shared -> Prop} (hx : Ix ns x i) (hn : ns.Nodup) (hkx : env.kindOf x = some .local ∨ EnvOk N hb env ∧ env.kindOf x ≠ some .free)
    (c : Cx N X hb env ns vals s.heap) (hT : Tb s.heap) (iv : Is X s.heap v p)
    (k : ∀ h' tk,Fx N (Wr env ns []) s.heap h' -> Tb h' -> Cx N X hb env ns (vals.set i (some p)) h' -> Q () { s with heap := h',toks := tk }) : wpAny (MM w) A (storeName env x v) Q E s := by
  obtain ⟨u,su,hu⟩ := c.slot i x hx.get
  have key : ∀ (h' : Heap) (a : Addr),hb.objs.size <= a -> a ∈ Wr env ns [] -> Heap.SameBut a s.heap h' -> (∃ o,s.heap.get? a = some o ∧ NotCode o) -> (∀ o,s.heap.get? a = some o -> ∀ xs n,o.data ≠ .seq xs n) ->
      (∃ m,h'.Ns env.locals m) -> Slot N env h' x (some v) -> (∀ y ov,y ≠ x -> Slot N env s.heap y ov -> Slot N env h' y ov) -> ∀ tk,Q () { s with heap := h',toks := tk } := by
    intro h' a ha hm hs ⟨oa,hoa,hna⟩ hq hns hsl hoth tk
    have kp : ∀ b o,b ≠ a -> s.heap.get? b = some o -> h'.get? b = some o := fun b o hb' e => (hs.2 b hb').trans e
    have hz : s.heap.objs.size <= h'.objs.size := by rw [hs.1]; exact Nat.le_refl _
    refine k h' tk ⟨fun b o hb' e _ => kp b o (fun e' => hb' (e' ▸ hm)) e,hz⟩ (T.upd _ _ a oa (Nat.le_trans O.base ha) hoa hna kp hz hT) ⟨?_,hns,fun j y hy => ?_⟩
    . exact ⟨fun b o e n => kp b o (Nat.ne_of_lt (Nat.lt_of_lt_of_le (Heap.lt_size e) ha)) (c.base.kp b o e n),Nat.le_trans c.base.sz hz⟩
    . by_cases hxy : y = x
      . subst hxy
        have hij : i = j := nodup_get hn hx.get hy
        subst hij
        refine ⟨_,hsl,fun q hq' => ⟨v,rfl, ?_⟩⟩
        have hlt : i < vals.length ∨ ¬ i < vals.length := Nat.lt_or_ge _ _ |>.imp id Nat.not_lt.mpr
        rcases hlt with hlt | hlt
        . rw [List.getElem?_set_self hlt] at hq'; cases hq'; exact .inl (iv.but kp (.inr hq))
        . rw [List.getElem?_eq_none (by rw [List.length_set]; lia)] at hq'; cases hq'
      . obtain ⟨uy,sy,hy'⟩ := c.slot j y hy
        refine ⟨uy,hoth y uy hxy sy,fun q hq' => ?_⟩
        have hij : i ≠ j := by rintro rfl; rw [hx.get] at hy; cases hy; exact hxy rfl
        rw [List.getElem?_set_ne hij] at hq'
        obtain ⟨v',e',i'⟩ := hy' q hq'
        exact ⟨v',e',i'.but kp hq⟩
  rcases su with ⟨kx,m,hm,e⟩ | ⟨kx | kx,a,ha,hN,hcell⟩
  . refine wpAny_storeName_local kx hm (fun h' hn' hs' => ?_) (by rw [O.kind]; rfl)
    refine key h' env.locals O.freshL (by simp [Wr]) hs' ?_ (ns_noseq hm) ⟨_,hn'⟩ (.inl ⟨kx, _,hn',by simp⟩) (fun y ov hy sy => ?_) _
    . obtain ⟨o,es,ep,ho,hd, _⟩ := hm
      exact ⟨o,ho, .dict hd⟩
    . rcases sy with ⟨ky,m2,hm2,e2⟩ | ⟨ky,b,hb',hNb,hcb⟩
      . exact .inl ⟨ky, _,hn',by simp only [if_neg hy]; rw [ns_uniq hm hm2]; exact e2⟩
      . exact .inr ⟨ky,b,hb',hNb,hcb.sameBut hs' (ns_ne_cell hm hcb)⟩
  . have O : EnvOk N hb env := by rcases hkx with h | h; · (rw [h] at kx; cases kx)
                                  . exact h.1
    refine wpAny_storeName_cell O.kind kx ha hcell fun h' hc' hs' => ?_
    obtain ⟨m,hm⟩ := c.nsx
    have hLc : a ≠ env.locals := ns_ne_cell hm hcell
    refine key h' a (O.freshC x a kx ha) (by simp only [Wr,List.mem_cons,List.mem_append,List.mem_filterMap]; exact .inr (.inl ⟨x,List.mem_of_getElem? hx.get,by rw [if_pos kx]; exact ha⟩)) hs' ?_ (cell_noseq hcell) ⟨_,hm.sameBut hs' (Ne.symm hLc)⟩ (.inr ⟨.inl kx,a,ha,hN,hc'⟩) (fun y ov hy sy => ?_) s.toks
    . obtain ⟨o,ho,hd⟩ := hcell
      exact ⟨o,ho, .cell hd⟩
    . rcases sy with ⟨ky,m2,hm2,e2⟩ | ⟨ky,b,hb',hNb,hcb⟩
      . exact .inl ⟨ky,m2,hm2.sameBut hs' (Ne.symm hLc),e2⟩
      . exact .inr ⟨ky,b,hb',hNb,hcb.sameBut hs' (fun e => hy (name_of_addr O.apart (mem_of_lookup hb') (e ▸ mem_of_lookup ha)))⟩
  . rcases hkx with h | h
    . rw [h] at kx; cases kx
    . exact absurd kx h.2
theorem store (T : TbOk N X Tb) (O : EnvOk N hb env) {x : Str} {i : Nat} {p : PV} {v : Value} {s : Shared} {Q : Unit -> Shared -> Prop} {E : Value -> Shared -> Prop} (hx : Ix ns x i) (hn : ns.Nodup) (hkx : env.kindOf x ≠ some .free)
    (c : Cx N X hb env ns vals s.heap) (hT : Tb s.heap) (iv : Is X s.heap v p)
    (k : ∀ h' tk,Fx N (Wr env ns X) s.heap h' -> Tb h' -> Cx N X hb env ns (vals.set i (some p)) h' -> Q () { s with heap := h',toks := tk }) : wpAny (MM w) A (storeName env x v) Q E s :=
  store' T O.toBlkOk hx hn (.inr ⟨O,hkx⟩) c hT iv fun h' tk f => k h' tk (f.sub Wr.mono)
variable (w N Tb A env)
structure ST (W : List Addr) (C : Heap -> Prop) (body : List Stmt) (R : Flow -> Heap -> Prop) : Prop where
  run : ∀ (s : Shared) (Q : Flow -> Shared -> Prop) (E : Value -> Shared -> Prop),C s.heap -> Tb s.heap ->
    (∀ f h' tk,Fx N W s.heap h' -> Tb h' -> R f h' -> Q f { s with heap := h',toks := tk }) -> wpAny (MM w) A (execs body env) Q E s
structure SX (W : List Addr) (C : Heap -> Prop) (st : Stmt) (R : Flow -> Heap -> Prop) : Prop where
  run : ∀ (s : Shared) (Q : Flow -> Shared -> Prop) (E : Value -> Shared -> Prop),C s.heap -> Tb s.heap ->
    (∀ f h' tk,Fx N W s.heap h' -> Tb h' -> R f h' -> Q f { s with heap := h',toks := tk }) -> wpAny (MM w) A (exec st env) Q E s
variable {w N Tb A env} {W : List Addr}
noncomputable def Nxt (C : Heap -> Prop) : Flow -> Heap -> Prop := fun f h => f = .next ∧ C h
noncomputable def Ret (N : Nat) (X : List Addr) (hb : Heap) (p : PV) : Flow -> Heap -> Prop := fun f h => ∃ v,f = .ret v ∧ Is X h v p ∧ Nx N hb h
theorem ST.nil {C : Heap -> Prop} {R : Flow -> Heap -> Prop} (h : ∀ g,C g -> Tb g -> R .next g) : ST w N Tb A env W C [] R := ⟨fun s _ _ c t k => wpAny_execs_nil (k .next s.heap s.toks (.refl _) t (h _ c t))⟩
theorem ST.cons {C : Heap -> Prop} {st : Stmt} {rest : List Stmt} {R R' : Flow -> Heap -> Prop} (h : SX w N Tb A env W C st R') (hr : ST w N Tb A env W (R' .next) rest R) (hf : ∀ f g,f ≠ .next -> R' f g -> R f g) :
    ST w N Tb A env W C (st :: rest) R := by
  constructor
  intro s Q E c t k
  refine wpAny_execs_cons (h.run s _ E c t fun f h' tk fx t' r => ?_)
  cases f with
  | next => exact hr.run _ _ E r t' fun f2 h2 tk2 fx2 t2 r2 => k f2 h2 tk2 (fx.trans fx2) t2 r2
  | brk => exact k _ _ _ fx t' (hf _ _ (by intro e; cases e) r)
  | cont => exact k _ _ _ fx t' (hf _ _ (by intro e; cases e) r)
  | ret v => exact k _ _ _ fx t' (hf _ _ (by intro e; cases e) r)
theorem ST.seq {C C' : Heap -> Prop} {st : Stmt} {rest : List Stmt} {R : Flow -> Heap -> Prop} (h : SX w N Tb A env W C st (Nxt C')) (hr : ST w N Tb A env W C' rest R) : ST w N Tb A env W C (st :: rest) R :=
  ST.cons (R' := Nxt C') h ⟨fun s Q E c t k => hr.run s Q E c.2 t k⟩ fun f g hf r => absurd r.1 hf
theorem ST.last {C : Heap -> Prop} {st : Stmt} {R : Flow -> Heap -> Prop} (h : SX w N Tb A env W C st R) : ST w N Tb A env W C [st] R :=
  ST.cons h (ST.nil fun _ c _ => c) fun _ _ _ r => r
theorem SX.ret {C : Heap -> Prop} {e : Expr} {pos : Pos} {p : PV} (hC : ∀ h,C h -> Nx N hb h) (h : EV w N Tb A env C e (IsP X p)) : SX w N Tb A env W C (.Return (some e) pos) (Ret N X hb p) :=
  ⟨fun s _ E c t k => wpAny_Return_some (h.run s _ E c t fun v h' tk n t' i => k _ _ _ n.fx t' ⟨v,rfl,i,(hC _ c).trans n⟩)⟩
theorem SX.assign (T : TbOk N X Tb) (O : EnvOk N hb env) {x : Str} {px pos : Pos} {e : Expr} {i : Nat} {p : PV} (h : EV w N Tb A env (Cx N X hb env ns vals) e (IsP X p)) (hx : Ix ns x i) (hn : NsOk ns) (hkx : env.kindOf x ≠ some .free)
    (hs : swapsWith e (some (.Name x px)) pos.line env = pure false := by rfl) :
    SX w N Tb A env (Wr env ns X) (Cx N X hb env ns vals) (.Assign [.Name x px] e pos) (Nxt (Cx N X hb env ns (vals.set i (some p)))) := by
  constructor
  intro s Q E c t k
  refine wpAny_Assign_Name (h.run s _ E c t fun v h₁ t₁ n₁ T₁ i₁ => ?_) hs
  exact store T O hx hn.nodup hkx (Cx.stb O.hL _ _ c n₁) T₁ i₁ fun h₂ t₂ f₂ T₂ c₂ => k _ h₂ t₂ (n₁.fx.trans f₂) T₂ ⟨rfl,c₂⟩
theorem SX.iff {C : Heap -> Prop} {t : Expr} {b o : List Stmt} {pos : Pos} {c : Bool} {R : Flow -> Heap -> Prop} (hC : Stb N C) (ht : BV w N Tb A env C t c) (h1 : c = true -> ST w N Tb A env W C b R) (h2 : c = false -> ST w N Tb A env W C o R) :
    SX w N Tb A env W C (.If t b o pos) R := by
  constructor
  intro s Q E hc hT k
  refine wpAny_If (ht.run s _ E hc hT fun h₁ t₁ n₁ T₁ => ?_)
  cases c with
  | true => exact (h1 rfl).run _ _ E (hC _ _ hc n₁) T₁ fun f h₂ t₂ f₂ T₂ r => k f h₂ t₂ (n₁.fx.trans f₂) T₂ r
  | false => exact (h2 rfl).run _ _ E (hC _ _ hc n₁) T₁ fun f h₂ t₂ f₂ T₂ r => k f h₂ t₂ (n₁.fx.trans f₂) T₂ r
end
end
section
set_option autoImplicit false
noncomputable def GlobIs (Tb : Heap -> Prop) (x : Str) (v : Value) : Prop := ∀ h,Tb h -> ∃ m,h.Ns mainGlobals m ∧ m x = some v
noncomputable def BuiltIs (Tb : Heap -> Prop) (x : Str) (v : Value) : Prop := ∀ h,Tb h -> ∃ m m',h.Ns mainGlobals m ∧ m x = none ∧ h.Ns builtinsNs m' ∧ m' x = some v
noncomputable def retOf : Flow -> Value
  | .ret v => v
  | _ => .none
section
variable {w : World} {N : Nat} {X : List Addr} {Tb : Heap -> Prop} {A : Around} {env : Env} {hb : Heap} {C : Heap -> Prop}
theorem EV.glob {x : Str} {pos : Pos} {v : Value} (hk : env.scope.kind = .function) (hgl : env.globals = mainGlobals) (hx : env.kindOf x = some .globalImplicit) (G : GlobIs Tb x v) (hd : (x == ("__debug__" : Str)) = false := by decide) :
    EV w N Tb A env C (.Name x pos) (fun _ u => u = v) := GV.same fun s Q E c t k => by
  obtain ⟨m,hm,e⟩ := G _ t
  exact Name_function_global hk hx (loadGlobal_global (env := env) (hgl ▸ hm) e (k v s.toks rfl)) hd
theorem EV.built {x : Str} {pos : Pos} {v : Value} (hk : env.scope.kind = .function) (hgl : env.globals = mainGlobals) (hbl : env.builtins = builtinsNs) (hx : env.kindOf x = some .globalImplicit) (G : BuiltIs Tb x v) (hd : (x == ("__debug__" : Str)) = false := by decide) :
    EV w N Tb A env C (.Name x pos) (fun _ u => u = v) := GV.same fun s Q E c t k => by
  obtain ⟨m,m',hm,e,hm',e'⟩ := G _ t
  exact Name_function_global hk hx (loadGlobal_builtin (env := env) (hgl ▸ hm) e (hbl ▸ hm') e' (k v s.toks rfl)) hd
noncomputable def FN (w : World) (N : Nat) (X : List Addr) (Tb : Heap -> Prop) (f : Addr) (d : Nat) (ps : List PV) (r : PV) : Prop :=
  ∀ A,AOk A d -> ∀ vs,GV w N Tb A (fun h => IsL X h vs ps) (call (.ref f) vs) (IsP X r)
noncomputable def DefAt (Tb : Heap -> Prop) (f : Addr) (fd : FuncData) : Prop := ∃ o : Obj,o.data = .func fd ∧ ∀ h,Tb h -> h.get? f = some o
theorem EV.call {x : Str} {px pos : Pos} {e : Expr} {es : List Expr} {ps : List PV} {r : PV} {f : Addr} {d : Nat} {fd : FuncData} (hC : Stb N C) (hk : env.scope.kind = .function) (hgl : env.globals = mainGlobals) (hx : env.kindOf x = some .globalImplicit)
    (G : GlobIs Tb x (.ref f)) (D : DefAt Tb f fd) (ha : EVs w N X Tb A env C pos (e :: es) ps) (F : FN w N X Tb f d ps r) (hA : AOk A d) (hd : (x == ("__debug__" : Str)) = false := by decide)
    (he : starEach (e :: es) env = (false,eval e env) :: starEach es env := by rfl) : EV w N Tb A env C (.Call (.Name x px) (e :: es) [] pos) (IsP X r) := by
  constructor
  intro s Q E c t k
  obtain ⟨o,hdat,ho⟩ := D
  refine Call_ ((EV.glob (N := N) (C := C) hk hgl hx G hd).run s _ E c t fun v h₁ t₁ n₁ T₁ hv => ?_)
  subst hv
  rw [he]
  refine callWith_function (o := o) (fd := fd) (evalArgs_plain ?_)
  show wpAny (MM w) A (spliced (backTo pos ((false,eval e env) :: starEach es env))) _ E _
  rw [<- he]
  exact ha.run _ _ E (hC _ _ c n₁) T₁ fun vs h₂ t₂ n₂ T₂ i₂ => ⟨⟨ho _ T₂,hdat⟩,(F A hA vs).run _ _ E i₂ T₂ fun v h₃ t₃ n₃ T₃ i₃ => k v h₃ t₃ ((n₁.trans n₂).trans n₃) T₃ i₃⟩
theorem bindL_skip {kindOf : Str -> Option NameKind} {x : Str} : ∀ (binds : List (Str × Value)) (m : Str -> Option Value),(∀ y ∈ binds,y.1 ≠ x) -> bindL kindOf binds m x = m x
  | [], _, _ => rfl
  | (n,v) :: r,m,h => by
    rw [bindL,bindL_skip r _ fun y hy => h y (List.mem_cons_of_mem _ hy)]
    split
    . exact if_neg (Ne.symm (h (n,v) List.mem_cons_self))
    . rfl
theorem bindC_skip {kindOf : Str -> Option NameKind} {x : Str} : ∀ (binds : List (Str × Value)) (m : Str -> Option Value),(∀ y ∈ binds,y.1 ≠ x) -> bindC kindOf binds m x = m x
  | [], _, _ => rfl
  | (n,v) :: r,m,h => by
    rw [bindC,bindC_skip r _ fun y hy => h y (List.mem_cons_of_mem _ hy)]
    split
    . rfl
    . exact if_neg (Ne.symm (h (n,v) List.mem_cons_self))
theorem mem_zip_fst {ns : List Str} {vs : List Value} {y : Str × Value} (h : y ∈ ns.zip vs) : y.1 ∈ ns := by
  obtain ⟨a,b⟩ := y
  exact (List.of_mem_zip h).1
theorem bindL_at {kindOf : Str -> Option NameKind} (ns : List Str) (vs : List Value) (m : Str -> Option Value) {i : Nat} {x : Str} {v : Value} (hn : ns.Nodup) (hx : ns[i]? = some x) (hv : vs[i]? = some v) (hk : kindOf x = some .local) : bindL kindOf (ns.zip vs) m x = some v := by
  induction ns generalizing vs m i with
  | nil => rw [List.getElem?_nil] at hx; cases hx
  | cons n ns ih =>
    cases vs with
    | nil => rw [List.getElem?_nil] at hv; cases hv
    | cons u vs =>
      rw [List.zip_cons_cons,bindL]
      cases i with
      | zero =>
        obtain rfl := Option.some.inj (show some n = some x from hx)
        obtain rfl := Option.some.inj (show some u = some v from hv)
        have hs : ∀ y ∈ ns.zip vs,y.1 ≠ n := fun y hy e => (List.nodup_cons.mp hn).1 (e ▸ mem_zip_fst hy)
        rw [bindL_skip _ _ hs,if_pos hk]
        simp
      | succ i => exact ih vs _ (List.nodup_cons.mp hn).2 hx hv
theorem bindC_at {kindOf : Str -> Option NameKind} (ns : List Str) (vs : List Value) (m : Str -> Option Value) {i : Nat} {x : Str} {v : Value} (hn : ns.Nodup) (hx : ns[i]? = some x) (hv : vs[i]? = some v) (hk : kindOf x = some .cell) : bindC kindOf (ns.zip vs) m x = some v := by
  induction ns generalizing vs m i with
  | nil => rw [List.getElem?_nil] at hx; cases hx
  | cons n ns ih =>
    cases vs with
    | nil => rw [List.getElem?_nil] at hv; cases hv
    | cons u vs =>
      rw [List.zip_cons_cons,bindC]
      cases i with
      | zero =>
        obtain rfl := Option.some.inj (show some n = some x from hx)
        obtain rfl := Option.some.inj (show some u = some v from hv)
        have hs : ∀ y ∈ ns.zip vs,y.1 ≠ n := fun y hy e => (List.nodup_cons.mp hn).1 (e ▸ mem_zip_fst hy)
        rw [bindC_skip _ _ hs,if_neg (by rw [hk]; intro e; cases e)]
        simp
      | succ i => exact ih vs _ (List.nodup_cons.mp hn).2 hx hv
theorem cellsFrom_skip (n : Nat) : ∀ (names : List (Str × NameKind)) (n : Nat) (acc : List (Str × Addr)) (x : Str),(acc.lookup x).isSome = true -> ((cellsFrom n names acc).lookup x).isSome = true
  | [], _, _, _,h => h
  | (nm,k) :: r,n,acc,x,h => by
    unfold cellsFrom
    split
    . refine cellsFrom_skip 0 r _ _ x ?_
      rw [List.lookup_cons]
      split
      . rfl
      . exact h
    . exact cellsFrom_skip 0 r _ _ x h
theorem cellsFrom_has : ∀ (names : List (Str × NameKind)) (n : Nat) (acc : List (Str × Addr)) (x : Str),names.lookup x = some .cell -> ((cellsFrom n names acc).lookup x).isSome = true
  | (nm,k) :: r,n,acc,x,h => by
    rw [List.lookup_cons] at h
    unfold cellsFrom
    cases hb : x == nm with
    | true =>
      rw [hb] at h
      cases h
      rw [if_pos (by decide : (NameKind.cell == NameKind.cell) = true)]
      refine cellsFrom_skip 0 r _ _ x ?_
      rw [List.lookup_cons,hb]
      rfl
    | false =>
      rw [hb] at h
      split
      . exact cellsFrom_has r _ _ x h
      . exact cellsFrom_has r _ _ x h
theorem callDefB (T : TbOk N X Tb) {f : Addr} {fd : FuncData} {body : List Stmt} {d : Nat} {prm loc : List Str} {ps : List PV} {vs : List Value} {s : Shared} {Q : Value -> Shared -> Prop} {E : Value -> Shared -> Prop} (D : DefAt Tb f fd) (hcd : ∀ h,Tb h -> h.CodeRec fd.code fd.qualname) (hbody : fd.body = .stmts body)
    (hclo : fd.closure = []) (hgl : fd.globals = mainGlobals) (hbu : fd.builtins = builtinsNs) (hlen : prm.length = ps.length)
    (hbind : ∀ vs : List Value,vs.length = prm.length -> bindArgs fd ⟨vs, []⟩ = pure (prm.zip vs)) (hn : (prm ++ loc).Nodup)
    (hkind : ∀ x ∈ prm ++ loc,fd.scope.names.lookup x = some .local ∨ fd.scope.names.lookup x = some .cell)
    (hA : AOk A (d + 1)) (iv : IsL X s.heap vs ps) (t : Tb s.heap)
    (k : ∀ A env h tk,AOk A d -> EnvOk N s.heap env -> env.scope = fd.scope -> env.code = fd.code -> env.qual = fd.qualname ++ ".<locals>." -> Cx N X s.heap env (prm ++ loc) (ps.map some ++ loc.map fun _ => none) h -> Tb h ->
      ∀ (Q' : Flow -> Shared -> Prop) (E' : Value -> Shared -> Prop),(∀ fl s',Q (retOf fl) s' -> Q' fl s') -> wpAny (MM w) A (execs body env) Q' E' { s with heap := h,toks := tk })
    (hco : fd.scope.isCoroutine = false := by rfl) (hgen : fd.scope.isGenerator = false := by rfl) (hk : fd.scope.kind = .function := by rfl) : wpAny (MM w) A (call (.ref f) vs) Q E s := by
  obtain ⟨o,hdat,ho⟩ := D
  have hvl : vs.length = prm.length := by rw [iv.length,hlen]
  refine wpAny_call (codeAny_call_cells (by have := hA.dp; show A.depth < 1000; lia) (ho _ t) hdat (T.limit _ t) (hcd _ t) hbody (hbind vs hvl) hclo ?_ (fun s₁ x => ?_) hco hgen hk)
  . intro y hy
    rcases hkind y.1 (List.mem_append.mpr (.inl (mem_zip_fst hy))) with h | h
    . exact .inl h
    . exact .inr ⟨h,cellsFrom_has _ _ _ _ h⟩
  . obtain ⟨h₁,tk₁,rfl⟩ := x.toInCall.same
    have hz : s.heap.objs.size <= h₁.objs.size := Nat.le_of_lt (Nat.lt_of_le_of_lt x.toInCall.fresh x.toInCall.ns.lt)
    have hN : N <= s.heap.objs.size := T.size _ t
    have t₁ : Tb h₁ := T.keep _ _ x.toInCall.keep hz t
    have above : ∀ n c,(callEnvC fd s.heap.objs.size f).cells.lookup n = some c -> s.heap.objs.size <= c := fun n c hc => Nat.le_of_lt (x.above n c (mem_of_lookup hc))
    have O : EnvOk N s.heap (callEnvC fd s.heap.objs.size f) := ⟨⟨hk,hgl,hbu,x.toInCall.fresh,hN⟩,fun n c _ hc => above n c hc,x.apart⟩
    have hA' : AOk (A.deeper (callEnvC fd s.heap.objs.size f)) d := ⟨hA.hd,by have := hA.dp; show A.depth + 1 + d < 700; lia,by have := hA.un; show A.units + 3 + 100 * d < 5000; lia⟩
    refine k _ _ h₁ tk₁ hA' O rfl rfl rfl ⟨.of_keep x.toInCall.keep hz,⟨_,x.toInCall.ns⟩,fun i y hy => ?_⟩ t₁ _ _ fun fl s' q => q
    have hmem : y ∈ prm ++ loc := List.mem_of_getElem? hy
    have hval : ∀ p,(ps.map some ++ loc.map fun _ => none)[i]? = some (some p) -> ∃ v,vs[i]? = some v ∧ prm[i]? = some y ∧ Is X h₁ v p := fun p hp => by
      have hil : i < (ps.map some).length := by
        apply Classical.byContradiction
        intro hge
        rw [List.getElem?_append_right (Nat.not_lt.mp hge),List.getElem?_map] at hp
        cases hq : loc[i - (ps.map some).length]? with
        | none => rw [hq] at hp; cases hp
        | some z => rw [hq] at hp; cases hp
      rw [List.getElem?_append_left hil,List.getElem?_map] at hp
      cases hpi : ps[i]? with
      | none => rw [hpi] at hp; cases hp
      | some q =>
        rw [hpi] at hp
        cases hp
        obtain ⟨v,hv,hi⟩ := iv.get' hpi
        have hlt : i < prm.length := by rw [hlen]; exact (List.getElem?_eq_some_iff.mp hpi).1
        exact ⟨v,hv,by rw [List.getElem?_append_left hlt] at hy; exact hy,hi.nx (N := N) (.of_keep x.toInCall.keep hz)⟩
    have hnp : prm.Nodup := (List.nodup_append.mp hn).1
    rcases hkind y hmem with hl | hc
    . refine ⟨_, .inl ⟨hl, _,x.toInCall.ns,rfl⟩,fun p hp => ?_⟩
      obtain ⟨v,hv,hpy,hi⟩ := hval p hp
      exact ⟨v,bindL_at _ _ _ hnp hpy hv hl, .inl hi⟩
    . obtain ⟨c,hcc⟩ := Option.isSome_iff_exists.mp (cellsFrom_has fd.scope.names (s.heap.objs.size + 1) [] y hc)
      refine ⟨_, .inr ⟨.inl hc,c,hcc,Nat.le_trans hN (above y c hcc),x.cell y c hcc⟩,fun p hp => ?_⟩
      obtain ⟨v,hv,hpy,hi⟩ := hval p hp
      exact ⟨v,bindC_at _ _ _ hnp hpy hv hc, .inl hi⟩
theorem FN.mk (T : TbOk N X Tb) {f : Addr} {fd : FuncData} {body : List Stmt} {d : Nat} {prm loc : List Str} {ps : List PV} {r : PV} (D : DefAt Tb f fd) (hcd : ∀ h,Tb h -> h.CodeRec fd.code fd.qualname) (hbody : fd.body = .stmts body)
    (hclo : fd.closure = []) (hgl : fd.globals = mainGlobals) (hbu : fd.builtins = builtinsNs) (hlen : prm.length = ps.length)
    (hbind : ∀ vs : List Value,vs.length = prm.length -> bindArgs fd ⟨vs, []⟩ = pure (prm.zip vs)) (hn : (prm ++ loc).Nodup)
    (hkind : ∀ x ∈ prm ++ loc,fd.scope.names.lookup x = some .local ∨ fd.scope.names.lookup x = some .cell)
    (hbd : ∀ A env hb,AOk A d -> EnvOk N hb env -> env.scope = fd.scope -> env.code = fd.code -> env.qual = fd.qualname ++ ".<locals>." -> ST w N Tb A env (Wr env (prm ++ loc) X) (Cx N X hb env (prm ++ loc) (ps.map some ++ loc.map fun _ => none)) body (fun fl h => ∃ v,(match fl with | .ret v => v | _ => .none) = v ∧ Is X h v r ∧ Nx N hb h))
    (hco : fd.scope.isCoroutine = false := by rfl) (hgen : fd.scope.isGenerator = false := by rfl) (hk : fd.scope.kind = .function := by rfl) : FN w N X Tb f (d + 1) ps r := by
  intro A hA vs
  constructor
  intro s Q E iv t k
  refine callDefB T D hcd hbody hclo hgl hbu hlen hbind hn hkind hA iv t (fun A env h tk hA O hs hc hq c t Q' E' hQ => ?_) hco hgen hk
  refine (hbd A env s.heap hA O hs hc hq).run _ _ _ c t fun fl h' tk' fx t' hr => hQ fl _ ?_
  obtain ⟨v,hv,hi,hnx⟩ := hr
  have e : retOf fl = v := hv
  rw [e]
  exact k _ h' tk' hnx t' hi
end
theorem of1 {α : Type} {vs : List α} (h : vs.length = 1) : ∃ a,vs = [a] := by
  cases vs with
  | nil => cases h
  | cons a r => cases r with
    | nil => exact ⟨a,rfl⟩
    | cons b r => cases Nat.succ.inj h
theorem of2 {α : Type} {vs : List α} (h : vs.length = 2) : ∃ a b,vs = [a,b] := by
  cases vs with
  | nil => cases h
  | cons a r =>
    obtain ⟨b,rfl⟩ := of1 (Nat.succ.inj h)
    exact ⟨a,b,rfl⟩
theorem of3 {α : Type} {vs : List α} (h : vs.length = 3) : ∃ a b c,vs = [a,b,c] := by
  cases vs with
  | nil => cases h
  | cons a r =>
    obtain ⟨b,c,rfl⟩ := of2 (Nat.succ.inj h)
    exact ⟨a,b,c,rfl⟩
end
section
set_option autoImplicit false
noncomputable def WOk (X W : List Addr) (h : Heap) : Prop := ∀ b ∈ W,b < h.objs.size ∧ (b ∈ X ∨ ∀ o,h.get? b = some o -> ∀ xs n,o.data ≠ .seq xs n)
theorem Is.fx {N : Nat} {X W : List Addr} {h h' : Heap} (f : Fx N W h h') (wo : WOk X W h) {v : Value} {p : PV} (x : Is X h v p) : Is X h' v p :=
  x.kp fun b o _ _ z ho hd hc => ⟨z,f.kp b o (fun m => (wo _ m).2.elim z fun q => q _ ho _ _ hd) ho (.inr hc)⟩
theorem IsL.fx {N : Nat} {X W : List Addr} {h h' : Heap} (f : Fx N W h h') (wo : WOk X W h) {vs : List Value} {ps : List PV} (x : IsL X h vs ps) : IsL X h' vs ps :=
  x.kp fun b o _ _ z ho hd hc => ⟨z,f.kp b o (fun m => (wo _ m).2.elim z fun q => q _ ho _ _ hd) ho (.inr hc)⟩
noncomputable def pairIters : List String := ["enumerate", "zip", "dict_itemiterator", "dict_reverseitemiterator", "odict_iterator", "itertools.zip_longest", "itertools.pairwise"]
structure Wk (w : World) (N : Nat) (X : List Addr) (A : Around) (I : Addr) (ps : List PV) (St : Nat -> Heap -> Prop) : Prop where
  obj : ∀ i h,St i h -> ∃ o vs,h.get? I = some o ∧ o.data = .fields vs ∧ ∀ x t,vs[1]? ≠ some (Value.str x t)
  cls : ∀ i h,St i h -> ∃ o nm,h.get? I = some o ∧ o.cls = .type nm ∧ pairIters.contains nm = false
  fx : ∀ i h h' W,St i h -> Fx N W h h' -> I ∉ W -> N <= I -> WOk X W h -> St i h'
  item : ∀ i p (s : Shared) (Q : Option Value -> Shared -> Prop) (E : Value -> Shared -> Prop),ps[i]? = some p -> St i s.heap ->
    (∀ v h' tk,Is X h' v p -> St (i + 1) h' -> (∀ b o,b ≠ I -> s.heap.get? b = some o -> h'.get? b = some o) -> Q (some v) { s with heap := h',toks := tk }) -> wpAny (MM w) A (pyNext (.ref I)) Q E s
  done : ∀ (s : Shared) (Q : Option Value -> Shared -> Prop) (E : Value -> Shared -> Prop),St ps.length s.heap ->
    (∀ h' tk,(∀ b o,b ≠ I -> s.heap.get? b = some o -> h'.get? b = some o) -> Q none { s with heap := h',toks := tk }) -> wpAny (MM w) A (pyNext (.ref I)) Q E s
  self : ∀ i (s : Shared) (Q : Value -> Shared -> Prop) (E : Value -> Shared -> Prop),St i s.heap -> Q (.ref I) s -> wpAny (MM w) A (pyIter (.ref I)) Q E s
structure SRC (w : World) (N : Nat) (X : List Addr) (Tb : Heap -> Prop) (A : Around) (env : Env) (C : Heap -> Prop) (e : Expr) (ps : List PV) : Prop where
  run : ∀ (s : Shared) (Q : Value -> Shared -> Prop) (E : Value -> Shared -> Prop),C s.heap -> Tb s.heap ->
    (∀ I h' tk,(∀ Y,(∀ a ∈ Y,a ∈ X ∨ h'.objs.size <= a) -> ∃ St,Wk w N Y A I ps St ∧ St 0 h') -> s.heap.objs.size <= I -> I < h'.objs.size -> Nx N s.heap h' -> Tb h' -> Q (.ref I) { s with heap := h',toks := tk }) ->
    wpAny (MM w) A (eval e env) (fun x s₁ => wpAny (MM w) A (pyIter x) Q E s₁) E s
section
variable {w : World} {N : Nat} {X : List Addr} {Tb : Heap -> Prop} {A : Around} {env : Env} {hb : Heap} {ns : List Str} {vals : List (Option PV)} {C : Heap -> Prop}
theorem Wk.list (hh : A.handled = none) {I ax : Addr} (hne : ax ≠ I) {vs : List Value} {ps : List PV} :
    Wk w N X A I ps (fun i h => h.IsListIter I ax i ∧ ax ∉ X ∧ h.PlainList ax vs.toArray ∧ IsL X h vs ps) where
  obj := fun i h st => let ⟨o,ho,hc,hd⟩ := st.1; ⟨o, _,ho,hd,by intro x t e; cases e⟩
  cls := fun i h st => let ⟨o,ho,hc,hd⟩ := st.1; ⟨o, _,ho,hc,by decide⟩
  fx := fun i h h' W st f hI hN wo => by
    obtain ⟨⟨o,ho,hc,hd⟩,hx,hl,hL⟩ := st
    have hl' := (Is.list hx hl hL).fx f wo
    refine ⟨⟨o,f.kp _ _ hI ho (.inl hN),hc,hd⟩,hx, ?_,hL.fx f wo⟩
    obtain ⟨n,hn⟩ := hl
    refine ⟨n,f.kp _ _ (fun m => ?_) hn (.inr (by intro e; cases e))⟩
    rcases (wo _ m).2 with hq | hq
    . exact hx hq
    . exact hq _ hn _ _ rfl
  item := fun i p s Q E hp st k => by
    obtain ⟨hit,hx,hl,hL⟩ := st
    obtain ⟨v,hv,iv⟩ := hL.get' hp
    refine wpAny_pyNext_list_item hit hl.isList (x := v) (by simpa using hv) fun h' hit' hs' => ?_
    have kp : ∀ b o,b ≠ I -> s.heap.get? b = some o -> h'.get? b = some o := fun b o hb e => (hs'.2 b hb).trans e
    have hq : ∀ o,s.heap.get? I = some o -> ∀ xs n,o.data ≠ .seq xs n := fun o ho xs n e => by
      obtain ⟨o',ho', _,hd⟩ := hit
      rw [ho] at ho'; cases ho'
      rw [hd] at e; cases e
    exact k v h' s.toks (iv.but kp (.inr hq)) ⟨hit',hx,let ⟨n,hn⟩ := hl; ⟨n,kp _ _ hne hn⟩,hL.but kp (.inr hq)⟩ kp
  done := fun s Q E st k => by
    obtain ⟨hit,hx,hl,hL⟩ := st
    exact wpAny_pyNext_list_end hh hit hl.isList (by simp [hL.length]) fun h' he' => k h' s.toks fun b o hb e => he' b o hb e
  self := fun _ _ _ _ st hQ => wpAny_pyIter_listiter st.1 hQ
theorem SRC.list (T : TbOk N X Tb) (hh : A.handled = none) {e : Expr} {ps : List PV} (h : EV w N Tb A env C e (IsP X (.list ps))) : SRC w N X Tb A env C e ps := by
  constructor
  intro s Q E c t k
  refine h.run s _ E c t fun v h₁ t₁ n₁ T₁ i₁ => ?_
  obtain ⟨a,vs,rfl,hx,hl,hL⟩ := i₁.list_inv
  refine wpAny_pyIter_list hl.isList ?_
  have hlt : a < h₁.objs.size := let ⟨_,hn⟩ := hl; Heap.lt_size hn
  refine k h₁.objs.size _ t₁ (fun Y hY => ⟨_,Wk.list (ax := a) (vs := vs) hh (Nat.ne_of_lt hlt), ?_, ?_, ?_,(hL.nx (.push (N := N) _ _)).grow hY⟩) n₁.sz (by rw [Heap.size_push]; exact Nat.lt_succ_self _) (n₁.trans (.push _ _)) (T.push T₁ _)
  . exact ⟨_,Heap.get?_push_size _ rfl,rfl,rfl⟩
  . exact fun m => (hY _ m).elim hx fun q => by rw [Heap.size_push] at q; exact Nat.lt_irrefl _ (Nat.lt_of_lt_of_le hlt (Nat.le_of_succ_le q))
  . exact (Nx.push (N := N) _ _).isList hl
theorem Wk.tuple (hh : A.handled = none) {I ax : Addr} (hne : ax ≠ I) {vs : List Value} {ps : List PV} :
    Wk w N X A I ps (fun i h => h.IsTupleIter I ax i ∧ ax ∉ X ∧ IsTup h ax vs.toArray ∧ IsL X h vs ps) where
  obj := fun i h st => let ⟨o,ho,hc,hd⟩ := st.1; ⟨o, _,ho,hd,by intro x t e; cases e⟩
  cls := fun i h st => let ⟨o,ho,hc,hd⟩ := st.1; ⟨o, _,ho,hc,by decide⟩
  fx := fun i h h' W st f hI hN wo => by
    obtain ⟨⟨o,ho,hc,hd⟩,hx,hl,hL⟩ := st
    refine ⟨⟨o,f.kp _ _ hI ho (.inl hN),hc,hd⟩,hx, ?_,hL.fx f wo⟩
    obtain ⟨o2,ho2,hc2,n,hd2⟩ := hl
    refine ⟨o2,f.kp _ _ (fun m => ?_) ho2 (.inr (by rw [hc2]; intro e; cases e)),hc2,n,hd2⟩
    rcases (wo _ m).2 with hq | hq
    . exact hx hq
    . exact hq _ ho2 _ _ hd2
  item := fun i p s Q E hp st k => by
    obtain ⟨hit,hx,hl,hL⟩ := st
    obtain ⟨v,hv,iv⟩ := hL.get' hp
    refine wpAny_pyNext_tuple_item hit hl (x := v) (by simpa using hv) fun h' hit' hs' => ?_
    have kp : ∀ b o,b ≠ I -> s.heap.get? b = some o -> h'.get? b = some o := fun b o hb e => (hs'.2 b hb).trans e
    have hq : ∀ o,s.heap.get? I = some o -> ∀ xs n,o.data ≠ .seq xs n := fun o ho xs n e => by
      obtain ⟨o',ho', _,hd⟩ := hit
      rw [ho] at ho'; cases ho'
      rw [hd] at e; cases e
    exact k v h' s.toks (iv.but kp (.inr hq)) ⟨hit',hx,let ⟨o,ho,r⟩ := hl; ⟨o,kp _ _ hne ho,r⟩,hL.but kp (.inr hq)⟩ kp
  done := fun s Q E st k => by
    obtain ⟨hit,hx,hl,hL⟩ := st
    exact wpAny_pyNext_tuple_end hh hit hl (by simp [hL.length]) fun h' he' => k h' s.toks fun b o hb e => he' b o hb e
  self := fun _ _ _ _ st hQ => wpAny_pyIter_tupleiter st.1 hQ
theorem SRC.tuple (T : TbOk N X Tb) (hh : A.handled = none) {e : Expr} {ps : List PV} (h : EV w N Tb A env C e (IsP X (.tup ps))) : SRC w N X Tb A env C e ps := by
  constructor
  intro s Q E c t k
  refine h.run s _ E c t fun v h₁ t₁ n₁ T₁ i₁ => ?_
  obtain ⟨a,vs,rfl,hx,hl,hL⟩ := i₁.tup_inv
  refine wpAny_pyIter_tuple hl ?_
  have hlt : a < h₁.objs.size := let ⟨_,hn, _⟩ := hl; Heap.lt_size hn
  refine k h₁.objs.size _ t₁ (fun Y hY => ⟨_,Wk.tuple (ax := a) (vs := vs) hh (Nat.ne_of_lt hlt), ?_, ?_, ?_,(hL.nx (.push (N := N) _ _)).grow hY⟩) n₁.sz (by rw [Heap.size_push]; exact Nat.lt_succ_self _) (n₁.trans (.push _ _)) (T.push T₁ _)
  . exact ⟨_,Heap.get?_push_size _ rfl,rfl,rfl⟩
  . exact fun m => (hY _ m).elim hx fun q => by rw [Heap.size_push] at q; exact Nat.lt_irrefl _ (Nat.lt_of_lt_of_le hlt (Nat.le_of_succ_le q))
  . exact (Nx.push (N := N) _ _).isTuple hl
noncomputable def rangeP (n : Nat) : List PV := (List.range n).map fun (i : Nat) => PV.int (i : Int)
theorem Wk.range (hh : A.handled = none) {I : Addr} {n : Nat} :
    Wk w N X A I (rangeP n) (fun i h => IsRangeIter h I (i : Nat) ((n : Int) - (i : Nat)) 1) where
  obj := fun i h st => ⟨_, _,st,rfl,by intro x t e; cases e⟩
  cls := fun i h st => ⟨_, _,st,rfl,by decide⟩
  fx := fun i h h' W st f hI hN wo => f.kp _ _ hI st (.inl hN)
  item := fun i p s Q E hp st k => by
    have hlt : i < n := by
      have := (List.getElem?_eq_some_iff.mp hp).1
      simpa [rangeP] using this
    have hpe : p = .int (i : Int) := by simpa [rangeP,hlt] using hp.symm
    subst hpe
    refine wpAny_pyNext_range_item st (by lia) fun h' hit' hs' => ?_
    have kp : ∀ b o,b ≠ I -> s.heap.get? b = some o -> h'.get? b = some o := fun b o hb e => (hs'.2 b hb).trans e
    refine k _ h' _ (.int _ _) ?_ kp
    have e1 : ((i : Nat) : Int) + 1 = ((i + 1 : Nat) : Int) := by lia
    have e2 : (n : Int) - (i : Nat) - 1 = (n : Int) - ((i + 1 : Nat) : Int) := by lia
    rw [e1,e2] at hit'
    exact hit'
  done := fun s Q E st k => by
    refine wpAny_pyNext_range_end hh st (by simp [rangeP]) fun h' he' => k h' s.toks fun b o hb e => he' b o hb e
  self := fun _ _ _ _ st hQ => wpAny_pyIter_rangeiter st hQ
theorem rangeSize_nat (n : Nat) : Builtin.Range.rangeSize 0 (n : Int) 1 = (n : Int) := by
  unfold Builtin.Range.rangeSize
  simp
  lia
theorem range_small (n : Nat) (h : n < 2 ^ 62) : Builtin.Range.small 0 (n : Int) 1 = true := by
  unfold Builtin.Range.small
  rw [rangeSize_nat]
  simp [Builtin.Range.rangeFitsLong]
  lia
theorem SRC.range (T : TbOk N X Tb) (hA : A.handled = none) {px pos : Pos} {e : Expr} {n : Nat} {i : Int} (hi : i = (n : Int)) (hn : n < 2 ^ 62) (hC : Stb N C) (hk : env.scope.kind = .function) (hgl : env.globals = mainGlobals) (hbl : env.builtins = builtinsNs)
    (hx : env.kindOf (Str.ofString "range") = some .globalImplicit) (G : BuiltIs Tb (Str.ofString "range") (.type "range")) (h : EV w N Tb A env C e (IsP X (.int i))) (he : starEach [e] env = [(false,eval e env)] := by rfl) :
    SRC w N X Tb A env C (.Call (.Name (Str.ofString "range") px) [e] [] pos) (rangeP n) := by
  subst hi
  constructor
  intro s Q E c t k
  refine Call_ ((EV.built (N := N) (C := C) hk hgl hbl hx G (by decide)).run s _ E c t fun v h₁ t₁ n₁ T₁ hv => ?_)
  subst hv
  refine callWith_type1 ?_ he rfl
  refine args_cons (h.run _ _ E (hC _ _ c n₁) T₁ fun v h₂ t₂ n₂ T₂ i₂ => args_nil ?_) he
  obtain ⟨u,rfl⟩ := i₂.int_inv
  refine call_range_1 ?_
  refine wpAny_pyIter_range (a := 0) (b := (n : Int)) (c := 1) (Heap.get?_push_size _ rfl) (range_small n hn) ?_
  rw [rangeSize_nat]
  refine k _ _ _ (fun Y _ => ⟨_,Wk.range hA (n := n), ?_⟩) ?_ ?_ ((n₁.trans n₂).trans ((Nx.push _ _).trans (.push _ _))) (T.push (T.push T₂ _) _)
  rotate_left
  . show s.heap.objs.size <= (h₂.push _).objs.size
    rw [Heap.size_push]; have := (n₁.trans n₂).sz; lia
  . show (h₂.push _).objs.size < ((h₂.push _).push _).objs.size
    rw [Heap.size_push (h₂.push _)]; exact Nat.lt_succ_self _
  . show IsRangeIter _ _ ((0 : Nat) : Int) ((n : Int) - ((0 : Nat) : Int)) 1
    have e0 : (n : Int) - ((0 : Nat) : Int) = n := by lia
    rw [e0]
    exact Heap.get?_push_size _ rfl
theorem Cx.but {h h' : Heap} {I : Addr} {o : Obj} {vs : Array Value} (c : Cx N X hb env ns vals h) (hz : h.objs.size <= h'.objs.size) (ho : h.get? I = some o) (hd : o.data = .fields vs) (hI : hb.objs.size <= I)
    (kp : ∀ b x,b ≠ I -> h.get? b = some x -> h'.get? b = some x) : Cx N X hb env ns vals h' := by
  have hq : ∀ x,h.get? I = some x -> ∀ xs n,x.data ≠ .seq xs n := fun x hx xs n e => by rw [ho] at hx; cases hx; rw [hd] at e; cases e
  have hns : ∀ m,h.Ns env.locals m -> h'.Ns env.locals m := fun m hm => by
    obtain ⟨x,es,ep,hx,hdx,r⟩ := hm
    exact ⟨x,es,ep,kp _ _ (by rintro rfl; rw [ho] at hx; cases hx; rw [hd] at hdx; cases hdx) hx,hdx,r⟩
  refine ⟨⟨fun b x e n => kp b x (Nat.ne_of_lt (Nat.lt_of_lt_of_le (Heap.lt_size e) hI)) (c.base.kp b x e n),Nat.le_trans c.base.sz hz⟩,let ⟨m,hm⟩ := c.nsx; ⟨m,hns m hm⟩,fun i y hy => ?_⟩
  obtain ⟨u,su,hu⟩ := c.slot i y hy
  refine ⟨u, ?_,fun p hp => let ⟨v,e,iv⟩ := hu p hp; ⟨v,e,iv.but kp hq⟩⟩
  rcases su with ⟨k,m,hm,e⟩ | ⟨k,a,ha,hN,x,hx,hdx⟩
  . exact .inl ⟨k,m,hns m hm,e⟩
  . exact .inr ⟨k,a,ha,hN,x,kp _ _ (by rintro rfl; rw [ho] at hx; cases hx; rw [hd] at hdx; cases hdx) hx,hdx⟩
theorem Cx.wok (T : TbOk N X Tb) {h : Heap} (c : Cx N X hb env ns vals h) (t : Tb h) : WOk X (Wr env ns X) h := by
  intro b hb'
  simp only [Wr,List.mem_cons,List.mem_append,List.mem_filterMap] at hb'
  rcases hb' with rfl | ⟨x,hx,hc⟩ | hx
  . obtain ⟨m,hm⟩ := c.nsx
    exact ⟨hm.lt, .inr (ns_noseq hm)⟩
  . obtain ⟨i,hi⟩ := List.mem_iff_getElem?.mp hx
    obtain ⟨u,su, _⟩ := c.slot i x hi
    split at hc
    . rename_i hk
      rcases su with ⟨k,m,hm,e⟩ | ⟨k,a,ha,hN,hv⟩
      . rw [hk] at k; cases k
      . rw [hc] at ha; cases ha
        exact ⟨hv.lt, .inr (cell_noseq hv)⟩
    . cases hc
  . exact ⟨T.low _ t _ hx, .inl hx⟩
theorem Cx.off {h : Heap} (c : Cx N X hb env ns vals h) {a : Addr} {o : Obj} (ho : h.get? a = some o) (h1 : ∀ es n,o.data ≠ .dict es n) (h2 : ∀ v,o.data ≠ .cell v) : a ∉ Wr env ns [] := by
  intro hb'
  simp only [Wr,List.mem_cons,List.append_nil,List.mem_filterMap] at hb'
  rcases hb' with rfl | ⟨x,hx,hc⟩
  . obtain ⟨m,o',es,ep,ho',hd, _⟩ := c.nsx
    rw [ho] at ho'; cases ho'
    exact h1 _ _ hd
  . obtain ⟨i,hi⟩ := List.mem_iff_getElem?.mp hx
    obtain ⟨u,su, _⟩ := c.slot i x hi
    split at hc
    . rename_i hk
      rcases su with ⟨k,m,hm,e⟩ | ⟨k,b,hb2,hN,o',ho',hd⟩
      . rw [hk] at k; cases k
      . rw [hc] at hb2; cases hb2
        rw [ho] at ho'; cases ho'
        exact h2 _ hd
    . cases hc
theorem Cx.wok0 {h : Heap} (c : Cx N X hb env ns vals h) : WOk X (Wr env ns []) h := by
  intro b hb'
  simp only [Wr,List.mem_cons,List.append_nil,List.mem_filterMap] at hb'
  rcases hb' with rfl | ⟨x,hx,hc⟩
  . obtain ⟨m,hm⟩ := c.nsx
    exact ⟨hm.lt, .inr (ns_noseq hm)⟩
  . obtain ⟨i,hi⟩ := List.mem_iff_getElem?.mp hx
    obtain ⟨u,su, _⟩ := c.slot i x hi
    split at hc
    . rename_i hk
      rcases su with ⟨k,m,hm,e⟩ | ⟨k,a,ha,hN,hv⟩
      . rw [hk] at k; cases k
      . rw [hc] at ha; cases ha
        exact ⟨hv.lt, .inr (cell_noseq hv)⟩
    . cases hc
theorem Cx.less {h : Heap} {vals' : List (Option PV)} (c : Cx N X hb env ns vals h) (hv : ∀ (i : Nat) p,vals'[i]? = some (some p) -> vals[i]? = some (some p)) : Cx N X hb env ns vals' h :=
  ⟨c.base,c.nsx,fun i x hx => let ⟨u,su,hu⟩ := c.slot i x hx; ⟨u,su,fun p hp => hu p (hv i p hp)⟩⟩
inductive LoopI (N : Nat) (X : List Addr) (hb : Heap) (env : Env) (ns : List Str) (V : Nat -> List (Option PV)) (St : Nat -> Heap -> Prop) (Tb : Heap -> Prop) (s : Shared) (M n : Nat) (s' : Shared) : Prop
  | mk (j : Nat) (h' : Heap) (tk : Nat) (hs : s' = { s with heap := h',toks := tk }) (hn : n = M + 1 - j) (hj : j <= M) (st : St j h') (cx : Cx N X hb env ns (V j) h') (tb : Tb h') (fx : Fx N (Wr env ns X) s.heap h')
inductive CompI (N : Nat) (X : List Addr) (hb : Heap) (env : Env) (ns : List Str) (vals : List (Option PV)) (St : Nat -> Heap -> Prop) (Tb : Heap -> Prop) (D : Addr) (qs : List PV) (s : Shared) (M n : Nat) (s' : Shared) : Prop
  | mk (j : Nat) (h' : Heap) (tk : Nat) (ys : Array Value) (hs : s' = { s with heap := h',toks := tk }) (hn : n = M + 1 - j) (hj : j <= M) (st : St j h') (hl : h'.PlainList D ys) (hy : IsL (D :: X) h' ys.toList (qs.take j)) (cx : Cx N (D :: X) hb env ns vals h') (tb : Tb h')
theorem SX.forS (T : TbOk N X Tb) (O : EnvOk N hb env) {x : Str} {px pos : Pos} {iter : Expr} {body : List Stmt} {ps : List PV} {i : Nat} {V : Nat -> List (Option PV)} (hV : V 0 = vals)
    (src : SRC w N X Tb A env (Cx N X hb env ns vals) iter ps) (hx : Ix ns x i) (hn : NsOk ns) (hkx : env.kindOf x ≠ some .free)
    (hbody : ∀ j p,ps[j]? = some p -> ST w N Tb A env (Wr env ns X) (Cx N X hb env ns ((V j).set i (some p))) body (Nxt (Cx N X hb env ns (V (j + 1)))))
    (hs : ∀ x,foldedSetIterable iter env x = pure x := by intro _; rfl) :
    SX w N Tb A env (Wr env ns X) (Cx N X hb env ns vals) (.For (.Name x px) iter body [] pos) (Nxt (Cx N X hb env ns (V ps.length))) := by
  constructor
  intro s Q E c t k
  refine wpAny_For (src.run s _ E c t fun I h₁ t₁ WW hI hI' n₁ T₁ => ?_) hs
  obtain ⟨St,W,st⟩ := WW X fun a ha => .inl ha
  have c₁ := Cx.stb O.hL _ _ c n₁
  have hNI : N <= I := Nat.le_trans (T.size _ t) hI
  have hbI : hb.objs.size <= I := Nat.le_trans c.base.sz hI
  have hIW : I ∉ Wr env ns X := fun m => Nat.lt_irrefl _ (Nat.lt_of_lt_of_le (Cx.wok T c t I m).1 hI)
  refine codeAny_forLoop_any (I := LoopI N X hb env ns V St Tb s ps.length) ?_ (ps.length + 1)
    ⟨0,h₁,t₁,rfl,rfl,Nat.zero_le _,st,hV ▸ c₁,T₁,n₁.fx⟩
  rintro n s' ⟨j,h',tk,rfl,rfl,hj,stj,cj,tj,fj⟩
  obtain ⟨o,vs,ho,hd,hoc⟩ := W.obj _ _ stj
  by_cases hlt : j < ps.length
  . have hp : ps[j]? = some ps[j] := List.getElem?_eq_getElem hlt
    refine wp_grows (W.item j _ _ _ _ hp stj fun v h₂ t₂ iv st₂ kp hz => ?_)
    have c₂ := cj.but hz ho hd hbI kp
    have T₂ : Tb h₂ := T.upd _ _ I o hNI ho (.fields hd hoc) kp hz tj
    have hoff : ∀ {g g' : Heap},Fx N (Wr env ns X) s.heap g -> g.objs.size <= g'.objs.size -> (∀ b o,b ≠ I -> g.get? b = some o -> g'.get? b = some o) -> Fx N (Wr env ns X) s.heap g' := fun f z q =>
      ⟨fun b o hb' e n => q b o (Nat.ne_of_lt (Nat.lt_of_lt_of_le (Heap.lt_size e) hI)) (f.kp b o hb' e n),Nat.le_trans f.sz z⟩
    have f₂ := hoff fj hz kp
    show wpAny (MM w) A (pure ()) _ _ _
    refine wpAny_pure (wpAny_assign_Name (store T O hx hn.nodup hkx c₂ T₂ iv fun h₃ t₃ f₃ T₃ c₃ => ?_))
    refine (hbody j _ hp).run _ _ _ c₃ T₃ fun f h₄ t₄ f₄ T₄ r => ?_
    obtain ⟨rfl,c₄⟩ := r
    have f₃₄ := f₃.trans f₄
    exact ⟨ps.length + 1 - (j + 1),by lia,j + 1,h₄,t₄,rfl,rfl,hlt,W.fx _ _ _ _ st₂ f₃₄ hIW hNI (Cx.wok T c₂ T₂),c₄,T₄,f₂.trans f₃₄⟩
  . have hje : j = ps.length := by lia
    subst hje
    refine wp_grows (W.done _ _ _ stj fun h₂ t₂ kp hz => ?_)
    refine wpAny_execs_nil ?_
    refine k .next h₂ t₂ ⟨fun b o hb' e n => kp b o (Nat.ne_of_lt (Nat.lt_of_lt_of_le (Heap.lt_size e) hI)) (fj.kp b o hb' e n),Nat.le_trans fj.sz hz⟩ (T.upd _ _ I o hNI ho (.fields hd hoc) kp hz tj) ⟨rfl,cj.but hz ho hd hbI kp⟩
noncomputable def closeOf (env : Env) : List (Str × NameKind) -> List (Str × Addr) -> List (Str × Addr)
  | [],acc => acc
  | (n,k) :: r,acc => closeOf env r (if k == .free then (match env.cells.lookup n with | some a => (n,a) :: acc | none => acc) else acc)
theorem closureFor_eq (scope : Scope) (env : Env) (h : ∀ x ∈ scope.names,x.2 = .free -> (env.cells.lookup x.1).isSome = true) : closureFor scope env = pure (closeOf env scope.names []) := by
  unfold closureFor
  have key : ∀ (names : List (Str × NameKind)) (acc : List (Str × Addr)),(∀ x ∈ names,x.2 = .free -> (env.cells.lookup x.1).isSome = true) ->
      (forIn names acc fun (x : Str × NameKind) (cs : List (Str × Addr)) => match x with
        | (name,kind) => if (kind == NameKind.free) = true then do let a <- cellOf env name; pure (ForInStep.yield ((name,a) :: cs)) else pure (ForInStep.yield cs)) = (pure (closeOf env names acc) : Sem (List (Str × Addr))) := by
    intro names
    induction names with
    | nil => intro acc _; rfl
    | cons x r ih =>
      intro acc hx
      obtain ⟨n,k⟩ := x
      have hr := ih (closeOf env [(n,k)] acc) fun y hy => hx y (List.mem_cons_of_mem _ hy)
      rw [List.forIn_cons]
      simp only [closeOf] at hr ⊢
      by_cases hk : (k == NameKind.free) = true
      . obtain ⟨a,ha⟩ := Option.isSome_iff_exists.mp (hx (n,k) List.mem_cons_self (by simpa using hk))
        simp only [hk,if_true,cellOf,ha,pure_bind] at hr ⊢
        exact hr
      . simp only [hk] at hr ⊢
        exact hr
  have := key scope.names [] h
  simp only [bind_pure] at this ⊢
  exact this
theorem closeOf_keep {env : Env} {y : Str} {c : Addr} (hc : env.cells.lookup y = some c) : ∀ (names : List (Str × NameKind)) (acc : List (Str × Addr)),acc.lookup y = some c -> (closeOf env names acc).lookup y = some c
  | [], _,h => h
  | (n,k) :: r,acc,h => by
    unfold closeOf
    refine closeOf_keep hc r _ ?_
    split
    . split
      . rename_i a ha
        rw [List.lookup_cons]
        split
        . rename_i hy
          have : y = n := by simpa using hy
          subst this
          rw [hc] at ha; exact ha.symm
        . exact h
      . exact h
    . exact h
theorem closeOf_has {env : Env} {y : Str} {c : Addr} (hc : env.cells.lookup y = some c) : ∀ (names : List (Str × NameKind)) (acc : List (Str × Addr)),names.lookup y = some .free -> (closeOf env names acc).lookup y = some c
  | (n,k) :: r,acc,h => by
    rw [List.lookup_cons] at h
    unfold closeOf
    cases hb : y == n with
    | true =>
      rw [hb] at h
      cases h
      have : y = n := by simpa using hb
      subst this
      refine closeOf_keep hc r _ ?_
      rw [if_pos (by decide : (NameKind.free == NameKind.free) = true),hc]
      simp
    | false =>
      rw [hb] at h
      exact closeOf_has hc r _ h
theorem relabel_free {env : Env} {y : Str} : ∀ {names : List (Str × NameKind)},names.lookup y = some .free ->
    (names.map fun (n,k) => if (k == NameKind.free && env.scope.kind == .function && env.kindOf n == some .cell) then (n,NameKind.cell) else (n,k)).lookup y = some .cell ∨
    (names.map fun (n,k) => if (k == NameKind.free && env.scope.kind == .function && env.kindOf n == some .cell) then (n,NameKind.cell) else (n,k)).lookup y = some .free
  | (n,k) :: r,h => by
    rw [List.lookup_cons] at h
    rw [List.map_cons]
    cases hb : y == n with
    | true =>
      rw [hb] at h
      cases h
      dsimp only
      split
      . left; rw [List.lookup_cons,hb]
      . right; rw [List.lookup_cons,hb]
    | false =>
      rw [hb] at h
      have ih := relabel_free (env := env) h
      dsimp only
      split
      . rw [List.lookup_cons,hb]; exact ih
      . rw [List.lookup_cons,hb]; exact ih
inductive Fs (scope : Scope) (env : Env) (ns : List Str) (vals : List (Option PV)) : List Str -> List (Option PV) -> Prop
  | nil : Fs scope env ns vals [] []
  | cons {y : Str} {i : Nat} {ov : Option PV} {fs : List Str} {fv : List (Option PV)} : Ix ns y i -> vals[i]? = some ov -> scope.names.lookup y = some .free -> (env.kindOf y = some .cell ∨ env.kindOf y = some .free) -> Fs scope env ns vals fs fv -> Fs scope env ns vals (y :: fs) (ov :: fv)
theorem Fs.get {scope : Scope} {env : Env} {ns : List Str} {vals : List (Option PV)} {fs : List Str} {fv : List (Option PV)} (F : Fs scope env ns vals fs fv) {k : Nat} {y : Str} (e : fs[k]? = some y) :
    ∃ i : Nat,ns[i]? = some y ∧ vals[i]? = fv[k]? ∧ scope.names.lookup y = some .free ∧ (env.kindOf y = some .cell ∨ env.kindOf y = some .free) := by
  induction F generalizing k with
  | nil => rw [List.getElem?_nil] at e; cases e
  | cons hx hv hs hk _ ih =>
    cases k with
    | zero => obtain rfl := Option.some.inj e; exact ⟨_,hx.get,hv,hs,hk⟩
    | succ k => exact ih e
variable {Top : Heap -> Prop}
theorem relabel_other {scope : Scope} {env : Env} {y : Str} {k : NameKind} (hk : k ≠ .free) (h : scope.names.lookup y = some k) : (relabel scope env).names.lookup y = some k := by
  unfold relabel
  generalize scope.names = names at h
  induction names with
  | nil => cases h
  | cons a r ih =>
    obtain ⟨n,k'⟩ := a
    rw [List.lookup_cons] at h
    rw [List.map_cons]
    cases hb : y == n with
    | true =>
      rw [hb] at h
      cases h
      dsimp only
      rw [if_neg (by cases k <;> first | exact absurd rfl hk | (intro h; cases h)),List.lookup_cons,hb]
    | false =>
      rw [hb] at h
      have ih := ih h
      dsimp only
      split
      . rw [List.lookup_cons,hb]; exact ih
      . rw [List.lookup_cons,hb]; exact ih
theorem pushCells_size : ∀ (names : List (Str × NameKind)) (h : Heap),h.objs.size <= (pushCells h names).objs.size
  | [],h => Nat.le_refl _
  | (_,k) :: r,h => by
    unfold pushCells
    split
    . refine Nat.le_trans ?_ (pushCells_size r _)
      rw [Heap.size_push]; lia
    . exact pushCells_size r h
theorem cf_other {y : Str} : ∀ (names : List (Str × NameKind)) (n : Nat) (acc : List (Str × Addr)),(∀ q ∈ names,q.1 = y -> q.2 ≠ .cell) -> (cellsFrom n names acc).lookup y = acc.lookup y
  | [], _, _, _ => rfl
  | (nm,k) :: r,n,acc,h => by
    unfold cellsFrom
    have hr : ∀ q ∈ r,q.1 = y -> q.2 ≠ .cell := fun q hq => h q (List.mem_cons_of_mem _ hq)
    split
    . rename_i hk
      rw [cf_other r _ _ hr,List.lookup_cons]
      have : (y == nm) = false := by
        cases e : y == nm with
        | false => rfl
        | true => exact absurd (by simpa using hk) (h (nm,k) List.mem_cons_self (by simpa using Eq.symm (eq_of_beq e)))
      rw [this]
    . exact cf_other r _ _ hr
theorem cf_has {x : Str} {n0 : Nat} : ∀ (names : List (Str × NameKind)) (h : Heap) (acc : List (Str × Addr)),n0 <= h.objs.size -> ((∃ c,acc.lookup x = some c ∧ n0 <= c ∧ h.IsCell c none) ∨ names.lookup x = some .cell) ->
    ∃ c,(cellsFrom h.objs.size names acc).lookup x = some c ∧ n0 <= c ∧ (pushCells h names).IsCell c none
  | [],h,acc, _,hh => by
    rcases hh with hh | hh
    . exact hh
    . cases hh
  | (nm,k) :: r,h,acc,hn,hh => by
    unfold cellsFrom pushCells
    split
    . have hz : (h.push { cls := .type "cell",data := .cell none }).objs.size = h.objs.size + 1 := Heap.size_push ..
      have hcell : (h.push { cls := .type "cell",data := .cell none }).IsCell h.objs.size none := ⟨_,Heap.get?_push_size _ rfl,rfl⟩
      have ih := cf_has (x := x) (n0 := n0) r (h.push { cls := .type "cell",data := .cell none }) ((nm,h.objs.size) :: acc) (by rw [hz]; lia)
      rw [hz] at ih
      refine ih ?_
      cases hb : x == nm with
      | true => exact .inl ⟨h.objs.size,by rw [List.lookup_cons,hb],hn,hcell⟩
      | false =>
        rcases hh with ⟨c,h1,h2,h3⟩ | hh
        . exact .inl ⟨c,by rw [List.lookup_cons,hb]; exact h1,h2,h3.keeps fun b o e => Heap.get?_push_of_some _ e⟩
        . rw [List.lookup_cons,hb] at hh
          exact .inr hh
    . rename_i hk
      refine cf_has r h acc hn ?_
      rcases hh with hh | hh
      . exact .inl hh
      . rw [List.lookup_cons] at hh
        cases hb : x == nm with
        | true => rw [hb] at hh; cases hh; exact absurd rfl hk
        | false => rw [hb] at hh; exact .inr hh
theorem wpAny_newEnvG {M : Model} {A : Around} {E : Value -> Shared -> Prop} {s : Shared} {scope : Scope} {globals : Addr} {closure : List (Str × Addr)} {qual : Str} {env : Env} {Q : Env -> Shared -> Prop}
    (h : Q { scope,locals := s.heap.objs.size,globals,cells := cellsFrom (s.heap.objs.size + 1) scope.names closure,qual,func := none,code := env.code,frame := env.frame,builtins := env.builtins } { s with heap := pushCells (s.heap.push { cls := .type "dict",data := .dict #[] }) scope.names }) :
    wpAny M A (newFunctionEnv scope globals closure [] qual none .none (some env)) Q E s := by
  simp only [newFunctionEnv,Option.isSome_some,if_true]
  refine wpAny_bind (wpAny_alloc ?_)
  refine wpAny_bind (wpAny_layCells _ (fun name kind cells => by cases hkc : kind == NameKind.cell <;> simp [hkc]) _ _ _ _ ?_)
  rw [show ({ s with heap := s.heap.push { cls := .type "dict",data := .dict #[] } } : Shared).heap.objs.size = s.heap.objs.size + 1 from Heap.size_push ..]
  refine wpAny_bind ?_
  rw [List.forIn_nil]
  exact wpAny_pure (wpAny_pure h)
theorem loop_listG {w : World} {A : Around} {R : Result -> Shared -> Prop} {s : Shared} {elt target iter : Expr} {scope : Scope} {pos : Pos} {it acc : Value} {env : Env} (I : Nat -> Shared -> Prop)
    (turn : ∀ n s,I n s -> wpAny (MM w) A (pyNext it) (fun r s₁ => match r with
      | none => R (.ok .next) s₁
      | some v => wpAny (MM w) A (letOwnedTupleGo target it v) (fun _ s₁ => wpAny (MM w) A (assign target env v) (fun _ s₂ => wpAny (MM w) A (eval elt env) (fun x s₃ =>
          wpAny (MM w) A (call (.builtin "list.append") [acc,x]) (fun _ s₄ => ∃ m,m < n ∧ I m s₄) (notedBy (MM w) A env fun e s' => R (.error e) s') s₃)
          (notedBy (MM w) A env fun e s' => R (.error e) s') s₂) (notedBy (MM w) A env fun e s' => R (.error e) s') s₁) (notedBy (MM w) A env fun e s' => R (.error e) s') s₁) (notedBy (MM w) A env fun e s' => R (.error e) s') s)
    (n : Nat) (h : I n s) : codeAny (MM w) A (.compLoop (.ListComp elt [⟨target,iter, [],0⟩] scope pos) 0 it acc env) R s := by
  refine codeAny_loop rfl I (fun n s hI => ?_) n h
  show wpAny _ _ ((compTurn (.ListComp elt [⟨target,iter, [],0⟩] scope pos) 0 it acc env).onRaise (fun x => do noteFrame x env; theTreesLotGoes x)) _ _ s
  refine wpAny_noted ?_
  rw [compTurn_list1]
  refine wpAny_bind (wpAny_standAt (wpAny_bind (wpAny_mono (turn n s hI) (fun r s₁ h₁ => ?_) fun _ _ h' => h')))
  cases r with
  | none => exact wpAny_pure h₁
  | some v =>
    refine wpAny_bind (wpAny_mono h₁ (fun _ s₁ h₁ => ?_) fun _ _ h' => h')
    exact wpAny_bind (wpAny_mono h₁ (fun _ s₂ h₂ => wpAny_bind (wpAny_bind (wpAny_mono h₂ (fun x s₃ h₃ => wpAny_bind (wpAny_mono h₃
      (fun _ s₄ h₄ => wpAny_pure (wpAny_pure ⟨rfl,h₄⟩)) fun _ _ h' => h')) fun _ _ h' => h'))) fun _ _ h' => h')
theorem comp_coreG {ns : List Str} {vals : List (Option PV)} (T : TbOk N [] Top) (O : BlkOk N hb env) {elt iter tg : Expr} {pos : Pos} {scope : Scope} {ps : List PV} {f : Nat -> PV -> PV} {tn fs : List Str} {fv : List (Option PV)} {use : Option (Value -> Sem Unit)} {U : Nat -> List (Option PV)}
    (src : SRC w N X (TbX Top X) A env (Cx N X hb env ns vals) iter ps) (hz : ps.length <= sizeLine)
    (hkind : scope.kind = .function) (hcell : ∀ y ∈ scope.names,y.2 = .cell -> y.1 ∈ tn ∧ y.1 ∉ fs) (hnames : ∀ y ∈ scope.names,y.2 = .local -> scope.names.lookup y.1 = some .local) (hx : ∀ x ∈ tn,scope.names.lookup x = some .local ∨ scope.names.lookup x = some .cell)
    (hfree : ∀ y ∈ scope.names,y.2 = .free -> y.1 ∈ fs) (F : Fs scope env ns vals fs fv) (hfo : okF fv = true) (hxn : (tn ++ fs).Nodup) (hU : ∀ j,(U j).length = tn.length)
    (helt : ∀ (D : Addr) (cenv : Env) (hc : Heap),N <= D -> cenv.scope = relabel scope env -> BlkOk N hc cenv -> ∀ j p,ps[j]? = some p -> EV w N (TbX Top (D :: X)) A cenv (Cx N (D :: X) hc cenv (tn ++ fs) (U j ++ fv)) elt (IsP (D :: X) (f j p)))
    (hasg : ∀ (D : Addr) (cenv : Env) (hc : Heap),N <= D -> cenv.scope = relabel scope env -> BlkOk N hc cenv -> (∀ x ∈ tn, ∀ c,cenv.cells.lookup x = some c -> cenv.kindOf x = some .cell -> hc.objs.size <= c ∧ ∀ y ∈ fs,cenv.cells.lookup y ≠ some c) ->
      ∀ j p,ps[j]? = some p -> ∀ (s : Shared) (v : Value) (Q : Unit -> Shared -> Prop) (E : Value -> Shared -> Prop),Cx N (D :: X) hc cenv (tn ++ fs) (tn.map (fun _ => none) ++ fv) s.heap -> TbX Top (D :: X) s.heap -> Is (D :: X) s.heap v p ->
      (∀ h' tk,Fx N (Wr cenv (tn ++ fs) []) s.heap h' -> TbX Top (D :: X) h' -> Cx N (D :: X) hc cenv (tn ++ fs) (U j ++ fv) h' -> Q () { s with heap := h',toks := tk }) -> wpAny (MM w) A (assign tg cenv v) Q E s)
    (hto : ∀ I v s (Q : Unit -> Shared -> Prop) (E : Value -> Shared -> Prop),(∃ o nm,s.heap.get? I = some o ∧ o.cls = .type nm ∧ pairIters.contains nm = false) -> Q () s -> wpAny (MM w) A (letOwnedTupleGo tg (.ref I) v) Q E s)
    (hs : ∀ x,foldedSetIterable iter env x = pure x) (s : Shared) (Q : Value -> Shared -> Prop) (E : Value -> Shared -> Prop) (c : Cx N X hb env ns vals s.heap) (t : TbX Top X s.heap)
    (k : ∀ D CC h' tk,Nx N s.heap h' -> TbX Top X h' -> Is X h' (.ref D) (.list (ps.mapIdx f)) -> s.heap.objs.size <= CC -> s.heap.objs.size <= D -> D ≠ CC -> (∃ m,h'.Ns CC m) -> compPost (MM w) A E use Q (.ref D) CC (.ok .next) { s with heap := h',toks := tk }) :
    wpAny (MM w) A (comprehension (.ListComp elt [⟨tg,iter, [],0⟩] scope pos) scope env (firstIterPos [⟨tg,iter, [],0⟩] pos) (newList []) (firstAsync [⟨tg,iter, [],0⟩]) (firstIter [⟨tg,iter, [],0⟩] env) use) Q E s := by
  show wpAny (MM w) A (comprehension _ scope env _ (newList []) false (eval iter env) use) Q E s
  have TX := TbX.ok T X
  have hclos : closureFor scope env = pure (closeOf env scope.names []) := closureFor_eq scope env fun y hy hf => by
    obtain ⟨j,hj⟩ := List.mem_iff_getElem?.mp (hfree y hy hf)
    obtain ⟨i,hi, _, _,hkk⟩ := F.get hj
    obtain ⟨u,su, _⟩ := c.slot i _ hi
    rcases su with ⟨kk, _⟩ | ⟨_,a,ha, _⟩
    . rcases hkk with h | h <;> (rw [h] at kk; cases kk)
    . rw [ha]; rfl
  refine wpAny_comprehension_free rfl hs hclos hkind hnames ?_
  refine src.run s _ E c t fun I h₁ t₁ WW hI hI' n₁ T₁ => ?_
  have c₁ := Cx.stb O.hL _ _ c n₁
  refine wpAny_newObj_type (wpAny_newEnvG ?_)
  generalize hH : h₁.push { cls := .type "list",dict := none,data := .seq ([] : List Value).toArray } = H
  have hHz : H.objs.size = h₁.objs.size + 1 := by rw [<- hH,Heap.size_push]
  have hkH : ∀ b o,h₁.get? b = some o -> H.get? b = some o := fun b o e => hH ▸ Heap.get?_push_of_some _ e
  have hDH : H.get? h₁.objs.size = some { cls := .type "list",dict := none,data := .seq ([] : List Value).toArray } := by rw [<- hH]; exact Heap.get?_push_size _ rfl
  dsimp only
  obtain ⟨h₂,hh₂⟩ : ∃ h₂,h₂ = pushCells (H.push { cls := .type "dict",data := .dict #[] }) scope.names := ⟨_,rfl⟩
  have hns₂ : h₂.Ns H.objs.size (fun _ => none) := by rw [hh₂]; exact (Heap.Ns.new H (.type "dict")).keeps (pushCells_keeps _ _)
  have kp₂ : ∀ b o,H.get? b = some o -> h₂.get? b = some o := fun b o e => by rw [hh₂]; exact pushCells_keeps _ _ b o (Heap.get?_push_of_some _ e)
  have z₂ : H.objs.size + 1 <= h₂.objs.size := by rw [hh₂]; refine Nat.le_trans ?_ (pushCells_size _ _); rw [Heap.size_push]; lia
  have hcf : ∀ x ∈ tn,scope.names.lookup x = some .cell -> ∃ c,(cellsFrom (H.objs.size + 1) scope.names (closeOf env scope.names [])).lookup x = some c ∧ H.objs.size + 1 <= c ∧ h₂.IsCell c none := fun x _ hk => by
    have h := cf_has (x := x) (n0 := H.objs.size + 1) scope.names (H.push { cls := .type "dict",data := .dict #[] }) (closeOf env scope.names []) (by rw [Heap.size_push]; lia) (.inr hk)
    rw [Heap.size_push, <- hh₂] at h
    exact h
  have hco : ∀ y ∈ fs,(cellsFrom (H.objs.size + 1) scope.names (closeOf env scope.names [])).lookup y = (closeOf env scope.names []).lookup y := fun y hy => cf_other _ _ _ fun q hq e hc => (hcell q hq hc).2 (e ▸ hy)
  rw [<- hh₂]
  generalize hcc : cellsFrom (H.objs.size + 1) scope.names (closeOf env scope.names []) = cls at hcf hco ⊢
  have k₁₂ : ∀ b o,h₁.get? b = some o -> h₂.get? b = some o := fun b o e => kp₂ b o (hkH b o e)
  have z₁₂ : h₁.objs.size <= h₂.objs.size := by lia
  have n₁₂ : Nx N h₁ h₂ := .of_keep k₁₂ z₁₂
  obtain ⟨D,hD⟩ : ∃ D : Nat,D = h₁.objs.size := ⟨_,rfl⟩
  rw [<- hD] at hDH ⊢
  have TY := TbX.ok T (D :: X)
  have T₂ : TbX Top (D :: X) h₂ := ⟨(TX.keep _ _ k₁₂ z₁₂ T₁).1,fun y hy => by
    rcases List.mem_cons.mp hy with e | hy
    . rw [e]; show (D : Nat) < h₂.objs.size; lia
    . exact Nat.lt_of_lt_of_le (T₁.2 y hy) z₁₂⟩
  have hDX : D ∉ X := fun m => Nat.lt_irrefl _ (hD ▸ T₁.2 D m)
  have hgrow : ∀ a ∈ D :: X,a ∈ X ∨ h₁.objs.size <= a := fun a ha => (List.mem_cons.mp ha).elim (fun e => .inr (by rw [e,hD]; exact Nat.le_refl _)) .inl
  obtain ⟨St,W,st⟩ := WW (D :: X) hgrow
  have hN : N <= s.heap.objs.size := TX.size _ t
  have hsD : s.heap.objs.size <= D := hD ▸ n₁.sz
  obtain ⟨CC,hCC⟩ : ∃ CC : Nat,CC = H.objs.size := ⟨_,rfl⟩
  have hlook : ∀ y c,env.cells.lookup y = some c -> scope.names.lookup y = some .free -> (closeOf env scope.names []).lookup y = some c := fun y c hc hf => closeOf_has hc _ _ hf
  show codeAny (MM w) A (.compStart (.ListComp elt [⟨tg,iter, [],0⟩] scope pos) 0 (.ref I) (.ref D) (compEnvC scope cls H.objs.size env)) (compPost (MM w) A E use Q (.ref D) H.objs.size) _
  rw [<- hCC] at hns₂ hcf ⊢
  obtain ⟨cenv,hcenv⟩ : ∃ cenv,cenv = compEnvC scope cls CC env := ⟨_,rfl⟩
  rw [<- hcenv]
  have hcl : cenv.locals = CC := by rw [hcenv]; rfl
  have B : BlkOk N s.heap cenv := by
    rw [hcenv]
    exact ⟨hkind,O.glob,O.bui,by show s.heap.objs.size <= CC; lia,hN⟩
  have hkin : ∀ x ∈ tn,(cenv.kindOf x = some .local ∧ scope.names.lookup x = some .local) ∨ (cenv.kindOf x = some .cell ∧ scope.names.lookup x = some .cell) := fun x hx' => by
    rcases hx x hx' with h | h
    . exact .inl ⟨by rw [hcenv]; exact lookup_relabel_local h,h⟩
    . exact .inr ⟨by rw [hcenv]; exact relabel_other (by decide) h,h⟩
  have hcells : cenv.cells = cls := by rw [hcenv]; rfl
  have c₂ : Cx N (D :: X) s.heap cenv (tn ++ fs) (tn.map (fun _ => none) ++ fv) h₂ := by
    refine ⟨n₁.trans n₁₂,⟨_,hcl ▸ hns₂⟩,fun i y hy => ?_⟩
    by_cases hi : i < tn.length
    . rw [List.getElem?_append_left hi] at hy
      have hym := List.mem_of_getElem? hy
      refine ⟨none, ?_,fun p hp => ?_⟩
      . rcases hkin y hym with ⟨h, _⟩ | ⟨h,h'⟩
        . exact .inl ⟨h, _,hcl ▸ hns₂,rfl⟩
        . obtain ⟨c,e1,e2,e3⟩ := hcf y hym h'
          exact .inr ⟨.inl h,c,hcells ▸ e1,by lia,e3⟩
      . rw [List.getElem?_append_left (by rw [List.length_map]; exact hi),List.getElem?_map] at hp
        cases hq : tn[i]? with
        | none => rw [hq] at hp; cases hp
        | some z => rw [hq] at hp; cases hp
    . rw [List.getElem?_append_right (Nat.not_lt.mp hi)] at hy
      rw [List.getElem?_append_right (by rw [List.length_map]; exact Nat.not_lt.mp hi),List.length_map]
      generalize i - tn.length = i at hy
      have hym := List.mem_of_getElem? hy
      obtain ⟨j,hj,hv,hf,hkk⟩ := F.get hy
      obtain ⟨u,su,hu⟩ := c₁.slot j y hj
      rcases su with ⟨kk, _⟩ | ⟨_,a,ha,hNa,hva⟩
      . exfalso; rcases hkk with h | h <;> (rw [h] at kk; cases kk)
      . refine ⟨u, .inr ⟨?_,a, ?_,hNa,hva.keeps k₁₂⟩,fun p hp => ?_⟩
        . rw [hcenv]; exact relabel_free hf
        . rw [hcells,hco y hym]; exact hlook y a ha hf
        . obtain ⟨v,e,iv⟩ := hu p (by rw [hv]; exact hp)
          exact ⟨v,e, .inl (((iv.is (okF.at hfo (List.mem_of_getElem? hp))).grow hgrow).nx n₁₂)⟩
  have hapart : ∀ x ∈ tn, ∀ c,cenv.cells.lookup x = some c -> cenv.kindOf x = some .cell -> s.heap.objs.size <= c ∧ ∀ y ∈ fs,cenv.cells.lookup y ≠ some c := by
    intro x hx' c hc hk
    rcases hkin x hx' with ⟨h, _⟩ | ⟨_,h'⟩
    . rw [hk] at h; cases h
    . obtain ⟨c',e1,e2,e3⟩ := hcf x hx' h'
      rw [hcells,e1] at hc
      cases hc
      refine ⟨by lia,fun y hy e => ?_⟩
      obtain ⟨i,hi⟩ := List.mem_iff_getElem?.mp hy
      obtain ⟨j,hj,hv,hf,hkk⟩ := F.get hi
      obtain ⟨u,su,hu⟩ := c₁.slot j y hj
      rcases su with ⟨kk, _⟩ | ⟨_,a,ha,hNa,hva⟩
      . rcases hkk with h | h <;> (rw [h] at kk; cases kk)
      . rw [hcells,hco y hy,hlook y a ha hf] at e
        cases e
        exact Nat.lt_irrefl _ (Nat.lt_of_lt_of_le (Nat.lt_of_lt_of_le hva.lt (by lia : h₁.objs.size <= CC + 1)) e2)
  have hne : I ≠ D := Nat.ne_of_lt (hD ▸ hI')
  have hNI : N <= I := Nat.le_trans hN hI
  have loop : ∀ s₃ : Shared,s₃ = { s with heap := h₂,toks := t₁ } -> codeAny (MM w) A (.compLoop (.ListComp elt [⟨tg,iter, [],0⟩] scope pos) 0 (.ref I) (.ref D) cenv) (compPost (MM w) A E use Q (.ref D) CC) s₃ := by
    rintro s₃ rfl
    refine loop_listG (I := CompI N X s.heap cenv (tn ++ fs) (tn.map (fun _ => none) ++ fv) St (TbX Top (D :: X)) D (ps.mapIdx f) s ps.length) ?_ (ps.length + 1)
      ⟨0,h₂,t₁, #[],rfl,rfl,Nat.zero_le _,W.fx 0 _ _ [] st (n₁₂.fx) (by simp) hNI (by intro b hb; simp at hb),⟨_,kp₂ _ _ hDH⟩,by simpa using IsL.nil,c₂,T₂⟩
    rintro n s' ⟨j,h',tk,ys,rfl,rfl,hj,stj,hDj,hys,cj,tj⟩
    obtain ⟨o,vs,ho,hd,hoc⟩ := W.obj _ _ stj
    have hsI : s.heap.objs.size <= I := hI
    have hrec : ∀ xs n,o.data ≠ .seq xs n := fun xs n e => by rw [hd] at e; cases e
    by_cases hlt : j < ps.length
    . have hp : ps[j]? = some ps[j] := List.getElem?_eq_getElem hlt
      refine wp_grows (W.item j _ _ _ _ hp stj fun v h₃ t₃ iv st₃ kp₃ hz₃ => ?_)
      have c₃ := cj.but hz₃ ho hd hsI kp₃
      have T₃ : TbX Top (D :: X) h₃ := TY.upd _ _ I o hNI ho (.fields hd hoc) kp₃ hz₃ tj
      have hys₃ := hys.but kp₃ (.inr fun o' ho' => by rw [ho] at ho'; cases ho'; exact hrec)
      have hD₃ : h₃.PlainList D ys := let ⟨m,hm⟩ := hDj; ⟨m,kp₃ _ _ (Ne.symm hne) hm⟩
      obtain ⟨o₃,vs₃,ho₃,hd₃,hoc₃⟩ := W.obj _ _ st₃
      have hIW : I ∉ Wr cenv (tn ++ fs) [] := c₃.off ho₃ (fun es n e => by rw [hd₃] at e; cases e) (fun v e => by rw [hd₃] at e; cases e)
      have hDW : D ∉ Wr cenv (tn ++ fs) [] := let ⟨m,hm⟩ := hD₃; c₃.off hm (fun es n e => by cases e) (fun v e => by cases e)
      refine hto I v _ _ _ (W.cls _ _ st₃) ?_
      refine hasg D cenv s.heap (Nat.le_trans hN hsD) (by rw [hcenv]; rfl) B hapart j _ hp _ _ _ _ c₃ T₃ iv fun h₄ t₄ f₄ T₄ c₄ => ?_
      have st₄ := W.fx _ _ _ _ st₃ f₄ hIW hNI c₃.wok0
      have hys₄ := hys₃.fx f₄ c₃.wok0
      have hD₄ : h₄.PlainList D ys := let ⟨m,hm⟩ := hD₃; ⟨m,f₄.kp _ _ hDW hm (.inr (by intro e; cases e))⟩
      refine (helt D cenv s.heap (Nat.le_trans hN hsD) (by rw [hcenv]; rfl) B j _ hp).run _ _ _ c₄ T₄ fun y h₅ t₅ n₅ T₅ iy => ?_
      have st₅ := W.fx _ _ _ [] st₄ n₅.fx (by simp) hNI (by intro b hb; simp at hb)
      have hys₅ := hys₄.nx n₅
      have hD₅ := n₅.isList hD₄
      have c₅ := Cx.stb B.hL _ _ c₄ n₅
      have hysz : ys.size = j := by
        have := hys.length
        rw [List.length_take,List.length_mapIdx] at this
        simp at this; lia
      refine wpAny_list_append_plain (hsz := by rw [hysz]; exact Nat.le_of_lt (Nat.lt_of_lt_of_le hlt hz)) hD₅ fun h₆ hD₆ hs₆ => ?_
      have kp₆ : ∀ b o,b ≠ D -> h₅.get? b = some o -> h₆.get? b = some o := fun b o hb e => (hs₆.2 b hb).trans e
      have z₆ : h₅.objs.size <= h₆.objs.size := by rw [hs₆.1]; exact Nat.le_refl _
      obtain ⟨m₅,hm₅⟩ := id hD₅
      have f₆ : Fx N [D] h₅ h₆ := ⟨fun b o hb e _ => kp₆ b o (fun e' => hb (by simp [e'])) e,z₆⟩
      have wo₆ : WOk (D :: X) [D] h₅ := by
        intro b hb
        simp only [List.mem_singleton] at hb
        subst hb
        exact ⟨Heap.lt_size hm₅, .inl List.mem_cons_self⟩
      have hND : N <= D := Nat.le_trans hN hsD
      have c₆ : Cx N (D :: X) s.heap cenv (tn ++ fs) (tn.map (fun _ => none) ++ fv) h₆ := by
        refine ⟨⟨fun b o e n => kp₆ b o (Nat.ne_of_lt (Nat.lt_of_lt_of_le (Heap.lt_size e) hsD)) (c₅.base.kp b o e n),Nat.le_trans c₅.base.sz z₆⟩, ?_,fun i y' hy' => ?_⟩
        . obtain ⟨m,o',es,ep,ho',hd',r⟩ := c₅.nsx
          exact ⟨m,o',es,ep,kp₆ _ _ (by rintro e; rw [e,hm₅] at ho'; cases ho'; cases hd') ho',hd',r⟩
        . obtain ⟨u,su,hu⟩ := c₅.slot i y' hy'
          refine ⟨u, ?_,fun p' hp' => ?_⟩
          . rcases su with ⟨kk,m,⟨o',es,ep,ho',hd',r⟩,e⟩ | ⟨kk,a,ha,hNa,o',ho',hd'⟩
            . exact .inl ⟨kk,m,⟨o',es,ep,kp₆ _ _ (by rintro e'; rw [e',hm₅] at ho'; cases ho'; cases hd') ho',hd',r⟩,e⟩
            . exact .inr ⟨kk,a,ha,hNa,o',kp₆ _ _ (by rintro e'; rw [e',hm₅] at ho'; cases ho'; cases hd') ho',hd'⟩
          . by_cases hi : i < tn.length
            . exfalso
              rw [List.getElem?_append_left (by rw [List.length_map]; exact hi),List.getElem?_map] at hp'
              cases hq : tn[i]? with
              | none => rw [hq] at hp'; cases hp'
              | some z => rw [hq] at hp'; cases hp'
            . have hU' := hU j
              rw [List.getElem?_append_right (by rw [List.length_map]; exact Nat.not_lt.mp hi),List.length_map] at hp'
              obtain ⟨v',e',iv'⟩ := hu p' (by rw [List.getElem?_append_right (by rw [hU']; exact Nat.not_lt.mp hi),hU']; exact hp')
              exact ⟨v',e', .inl ((iv'.is (okF.at hfo (List.mem_of_getElem? hp'))).fx f₆ wo₆)⟩
      refine ⟨ps.length + 1 - (j + 1),by lia,j + 1,h₆,t₅,ys.push y,rfl,rfl,hlt,W.fx _ _ _ _ st₅ f₆ (by simpa using hne) hNI wo₆,hD₆, ?_,c₆, ?_⟩
      . have hlt' : j < (ps.mapIdx f).length := by rw [List.length_mapIdx]; exact hlt
        rw [List.take_add_one,List.getElem?_eq_getElem hlt',List.getElem_mapIdx,Array.toList_push]
        exact (hys₅.fx f₆ wo₆).snoc (iy.fx f₆ wo₆)
      . exact TY.upd _ _ D _ hND hm₅ (.seq rfl) kp₆ z₆ T₅
    . have hje : j = ps.length := by lia
      subst hje
      refine wp_grows (W.done _ _ _ stj fun h₃ t₃ kp₃ hz₃ => ?_)
      have c₃ := cj.but hz₃ ho hd hsI kp₃
      have T₃ : TbX Top (D :: X) h₃ := TY.upd _ _ I o hNI ho (.fields hd hoc) kp₃ hz₃ tj
      have hys₃ := hys.but kp₃ (.inr fun o' ho' => by rw [ho] at ho'; cases ho'; exact hrec)
      have hD₃ : h₃.PlainList D ys := let ⟨m,hm⟩ := hDj; ⟨m,kp₃ _ _ (Ne.symm hne) hm⟩
      have hsC : s.heap.objs.size <= CC := by lia
      have hDC : D ≠ CC := by lia
      have hns₃ := c₃.nsx
      rw [hcl] at hns₃
      rw [show (ps.mapIdx f).take ps.length = ps.mapIdx f from List.take_of_length_le (by rw [List.length_mapIdx]; exact Nat.le_refl _)] at hys₃
      refine k D CC h₃ t₃ c₃.base ⟨T₃.1,fun y hy => T₃.2 y (List.mem_cons_of_mem _ hy)⟩ (.list (vs := ys.toList) hDX ?_ (hys₃.sub fun a ha => List.mem_cons_of_mem _ ha)) hsC hsD hDC hns₃
      rw [Array.toArray_toList]; exact hD₃
  exact codeAny_compStart_list (loop _ rfl) (W.self 0 _ _ _ (W.fx 0 _ _ [] st (n₁₂.fx) (by simp) hNI (by intro b hb; simp at hb)) (loop _ rfl))
theorem comp_core (T : TbOk N [] Top) (O : BlkOk N hb env) {elt iter : Expr} {x : Str} {px pos : Pos} {scope : Scope} {ps : List PV} {f : Nat -> PV -> PV} {fs : List Str} {fv : List (Option PV)} {use : Option (Value -> Sem Unit)}
    (src : SRC w N X (TbX Top X) A env (Cx N X hb env ns vals) iter ps) (hz : ps.length <= sizeLine)
    (hkind : scope.kind = .function) (hcell : ∀ y ∈ scope.names,y.2 ≠ .cell) (hnames : ∀ y ∈ scope.names,y.2 = .local -> scope.names.lookup y.1 = some .local) (hx : scope.names.lookup x = some .local)
    (hfree : ∀ y ∈ scope.names,y.2 = .free -> y.1 ∈ fs) (F : Fs scope env ns vals fs fv) (hfo : okF fv = true) (hxn : (x :: fs).Nodup)
    (helt : ∀ (D : Addr) (cenv : Env) (hc : Heap),N <= D -> cenv.scope = relabel scope env -> BlkOk N hc cenv -> ∀ j p,ps[j]? = some p -> EV w N (TbX Top (D :: X)) A cenv (Cx N (D :: X) hc cenv (x :: fs) (some p :: fv)) elt (IsP (D :: X) (f j p)))
    (hs : ∀ x,foldedSetIterable iter env x = pure x) (s : Shared) (Q : Value -> Shared -> Prop) (E : Value -> Shared -> Prop) (c : Cx N X hb env ns vals s.heap) (t : TbX Top X s.heap)
    (k : ∀ D CC h' tk,Nx N s.heap h' -> TbX Top X h' -> Is X h' (.ref D) (.list (ps.mapIdx f)) -> s.heap.objs.size <= CC -> s.heap.objs.size <= D -> D ≠ CC -> (∃ m,h'.Ns CC m) -> compPost (MM w) A E use Q (.ref D) CC (.ok .next) { s with heap := h',toks := tk }) :
    wpAny (MM w) A (comprehension (.ListComp elt [⟨.Name x px,iter, [],0⟩] scope pos) scope env (firstIterPos [⟨.Name x px,iter, [],0⟩] pos) (newList []) (firstAsync [⟨.Name x px,iter, [],0⟩]) (firstIter [⟨.Name x px,iter, [],0⟩] env) use) Q E s := by
  refine comp_coreG (tn := [x]) (U := fun j => [ps[j]?]) T O src hz hkind (fun y hy hc => absurd hc (hcell y hy)) hnames (fun y hy => by rw [List.mem_singleton] at hy; subst hy; exact .inl hx) hfree F hfo hxn (fun j => rfl) (fun D cenv hc hD hsc B j p hp => ?_) (fun D cenv hc hD hsc B _ j p hp s v Q E c t iv k => ?_) (fun _ _ _ _ _ _ q => wpAny_pure q) hs s Q E c t k
  . have h := helt D cenv hc hD hsc B j p hp
    rw [<- hp] at h
    exact h
  . have kx : cenv.kindOf x = some .local := by rw [Env.kindOf,hsc]; exact lookup_relabel_local hx
    refine wpAny_assign_Name (store' (TbX.ok T _) B (i := 0) .hd hxn (.inl kx) c t iv fun h' tk fx t' c' => k h' tk fx t' ?_)
    show Cx _ _ _ _ _ (ps[j]? :: fv) h'
    rw [hp]
    exact c'
theorem EV.compN (T : TbOk N [] Top) (O : BlkOk N hb env) {elt iter : Expr} {x : Str} {px pos : Pos} {scope : Scope} {ps : List PV} {f : Nat -> PV -> PV} {fs : List Str} {fv : List (Option PV)}
    (src : SRC w N X (TbX Top X) A env (Cx N X hb env ns vals) iter ps) (hz : ps.length <= sizeLine)
    (hkind : scope.kind = .function) (hcell : ∀ y ∈ scope.names,y.2 ≠ .cell) (hnames : ∀ y ∈ scope.names,y.2 = .local -> scope.names.lookup y.1 = some .local) (hx : scope.names.lookup x = some .local)
    (hfree : ∀ y ∈ scope.names,y.2 = .free -> y.1 ∈ fs) (F : Fs scope env ns vals fs fv) (hfo : okF fv = true) (hxn : (x :: fs).Nodup)
    (helt : ∀ (D : Addr) (cenv : Env) (hc : Heap),N <= D -> cenv.scope = relabel scope env -> BlkOk N hc cenv -> ∀ j p,ps[j]? = some p -> EV w N (TbX Top (D :: X)) A cenv (Cx N (D :: X) hc cenv (x :: fs) (some p :: fv)) elt (IsP (D :: X) (f j p)))
    (hs : ∀ x,foldedSetIterable iter env x = pure x := by intro _; rfl) :
    EV w N (TbX Top X) A env (Cx N X hb env ns vals) (.ListComp elt [⟨.Name x px,iter, [],0⟩] scope pos) (IsP X (.list (ps.mapIdx f))) := by
  constructor
  intro s Q E c t k
  rw [eval_ListComp]
  refine comp_core (use := none) T O src hz hkind hcell hnames hx hfree F hfo hxn helt hs s Q E c t fun D CC h₃ t₃ n₃ T₃ i₃ hC hD hDC ⟨m₃,hm₃⟩ => ⟨m₃,hm₃,fun h₄ hs₄ => ?_⟩
  have kp₄ : ∀ b o,b ≠ CC -> h₃.get? b = some o -> h₄.get? b = some o := fun b o hb e => (hs₄.2 b hb).trans e
  have z₄ : h₃.objs.size <= h₄.objs.size := by rw [hs₄.1]; exact Nat.le_refl _
  refine k (.ref D) h₄ t₃ ⟨fun b o e n => kp₄ b o (Nat.ne_of_lt (Nat.lt_of_lt_of_le (Heap.lt_size e) hC)) (n₃.kp b o e n),Nat.le_trans n₃.sz z₄⟩ ?_ (i₃.but kp₄ (.inr (ns_noseq hm₃)))
  obtain ⟨o',es,ep,ho',hd',r⟩ := id hm₃
  exact (TbX.ok T X).upd _ _ CC o' (Nat.le_trans ((TbX.ok T X).size _ t) hC) ho' (.dict hd') kp₄ z₄ T₃
theorem EV.comp (T : TbOk N [] Top) (O : BlkOk N hb env) {elt iter : Expr} {x : Str} {px pos : Pos} {scope : Scope} {ps : List PV} {f : Nat -> PV -> PV} {fs : List Str} {fv : List (Option PV)}
    (src : SRC w N X (TbX Top X) A env (Cx N X hb env ns vals) iter ps) (hz : ps.length <= sizeLine)
    (hkind : scope.kind = .function) (hcell : ∀ y ∈ scope.names,y.2 ≠ .cell) (hnames : ∀ y ∈ scope.names,y.2 = .local -> scope.names.lookup y.1 = some .local) (hx : scope.names.lookup x = some .local)
    (hfree : ∀ y ∈ scope.names,y.2 = .free -> y.1 ∈ fs) (F : Fs scope env ns vals fs fv) (hfo : okF fv = true) (hxn : (x :: fs).Nodup)
    (helt : ∀ (D : Addr) (cenv : Env) (hc : Heap),cenv.scope = relabel scope env -> BlkOk N hc cenv -> ∀ j p,ps[j]? = some p -> EV w N (TbX Top (D :: X)) A cenv (Cx N (D :: X) hc cenv (x :: fs) (some p :: fv)) elt (IsP (D :: X) (f j p)))
    (hs : ∀ x,foldedSetIterable iter env x = pure x := by intro _; rfl) :
    EV w N (TbX Top X) A env (Cx N X hb env ns vals) (.ListComp elt [⟨.Name x px,iter, [],0⟩] scope pos) (IsP X (.list (ps.mapIdx f))) :=
  EV.compN T O src hz hkind hcell hnames hx hfree F hfo hxn (fun D cenv hc _ => helt D cenv hc) hs
theorem Cx.butNs {h h' : Heap} {CC : Addr} {m : Str -> Option Value} (c : Cx N X hb env ns vals h) (hm : h.Ns CC m) (hne : CC ≠ env.locals) (hI : hb.objs.size <= CC) (hs : Heap.SameBut CC h h') : Cx N X hb env ns vals h' := by
  have kp : ∀ b o,b ≠ CC -> h.get? b = some o -> h'.get? b = some o := fun b o hb e => (hs.2 b hb).trans e
  have z : h.objs.size <= h'.objs.size := by rw [hs.1]; exact Nat.le_refl _
  refine ⟨⟨fun b x e n => kp b x (Nat.ne_of_lt (Nat.lt_of_lt_of_le (Heap.lt_size e) hI)) (c.base.kp b x e n),Nat.le_trans c.base.sz z⟩,let ⟨m,hm⟩ := c.nsx; ⟨m,hm.sameBut hs hne.symm⟩,fun i y hy => ?_⟩
  obtain ⟨u,su,hu⟩ := c.slot i y hy
  refine ⟨u, ?_,fun p hp => let ⟨v,e,iv⟩ := hu p hp; ⟨v,e,iv.but kp (ns_noseq hm)⟩⟩
  rcases su with ⟨k,m2,hm2,e⟩ | ⟨k,a,ha,hN,hc⟩
  . exact .inl ⟨k,m2,hm2.sameBut hs hne.symm,e⟩
  . exact .inr ⟨k,a,ha,hN,hc.sameBut hs (ns_ne_cell hm hc)⟩
theorem evalThenUse_ListComp {elt : Expr} {gs : List Comprehension} {scope : Scope} {pos : Pos} {u : Value -> Sem Unit} :
    evalThenUse (.ListComp elt gs scope pos) env u = (do let _ <- comprehension (.ListComp elt gs scope pos) scope env (firstIterPos gs pos) (newList []) (firstAsync gs) (firstIter gs env) (some u)) := rfl
theorem SX.assignCompN (T : TbOk N [] Top) (O : EnvOk N hb env) {elt iter : Expr} {x y : Str} {px py pos pos' : Pos} {scope : Scope} {ps : List PV} {f : Nat -> PV -> PV} {fs : List Str} {fv : List (Option PV)} {i : Nat}
    (src : SRC w N X (TbX Top X) A env (Cx N X hb env ns vals) iter ps) (hz : ps.length <= sizeLine)
    (hkind : scope.kind = .function) (hcell : ∀ y ∈ scope.names,y.2 ≠ .cell) (hnames : ∀ y ∈ scope.names,y.2 = .local -> scope.names.lookup y.1 = some .local) (hx : scope.names.lookup x = some .local)
    (hfree : ∀ y ∈ scope.names,y.2 = .free -> y.1 ∈ fs) (F : Fs scope env ns vals fs fv) (hfo : okF fv = true) (hxn : (x :: fs).Nodup)
    (helt : ∀ (D : Addr) (cenv : Env) (hc : Heap),N <= D -> cenv.scope = relabel scope env -> BlkOk N hc cenv -> ∀ j p,ps[j]? = some p -> EV w N (TbX Top (D :: X)) A cenv (Cx N (D :: X) hc cenv (x :: fs) (some p :: fv)) elt (IsP (D :: X) (f j p)))
    (hy : Ix ns y i) (hn : NsOk ns) (hkx : env.kindOf y ≠ some .free)
    (hsw : swapsWith (.ListComp elt [⟨.Name x px,iter, [],0⟩] scope pos) (some (.Name y py)) pos'.line env = pure true)
    (hs : ∀ x,foldedSetIterable iter env x = pure x := by intro _; rfl) :
    SX w N (TbX Top X) A env (Wr env ns X) (Cx N X hb env ns vals) (.Assign [.Name y py] (.ListComp elt [⟨.Name x px,iter, [],0⟩] scope pos) pos') (Nxt (Cx N X hb env ns (vals.set i (some (.list (ps.mapIdx f)))))) := by
  constructor
  intro s Q E c t k
  have TX := TbX.ok T X
  rw [exec_Assign_Name_used _ _ _ _ hsw]
  refine wpAny_bind (wpAny_standAt (wpAny_bind ?_))
  rw [evalThenUse_ListComp]
  refine wpAny_bind ?_
  refine comp_core T O.toBlkOk src hz hkind hcell hnames hx hfree F hfo hxn helt hs s _ E c t fun D CC h₃ t₃ n₃ T₃ i₃ hC hD hDC ⟨m₃,hm₃⟩ => ?_
  have c₃ := Cx.stb O.hL _ _ c n₃
  refine wpAny_assign_Name (store TX O hy hn.nodup hkx c₃ T₃ i₃ fun h₄ t₄ f₄ T₄ c₄ => ?_)
  have hCW : CC ∉ Wr env ns X := fun m => Nat.lt_irrefl _ (Nat.lt_of_lt_of_le (Cx.wok TX c t CC m).1 hC)
  have hNC : N <= CC := Nat.le_trans (TX.size _ t) hC
  have hm₄ : h₄.Ns CC m₃ := by
    obtain ⟨o,es,ep,ho,r⟩ := id hm₃
    exact ⟨o,es,ep,f₄.kp _ _ hCW ho (.inl hNC),r⟩
  refine ⟨m₃,hm₄,fun h₅ hs₅ => ?_⟩
  have kp₅ : ∀ b o,b ≠ CC -> h₄.get? b = some o -> h₅.get? b = some o := fun b o hb e => (hs₅.2 b hb).trans e
  have z₅ : h₄.objs.size <= h₅.objs.size := by rw [hs₅.1]; exact Nat.le_refl _
  refine wpAny_pure (wpAny_pure (k _ h₅ t₄ ⟨fun b o hb e n => kp₅ b o (Nat.ne_of_lt (Nat.lt_of_lt_of_le (Heap.lt_size e) hC)) (f₄.kp b o hb (n₃.kp b o e n) n),Nat.le_trans n₃.sz (Nat.le_trans f₄.sz z₅)⟩ ?_ ⟨rfl,c₄.butNs hm₄ (fun e => hCW (by rw [e]; exact List.mem_cons_self)) (Nat.le_trans c.base.sz hC) hs₅⟩))
  obtain ⟨o',es,ep,ho',hd',r⟩ := id hm₄
  exact TX.upd _ _ CC o' hNC ho' (.dict hd') kp₅ z₅ T₄
theorem SX.assignComp (T : TbOk N [] Top) (O : EnvOk N hb env) {elt iter : Expr} {x y : Str} {px py pos pos' : Pos} {scope : Scope} {ps : List PV} {f : Nat -> PV -> PV} {fs : List Str} {fv : List (Option PV)} {i : Nat}
    (src : SRC w N X (TbX Top X) A env (Cx N X hb env ns vals) iter ps) (hz : ps.length <= sizeLine)
    (hkind : scope.kind = .function) (hcell : ∀ y ∈ scope.names,y.2 ≠ .cell) (hnames : ∀ y ∈ scope.names,y.2 = .local -> scope.names.lookup y.1 = some .local) (hx : scope.names.lookup x = some .local)
    (hfree : ∀ y ∈ scope.names,y.2 = .free -> y.1 ∈ fs) (F : Fs scope env ns vals fs fv) (hfo : okF fv = true) (hxn : (x :: fs).Nodup)
    (helt : ∀ (D : Addr) (cenv : Env) (hc : Heap),cenv.scope = relabel scope env -> BlkOk N hc cenv -> ∀ j p,ps[j]? = some p -> EV w N (TbX Top (D :: X)) A cenv (Cx N (D :: X) hc cenv (x :: fs) (some p :: fv)) elt (IsP (D :: X) (f j p)))
    (hy : Ix ns y i) (hn : NsOk ns) (hkx : env.kindOf y ≠ some .free)
    (hsw : swapsWith (.ListComp elt [⟨.Name x px,iter, [],0⟩] scope pos) (some (.Name y py)) pos'.line env = pure true)
    (hs : ∀ x,foldedSetIterable iter env x = pure x := by intro _; rfl) :
    SX w N (TbX Top X) A env (Wr env ns X) (Cx N X hb env ns vals) (.Assign [.Name y py] (.ListComp elt [⟨.Name x px,iter, [],0⟩] scope pos) pos') (Nxt (Cx N X hb env ns (vals.set i (some (.list (ps.mapIdx f)))))) :=
  SX.assignCompN T O src hz hkind hcell hnames hx hfree F hfo hxn (fun D cenv hc _ => helt D cenv hc) hy hn hkx hsw hs
end
end
section
set_option autoImplicit false
mutual
noncomputable def toD : PV -> PyData
  | .none => .none
  | .bool b => .bool b
  | .int i => .int i
  | .str x => .str x
  | .list xs => .list (toDs xs)
  | .tup xs => .tuple (toDs xs)
  | .raw _ => .dict []
  | .own _ _ => .dict []
noncomputable def toDs : List PV -> List PyData
  | [] => []
  | x :: xs => toD x :: toDs xs
end
theorem Is.reads {X : List Addr} {h : Heap} {v : Value} {p : PV} (x : Is X h v p) : (toD p).canLay0 = true -> ∃ as,Reads h v (toD p) as := by
  refine Is.rec (motive_1 := fun v p _ => (toD p).canLay0 = true -> ∃ as,Reads h v (toD p) as) (motive_2 := fun vs ps _ => PyData.canLayAll0 (toDs ps) = true -> ∃ as,ReadsAll h vs (toDs ps) as) ?_ ?_ ?_ ?_ ?_ ?_ ?_ ?_ ?_ x
  . exact fun _ => ⟨_,by rw [toD]; exact .none⟩
  . exact fun b _ => ⟨_,by rw [toD]; exact .bool _⟩
  . exact fun i t _ => ⟨_,by rw [toD]; exact .int _ _⟩
  . exact fun x t _ => ⟨_,by rw [toD]; exact .str _ _⟩
  . intro v c
    rw [toD,PyData.canLay0] at c; cases c
  . intro a vs xs z q b ih c
    rw [toD,PyData.canLay0] at c
    obtain ⟨as,ha⟩ := ih c
    obtain ⟨n,ho⟩ := q
    exact ⟨_,by rw [toD]; exact .list ho rfl rfl (by simpa using ha)⟩
  . intro a vs xs z q b ih c
    rw [toD,PyData.canLay0] at c
    obtain ⟨as,ha⟩ := ih c
    obtain ⟨o,ho,hc,n,hd⟩ := q
    exact ⟨_,by rw [toD]; exact .tuple ho hc hd (by simpa using ha)⟩
  . exact fun _ => ⟨_,by rw [toDs]; exact .nil⟩
  . intro v p vs ps a b i1 i2 c
    rw [toDs,PyData.canLayAll0,Bool.and_eq_true] at c
    obtain ⟨as,ha⟩ := i1 c.1
    obtain ⟨bs,hb⟩ := i2 c.2
    exact ⟨_,by rw [toDs]; exact .cons ha hb⟩
structure EqOk (p : PV) : Prop where
  lay : (toD p).canLay0 = true
  dep : (toD p).depth <= 64
mutual
theorem eqv_refl : ∀ d : PyData,d.canLay0 = true -> PyData.eqv d d = true
  | .none, _ => by simp [PyData.eqv]
  | .bool _, _ => by simp [PyData.eqv]
  | .int _, _ => by simp [PyData.eqv]
  | .str _, _ => by simp [PyData.eqv]
  | .list xs,h => by rw [PyData.canLay0] at h; rw [PyData.eqv]; exact eqvAll_refl xs h
  | .tuple xs,h => by rw [PyData.canLay0] at h; rw [PyData.eqv]; exact eqvAll_refl xs h
  | .dict _,h => by rw [PyData.canLay0] at h; cases h
theorem eqvAll_refl : ∀ ds : List PyData,PyData.canLayAll0 ds = true -> PyData.eqvAll ds ds = true
  | [], _ => by simp [PyData.eqvAll]
  | d :: ds,h => by
    rw [PyData.canLayAll0,Bool.and_eq_true] at h
    rw [PyData.eqvAll,eqv_refl d h.1,eqvAll_refl ds h.2]; rfl
end
section
variable {w : World} {N : Nat} {X : List Addr} {Tb : Heap -> Prop} {A : Around} {env : Env} {C : Heap -> Prop}
theorem CP.eqP {p q : PV} (hp : EqOk p) (hq : EqOk q) (hA : A.units + 64 < cLine) : CP w N X Tb A .Eq p q (PyData.eqv (toD p) (toD q)) := .mk fun v u s Q E i j k => by
  obtain ⟨as,ra⟩ := i.reads hp.lay
  obtain ⟨bs,rb⟩ := j.reads hq.lay
  have h2 : min (toD p).depth (toD q).depth <= (toD p).depth := Nat.min_le_left _ _
  exact SeqAt.compareEq_reads ra rb hp.lay hq.lay (by have := hp.dep; lia) (k s.toks)
theorem CP.neP {p q : PV} (hp : EqOk p) (hq : EqOk q) (hA : A.units + 64 < cLine) : CP w N X Tb A .NotEq p q (!PyData.eqv (toD p) (toD q)) := .mk fun v u s Q E i j k => by
  obtain ⟨as,ra⟩ := i.reads hp.lay
  obtain ⟨bs,rb⟩ := j.reads hq.lay
  have h2 : min (toD p).depth (toD q).depth <= (toD p).depth := Nat.min_le_left _ _
  exact SeqAt.compareNe_reads ra rb hp.lay hq.lay (by have := hp.dep; lia) (k s.toks)
theorem CP.eqSame {p q : PV} (h : p = q) (hp : EqOk p) (hA : A.units + 64 < cLine) : CP w N X Tb A .Eq p q true := by
  subst h; have := CP.eqP (w := w) (N := N) (X := X) (Tb := Tb) hp hp hA; rw [eqv_refl _ hp.lay] at this; exact this
theorem CP.neSame {p q : PV} (h : p = q) (hp : EqOk p) (hA : A.units + 64 < cLine) : CP w N X Tb A .NotEq p q false := by
  subst h; have := CP.neP (w := w) (N := N) (X := X) (Tb := Tb) hp hp hA; rw [eqv_refl _ hp.lay] at this; exact this
theorem CP.inL {p : PV} {xs : List PV} (hp : EqOk p) (hq : EqOk (.list xs)) (hA : A.units + 65 < cLine) : CP w N X Tb A .In p (.list xs) ((toDs xs).any fun y => PyData.eqv y (toD p)) := .mk fun v u s Q E i j k => by
  obtain ⟨as,ra⟩ := i.reads hp.lay
  obtain ⟨bs,rb⟩ := j.reads hq.lay
  have h2 : min (PyData.depthAll (toDs xs)) (toD p).depth <= (toD p).depth := Nat.min_le_right _ _
  have h3 := hq.lay
  rw [toD,PyData.canLay0] at h3
  rw [toD] at rb
  exact SeqAt.in_list_reads rb ra h3 hp.lay (by have := hp.dep; lia) (k s.toks)
theorem OP.cat {xs ys : List PV} (T : TbOk N X Tb) (hz : xs.length + ys.length <= sizeLine) : OP w N X Tb A .Add (.list xs) (.list ys) (.list (xs ++ ys)) := by
  intro v u
  constructor
  intro s Q E hc hT k
  obtain ⟨a,vs,rfl,hxa,⟨na,ha⟩,hL⟩ := hc.1.list_inv
  obtain ⟨b,us,rfl,hxb,⟨nb,hb⟩,hM⟩ := hc.2.list_inv
  refine PySem.concat_meets (T := "list") ⟨_,ha,rfl⟩ ⟨_,hb,rfl⟩ noFill_list_add seq_list_add F.slot_list_add F.entry_list_add (F.args_list_add_2 _ _) (list_addW a b vs.toArray us.toArray na nb none none #[] #[] (by simp [hL.length,hM.length]; exact hz)) ⟨ha,hb, ?_⟩
  refine k _ _ _ (.push _ _) (T.push hT _) (.list (vs := vs ++ us) (T.fresh hT) ⟨0, ?_⟩ ((hL.append hM).nx (.push (N := N) _ _)))
  rw [Heap.get?_push_size _ rfl]
  simp
theorem foldl_rep (vs : List Value) : ∀ (n : Nat) (acc : Array Value),List.foldl (fun x1 x2 => x1 ++ x2) acc (List.replicate n vs.toArray) = acc ++ ((List.replicate n vs).flatten).toArray
  | 0,acc => by simp
  | n + 1,acc => by
    rw [List.replicate_succ,List.foldl_cons,foldl_rep vs n]
    rw [List.replicate_succ,List.flatten_cons]
    simp
theorem IsL.rep {h : Heap} {vs : List Value} {xs : List PV} (x : IsL X h vs xs) : ∀ n : Nat,IsL X h (List.replicate n vs).flatten (List.replicate n xs).flatten
  | 0 => .nil
  | n + 1 => by rw [List.replicate_succ,List.replicate_succ,List.flatten_cons,List.flatten_cons]; exact x.append (x.rep n)
theorem OP.rep {x : PV} {n : Int} (T : TbOk N X Tb) (h0 : 0 <= n) (hn : n <= 2 ^ 24) : OP w N X Tb A .Mult (.list [x]) (.int n) (.list (List.replicate n.toNat x)) := by
  intro v u
  constructor
  intro s Q E hc hT k
  obtain ⟨l,vs,rfl,hxa,⟨kk,hl⟩,hL⟩ := hc.1.list_inv
  obtain ⟨u,rfl⟩ := hc.2.int_inv
  have h1 : vs.length = 1 := hL.length
  have hsz : vs.toArray.size * n.toNat <= 2 ^ 24 := by simp [h1]; lia
  refine wpAny_binaryOp_repeat_ref (T := "list") (U := "int") (by decide) ⟨_,hl,rfl⟩ (fun s' => typeIs_int s' n u) noFill_list_mul F.fills_int_mul F.slot_int_rmul repeat_list F.slot_int_index.lookup
    (call_meets F.slot_int_rmul (typeIs_int s n u) F.entry_int_rmul (F.args_int_rmul_2 _ _) (int___rmul___int_list n u l vs.toArray kk)
      ⟨hl,rfl,⟨_,hl,rfl⟩,call_meets F.slot_list_mul ⟨_,hl,rfl⟩ F.entry_list_mul (F.args_list_mul_2 _ _)
        (AutoListH.list___mul___list_int_3 l vs.toArray kk n u (by simp [Builtin.List.listFitsIndex]; lia) (by lia) (by simp only [Builtin.List.listTooLong,sizeLine]; simp; lia))
        ⟨hl, ?_⟩⟩)
  refine k _ _ _ (.push _ _) (T.push hT _) ?_
  have e : List.replicate n.toNat x = (List.replicate n.toNat [x]).flatten := by simp
  rw [e]
  refine .list (vs := (List.replicate n.toNat vs).flatten) (T.fresh hT) ⟨0, ?_⟩ ((hL.rep _).nx (.push (N := N) _ _))
  rw [Heap.get?_push_size _ rfl,foldl_rep]
  have : vs.toArray.isEmpty = false := by cases vs with
    | nil => simp at h1
    | cons a b => rfl
  rw [this]
  simp
noncomputable def PT (w : World) (N : Nat) (X : List Addr) (Tb : Heap -> Prop) (A : Around) (env : Env) (C : Heap -> Prop) : Option Expr -> Option Int -> Prop
  | none,none => True
  | some e,some i => EV w N Tb A env C e (IsP X (.int i))
  | _, _ => False
theorem PT.no : PT w N X Tb A env C none none := trivial
theorem PT.yes {e : Expr} {i : Int} (h : EV w N Tb A env C e (IsP X (.int i))) : PT w N X Tb A env C (some e) (some i) := h
theorem PT.run {e : Option Expr} {i : Option Int} (h : PT w N X Tb A env C e i) (s : Shared) (Q : Value -> Shared -> Prop) (E : Value -> Shared -> Prop) (hc : C s.heap) (hT : Tb s.heap)
    (k : ∀ v h' tk,Nx N s.heap h' -> Tb h' -> IsPart v i -> Q v { s with heap := h',toks := tk }) : wpAny (MM w) A (evalPart e env) Q E s := by
  cases e with
  | none => cases i with
    | none => exact wpAny_pure (k _ _ s.toks (.refl _) hT .none)
    | some i => exact h.elim
  | some e => cases i with
    | none => exact h.elim
    | some i => exact GV.run h s Q E hc hT fun v h' tk n t iv => k v h' tk n t (by obtain ⟨u,rfl⟩ := Is.int_inv iv; exact .int _ _)
noncomputable def pickP (xs : List PV) (lo hi st : Option Int) : List PV :=
  (sliceRange (sliceBounds lo hi st xs.length).1 (sliceBounds lo hi st xs.length).2.1 (sliceBounds lo hi st xs.length).2.2).filterMap (xs[·]?)
theorem IsL.pick {h : Heap} {vs : List Value} {xs : List PV} (x : IsL X h vs xs) (lo hi st : Option Int) : ∃ us : List Value,slicePick vs.toArray lo hi st = us.toArray ∧ IsL X h us (pickP xs lo hi st) := by
  refine ⟨_,rfl, ?_⟩
  have := x.places (sliceRange (sliceBounds lo hi st xs.length).1 (sliceBounds lo hi st xs.length).2.1 (sliceBounds lo hi st xs.length).2.2)
  simpa [pickP,x.length] using this
theorem EV.sliceG {value : Expr} {lower upper step : Option Expr} {p pos : Pos} {xs ys : List PV} {lo hi st : Option Int} (T : TbOk N X Tb) (hC : Stb N C) (hv : EV w N Tb A env C value (IsP X (.list xs)))
    (hl : PT w N X Tb A env C lower lo) (hu : PT w N X Tb A env C upper hi) (hst : PT w N X Tb A env C step st) (h0 : st ≠ some 0) (hz : xs.length <= sizeLine) (hpk : ∀ (h : Heap) (vs : List Value),IsL X h vs xs -> ∃ us : List Value,slicePick vs.toArray lo hi st = us.toArray ∧ IsL X h us ys)
    (ht : ∀ o r,letTemporaryGo value o r = pure () := by intro _ _; rfl) :
    EV w N Tb A env C (.Subscript value (.Slice lower upper step p) pos) (IsP X (.list ys)) := by
  constructor
  intro s Q E hc hT k
  have main : wpAny (MM w) A (eval value env) (fun o s₁ => wpAny (MM w) A (eval (.Slice lower upper step p) env) (fun i s₂ => s₂.TypeIs o "list" ∧ wpAny (MM w) A (getItem o i) Q E s₂) E s₁) E s := by
    refine hv.run s _ E hc hT fun v h₁ t₁ n₁ T₁ i₁ => ?_
    refine wpAny_Slice (hl.run _ _ E (hC _ _ hc n₁) T₁ fun vl h₂ t₂ n₂ T₂ i₂ => hu.run _ _ E (hC _ _ hc (n₁.trans n₂)) T₂ fun vu h₃ t₃ n₃ T₃ i₃ => hst.run _ _ E (hC _ _ hc ((n₁.trans n₂).trans n₃)) T₃ fun vs h₄ t₄ n₄ T₄ i₄ => ?_)
    have i' := (Is.nx (n₂.trans (n₃.trans n₄)) i₁).nx (.push (N := N) h₄ { cls := .type "slice",data := .fields #[vl,vu,vs] })
    obtain ⟨a,us,rfl,hxa,hl',hL⟩ := i'.list_inv
    refine ⟨hl'.isList.typeIs,wpAny_getItem_list_slice hl'.isList (Heap.IsSliceOf.new ..) i₂ i₃ i₄ h0 ?_ (by simp [hL.length]; exact hz)⟩
    obtain ⟨zs,e,hz'⟩ := hpk _ _ hL
    have T₅ := T.push T₄ { cls := .type "slice",data := .fields #[vl,vu,vs] }
    refine k _ _ _ ((((n₁.trans n₂).trans n₃).trans n₄).trans ((Nx.push _ _).trans (.push _ _))) (T.push T₅ _) (.list (vs := zs) (T.fresh T₅) ⟨0, ?_⟩ (hz'.nx (.push (N := N) _ _)))
    rw [Heap.get?_push_size _ rfl,e]
  cases step with
  | none => exact wpAny_Subscript_Slice (T := "list") list_getitem_lookup main ht
  | some st' => exact wpAny_Subscript_Slice_step (T := "list") list_getitem_lookup main ht
theorem EV.slice {value : Expr} {lower upper step : Option Expr} {p pos : Pos} {xs : List PV} {lo hi st : Option Int} (T : TbOk N X Tb) (hC : Stb N C) (hv : EV w N Tb A env C value (IsP X (.list xs)))
    (hl : PT w N X Tb A env C lower lo) (hu : PT w N X Tb A env C upper hi) (hst : PT w N X Tb A env C step st) (h0 : st ≠ some 0) (hz : xs.length <= sizeLine)
    (ht : ∀ o r,letTemporaryGo value o r = pure () := by intro _ _; rfl) :
    EV w N Tb A env C (.Subscript value (.Slice lower upper step p) pos) (IsP X (.list (pickP xs lo hi st))) := EV.sliceG T hC hv hl hu hst h0 hz (fun _ _ hL => hL.pick lo hi st) ht
theorem EV.sliceFrom {value lower : Expr} {p pos : Pos} {xs : List PV} {i : Int} (T : TbOk N X Tb) (hC : Stb N C) (hv : EV w N Tb A env C value (IsP X (.list xs)))
    (hl : EV w N Tb A env C lower (IsP X (.int i))) (h0 : 0 <= i) (hz : xs.length <= sizeLine) (ht : ∀ o r,letTemporaryGo value o r = pure ()) :
    EV w N Tb A env C (.Subscript value (.Slice (some lower) none none p) pos) (IsP X (.list (xs.drop i.toNat))) :=
  EV.sliceG (lo := some i) T hC hv (PT.yes hl) PT.no PT.no (by simp) hz (fun h vs hL => ⟨vs.drop i.toNat,by
    have := slicePick_from' vs.toArray i.toNat
    rw [Int.toNat_of_nonneg h0] at this
    simpa using this,hL.drop _⟩) ht
theorem EV.sliceTo {value upper : Expr} {p pos : Pos} {xs : List PV} {i : Int} (T : TbOk N X Tb) (hC : Stb N C) (hv : EV w N Tb A env C value (IsP X (.list xs)))
    (hl : EV w N Tb A env C upper (IsP X (.int i))) (h0 : 0 <= i) (hz : xs.length <= sizeLine) (ht : ∀ o r,letTemporaryGo value o r = pure ()) :
    EV w N Tb A env C (.Subscript value (.Slice none (some upper) none p) pos) (IsP X (.list (xs.take i.toNat))) :=
  EV.sliceG (hi := some i) T hC hv PT.no (PT.yes hl) PT.no (by simp) hz (fun h vs hL => ⟨vs.take i.toNat,by
    have := slicePick_upto' vs.toArray i.toNat
    rw [Int.toNat_of_nonneg h0] at this
    simpa using this,hL.take _⟩) ht
noncomputable def BC (w : World) (N : Nat) (X : List Addr) (Tb : Heap -> Prop) (A : Around) (id : String) (ps : List PV) (r : PV) : Prop := ∀ vs,GV w N Tb A (fun h => IsL X h vs ps) (call (.builtin id) vs) (IsP X r)
theorem EV.callB {x : Str} {px pos : Pos} {e : Expr} {es : List Expr} {ps : List PV} {r : PV} {id : String} (hC : Stb N C) (hk : env.scope.kind = .function) (hgl : env.globals = mainGlobals) (hbl : env.builtins = builtinsNs) (hx : env.kindOf x = some .globalImplicit)
    (G : BuiltIs Tb x (.builtin id)) (ha : EVs w N X Tb A env C pos (e :: es) ps) (F : BC w N X Tb A id ps r) (hd : (x == ("__debug__" : Str)) = false := by decide)
    (he : starEach (e :: es) env = (false,eval e env) :: starEach es env := by rfl) (hp : (backTo pos (starEach es env)).any (·.1) = false := by rfl) : EV w N Tb A env C (.Call (.Name x px) (e :: es) [] pos) (IsP X r) := by
  constructor
  intro s Q E c t k
  refine Call_ ((EV.built (N := N) (C := C) hk hgl hbl hx G hd).run s _ E c t fun v h₁ t₁ n₁ T₁ hv => ?_)
  subst hv
  refine PyProof.Rows.callWith_builtin1 ?_ he hp
  exact ha.run _ _ E (hC _ _ c n₁) T₁ fun vs h₂ t₂ n₂ T₂ i₂ => (F vs).run _ _ E i₂ T₂ fun v h₃ t₃ n₃ T₃ i₃ => k v h₃ t₃ ((n₁.trans n₂).trans n₃) T₃ i₃
theorem IsL.one {h : Heap} {vs : List Value} {p : PV} (x : IsL X h vs [p]) : ∃ v,vs = [v] ∧ Is X h v p := by
  cases x with | cons a b => cases b; exact ⟨_,rfl,a⟩
theorem IsL.two {h : Heap} {vs : List Value} {p q : PV} (x : IsL X h vs [p,q]) : ∃ v u,vs = [v,u] ∧ Is X h v p ∧ Is X h u q := by
  cases x with | cons a b => cases b with | cons b c => cases c; exact ⟨_, _,rfl,a,b⟩
theorem BC.len {xs : List PV} (hz : xs.length < 2 ^ 62) : BC w N X Tb A "len" [.list xs] (.int xs.length) := by
  refine fun vs => GV.same fun s Q E hc hT k => ?_
  obtain ⟨v,rfl,iv⟩ := hc.one
  obtain ⟨a,us,rfl,hxa,hl,hL⟩ := iv.list_inv
  have e : us.toArray.size = xs.length := by simp [hL.length]
  refine len_list hl.isList (by rw [e]; lia) ?_
  rw [e]
  exact k _ _ (.int _ _)
theorem BC.sum {ns : List Int} (T : TbOk N X Tb) (hA : A.handled = none) : BC w N X Tb A "sum" [.list (ns.map .int)] (.int ns.sum) := by
  intro vs
  constructor
  intro s Q E hc hT k
  obtain ⟨v,rfl,iv⟩ := hc.one
  obtain ⟨a,us,rfl,hxa,hl,hL⟩ := iv.list_inv
  have hi := hL.ints
  obtain ⟨zs,hzs⟩ := hi.allInts.items
  have e1 := hi.numsOf
  have hl' := hl.isList
  rw [hzs] at hl'
  refine wp_grows (sum_intListG hA hl' fun h' tk t' hk hz => ?_)
  have hs : preSum (numAt zs) zs.size = ns.sum := by
    have : numsOf us.toArray.toList = ns := e1
    rw [hzs,nums_intItems] at this
    rw [preSum_eq,List.take_of_length_le (by simp),this]
  rw [hs]
  exact k _ _ _ (.of_keep hk hz) (T.keep _ _ hk hz hT) (.int _ _)
theorem BC.max {a b : Int} (T : TbOk N X Tb) (hA : A.handled = none) : BC w N X Tb A "max" [.int a, .int b] (.int (if b > a then b else a)) := by
  intro vs
  constructor
  intro s Q E hc hT k
  obtain ⟨v,u,rfl,iv,iu⟩ := hc.two
  obtain ⟨t,rfl⟩ := iv.int_inv
  obtain ⟨t',rfl⟩ := iu.int_inv
  refine wp_grows (max_two_ints hA fun h' tk hk hz => ?_)
  refine k _ _ _ (.of_keep hk hz) (T.keep _ _ hk hz hT) ?_
  show Is X h' _ _
  split <;> exact .int _ _
theorem BC.min {a b : Int} (T : TbOk N X Tb) (hA : A.handled = none) : BC w N X Tb A "min" [.int a, .int b] (.int (if b < a then b else a)) := by
  intro vs
  constructor
  intro s Q E hc hT k
  obtain ⟨v,u,rfl,iv,iu⟩ := hc.two
  obtain ⟨t,rfl⟩ := iv.int_inv
  obtain ⟨t',rfl⟩ := iu.int_inv
  refine wp_grows (min_two_ints hA fun h' tk hk hz => ?_)
  refine k _ _ _ (.of_keep hk hz) (T.keep _ _ hk hz hT) ?_
  show Is X h' _ _
  split <;> exact .int _ _
theorem BC.divmod {a b : Int} (T : TbOk N X Tb) (hb : 0 < b) (hb2 : b < 1000000000) : BC w N X Tb A "divmod" [.int a, .int b] (.tup [.int (a.fdiv b), .int (a.fmod b)]) := by
  intro vs
  constructor
  intro s Q E hc hT k
  obtain ⟨v,u,rfl,iv,iu⟩ := hc.two
  obtain ⟨t,rfl⟩ := iv.int_inv
  obtain ⟨t',rfl⟩ := iu.int_inv
  refine divmod_int (by lia) ?_ (.inl (PyProof.noPylong_small (by lia)))
  exact k _ _ _ (.push _ _) (T.push hT _) (.tup (vs := [_, _]) (T.fresh hT) ⟨_,Heap.get?_push_size _ rfl,rfl, _,rfl⟩ (.cons (.int _ _) (.cons (.int _ _) .nil)))
theorem EV.bits {o : Expr} {ap pos : Pos} {a : Int} (h : EV w N Tb A env C o (IsP X (.int a))) (hbase : attributeBase o (Str.ofString "bit_length") env (eval o env) = eval o env := by rfl) (hline : (ap.endLine == pos.line) = true := by rfl) :
    EV w N Tb A env C (.Call (.Attribute o (Str.ofString "bit_length") ap) [] [] pos) (IsP X (.int (Builtin.Int.intBits a))) := by
  constructor
  intro s Q E hc hT k
  refine Call_method0 hbase hline (h.run s _ E hc hT fun v h₁ t₁ n₁ T₁ i₁ => ?_)
  obtain ⟨t,rfl⟩ := Is.int_inv i₁
  exact ⟨"int", "int.bit_length",F.plainAttrs_int,PyProof.Rows.slot_int_bit_length,PyProof.Rows.type_int_bit_length,typeIs_int _ a t,(fun _ e => by cases e),callWith_method0 (env := env) (call_int_bit_length (k _ _ _ n₁ T₁ (.int _ _)))⟩
theorem BV.ofInt {e : Expr} {a : Int} (h : EV w N Tb A env C e (IsP X (.int a))) (hi : isTrue e env (eval e env) = (do let v <- eval e env; standAt e.pos; holding [v] (truthy v)) := by rfl) : BV w N Tb A env C e (a != 0) := by
  constructor
  intro s Q E hc hT k
  rw [hi]
  refine wpAny_bind (h.run s _ E hc hT fun v h₁ t₁ n₁ T₁ i₁ => wpAny_bind (wpAny_standAt (wpAny_holding ?_)))
  obtain ⟨t,rfl⟩ := Is.int_inv i₁
  exact PyProof.Rows.truthy_int (k _ _ n₁ T₁)
theorem BV.ofList {e : Expr} {xs : List PV} (h : EV w N Tb A env C e (IsP X (.list xs))) (hz : xs.length < 2 ^ 62) (hi : isTrue e env (eval e env) = (do let v <- eval e env; standAt e.pos; holding [v] (truthy v)) := by rfl) : BV w N Tb A env C e (!xs.isEmpty) := by
  constructor
  intro s Q E hc hT k
  rw [hi]
  refine wpAny_bind (h.run s _ E hc hT fun v h₁ t₁ n₁ T₁ i₁ => wpAny_bind (wpAny_standAt (wpAny_holding ?_)))
  obtain ⟨a,us,rfl,hxa,hl,hL⟩ := Is.list_inv i₁
  have e1 : us.toArray.size = xs.length := by simp [hL.length]
  refine wpAny_truthy_list hl.isList (by rw [e1]; lia) ?_
  have e2 : us.toArray.isEmpty = xs.isEmpty := by
    have := hL.length
    cases us with
    | nil => cases xs with
      | nil => rfl
      | cons _ _ => simp at this
    | cons _ _ => cases xs with
      | nil => simp at this
      | cons _ _ => rfl
  rw [e2]
  exact k _ _ n₁ T₁
end
end
section
set_option autoImplicit false
noncomputable def stmtAt (i : Nat) : Stmt := (PP.main.body[i]?).getD default
noncomputable def bodyOf : Stmt -> List Stmt
  | .FunctionDef _ _ b _ _ _ _ _ _ _ => b
  | _ => []
noncomputable def scopeOf : Stmt -> Scope
  | .FunctionDef _ _ _ _ _ _ sc _ _ _ => sc
  | _ => default
noncomputable def paramsOf : Stmt -> Arguments
  | .FunctionDef _ a _ _ _ _ _ _ _ _ => a
  | _ => default
section
variable {w : World} {N : Nat} {X : List Addr} {Tb : Heap -> Prop} {A : Around} {env : Env} {C : Heap -> Prop}
noncomputable def IT (w : World) (N : Nat) (X : List Addr) (Tb : Heap -> Prop) (A : Around) (p q r : PV) : Prop :=
  ∀ v i a b,PlainIdx i -> GV w N Tb A (fun h => Is X h a p ∧ Is X h b q) (subscriptTail v i a b) (IsP X r)
theorem EV.sub {v i : Expr} {pos : Pos} {p q r : PV} (hC : Stb N C) (hv : EV w N Tb A env C v (IsP X p)) (hi : EV w N Tb A env C i (IsP X q)) (ht : IT w N X Tb A p q r) (hp : PlainIdx i := by trivial) :
    EV w N Tb A env C (.Subscript v i pos) (IsP X r) := EV.item hC hv hi fun a b => ht v i a b hp
theorem IT.list {xs : List PV} {j : Int} {r : PV} (h0 : 0 <= j) (hj : j < 2 ^ 63) (hx : xs[j.toNat]? = some r) : IT w N X Tb A (.list xs) (.int j) r := fun v i a b hp => GV.same fun s Q E hc hT k => by
  obtain ⟨ia,ib⟩ := hc
  obtain ⟨l,vs,rfl, _,hl,hL⟩ := ia.list_inv
  obtain ⟨u,rfl⟩ := ib.int_inv
  obtain ⟨y,hy,iy⟩ := hL.get' hx
  exact tail_any hl.isList.typeIs slot_list_getitem.lookup (wpAny_getItem_list hl.isList h0 hj (by simpa using hy) (k y s.toks iy)) (subscripted_plain hp _ _)
theorem IT.last {xs : List PV} {r : PV} (h : xs.length < 2 ^ 62) (hx : xs.getLast? = some r) : IT w N X Tb A (.list xs) (.int (-1)) r := fun v i a b hp => GV.same fun s Q E hc hT k => by
  obtain ⟨ia,ib⟩ := hc
  obtain ⟨l,vs,rfl, _,hl,hL⟩ := ia.list_inv
  obtain ⟨u,rfl⟩ := ib.int_inv
  have hne : xs ≠ [] := by rintro rfl; cases hx
  have hpos : 0 < xs.length := List.length_pos_iff.mpr hne
  have hx' : xs[(-1 + (xs.length : Int)).toNat]? = some r := by
    rw [List.getLast?_eq_getElem?] at hx
    rw [show (-1 + (xs.length : Int)).toNat = xs.length - 1 by lia]; exact hx
  obtain ⟨y,hy,iy⟩ := hL.get' hx'
  have hz : vs.toArray.size = xs.length := by simp [hL.length]
  exact tail_any hl.isList.typeIs slot_list_getitem.lookup (wpAny_getItem_list_neg hl.isList (by decide) (by rw [hz]; lia) (by decide) (by rw [hz]; simpa using hy) (k y s.toks iy)) (subscripted_plain hp _ _)
theorem IT.tup {xs : List PV} {j : Int} {m : Nat} {r : PV} (h0 : -(2 ^ 63) <= j) (hj : j < 2 ^ 63) (hm : seqIndex? j xs.length = some m) (hx : xs[m]? = some r) : IT w N X Tb A (.tup xs) (.int j) r := fun v i a b hp => GV.same fun s Q E hc hT k => by
  obtain ⟨ia,ib⟩ := hc
  obtain ⟨l,vs,rfl, _,hl,hL⟩ := ia.tup_inv
  obtain ⟨u,rfl⟩ := ib.int_inv
  obtain ⟨y,hy,iy⟩ := hL.get' hx
  exact item_tupleT hl h0 hj (by rw [hL.length]; exact hm) hy (k y s.toks iy) (subscripted_plain hp _ _)
theorem IT.char {x : Str} {j : Int} {c : Nat} (h0 : 0 <= j) (h1 : x.length < 2 ^ 62) (hx : x.cps[j.toNat]? = some c) : IT w N X Tb A (.str x) (.int j) (.str ⟨#[c]⟩) := fun v i a b hp => GV.same fun s Q E hc hT k => by
  obtain ⟨ia,ib⟩ := hc
  obtain ⟨t,rfl⟩ := ia.str_inv
  obtain ⟨u,rfl⟩ := ib.int_inv
  have hlt : j.toNat < x.length := (Array.getElem?_eq_some_iff.mp hx).1
  have hr : fitsSsize j = true := by unfold fitsSsize; simp; lia
  refine item_str hr (by lia) (by lia) (fun _ => k _ _ ?_) (subscripted_plain hp _ _) (fun r => by cases v <;> rfl)
  rw [item_meets (n := c) h0 hx]
  exact .str _ _
theorem EV.conv {e : Expr} {p q : PV} (h : EV w N Tb A env C e (IsP X p)) (he : p = q) : EV w N Tb A env C e (IsP X q) := he ▸ h
end
noncomputable def sg (c : Nat) (b : Int) : Nat := if b = 1 then c else 45
noncomputable def tri (x S s : Nat) (b a : Int) : Nat := if a = 1 then (if b = 1 then s else S) else (if b = 1 then x else 45)
noncomputable def bt (b : Int) : Prop := b = 0 ∨ b = 1
theorem sg_r {b : Int} (h : bt b) : (Str.ofString "-r").cps[b.toNat]? = some (sg 114 b) := by rcases h with rfl | rfl <;> rfl
theorem sg_w {b : Int} (h : bt b) : (Str.ofString "-w").cps[b.toNat]? = some (sg 119 b) := by rcases h with rfl | rfl <;> rfl
theorem tri_s {a b : Int} (h : bt b) (h' : bt a) : (Str.ofString "-xSs").cps[(b + 2 * a).toNat]? = some (tri 120 83 115 b a) := by rcases h with rfl | rfl <;> rcases h' with rfl | rfl <;> rfl
theorem tri_t {a b : Int} (h : bt b) (h' : bt a) : (Str.ofString "-xTt").cps[(b + 2 * a).toNat]? = some (tri 120 84 116 b a) := by rcases h with rfl | rfl <;> rcases h' with rfl | rfl <;> rfl
theorem bt.nn {b : Int} (h : bt b) : 0 <= b := by rcases h with rfl | rfl <;> decide
theorem bt.nn2 {a b : Int} (h : bt b) (h' : bt a) : 0 <= b + 2 * a := by rcases h with rfl | rfl <;> rcases h' with rfl | rfl <;> decide
noncomputable def rowOf (k : Nat) (b0 b1 b2 b3 b4 b5 b6 b7 b8 b9 b10 b11 : Int) : Str :=
  ⟨#[k,sg 114 b3,sg 119 b4,tri 120 83 115 b5 b0,sg 114 b6,sg 119 b7,tri 120 83 115 b8 b1,sg 114 b9,sg 119 b10,tri 120 84 116 b11 b2]⟩
end
local macro_rules | `(tactic| walk_at "m") => `(tactic| first
  | with_reducible (first | assumption | exact Ix.hd | exact EV.cint | exact EV.cstr | exact EVs.nil | exact CP.eq | exact CP.lt | exact OP.add | exact OP.sub | exact OP.and | exact OP.or | exact OP.xor | exact CP.ne | exact CP.le | exact CP.eqS)
  | exact rfl
  | exact Nat.le_of_ble_eq_true rfl
  | (with_reducible (first | apply Ix.tl | apply Cx.stb | apply EV.name | apply EV.bin | apply EV.sliceFrom | apply EV.sliceTo | apply EV.sub | apply EV.iteI | apply EV.neg | apply EV.list | apply EVs.cons | apply BV.cmp | apply IT.list | apply IT.char | refine OP.mod ?_ | refine OP.div ?_ ?_ | refine OP.strs ?_ | refine OP.cat ?_ ?_)) <;> walk_at "m"
  | decide
  | ((with_reducible refine OP.mul ?_); first | exact IntMulOk.of_left (by decide) | exact IntMulOk.of_right (by decide))
  | (first | refine sg_r ?_ | refine sg_w ?_ | refine tri_s ?_ ?_ | refine tri_t ?_ ?_ | refine bt.nn2 ?_ ?_ | refine bt.nn ?_) <;> assumption
  | trivial
  | (intro _ _; rfl))
section
set_option autoImplicit false
section
variable {w : World} {N : Nat} {X : List Addr} {Tb : Heap -> Prop} {A : Around} {env : Env} {hb : Heap}
noncomputable abbrev signsN : List Str := [Str.ofString "kind",Str.ofString "bits",Str.ofString "row",Str.ofString "k"]
theorem signs_body (T : TbOk N X Tb) (O : EnvOk N hb env) (hsc : env.scope = scopeOf (stmtAt 37)) (hA : A.handled = none) (G : BuiltIs Tb (Str.ofString "range") (.type "range"))
    (k : Nat) (b0 b1 b2 b3 b4 b5 b6 b7 b8 b9 b10 b11 : Int) (h0 : bt b0) (h1 : bt b1) (h2 : bt b2) (h3 : bt b3) (h4 : bt b4) (h5 : bt b5) (h6 : bt b6) (h7 : bt b7) (h8 : bt b8) (h9 : bt b9) (h10 : bt b10) (h11 : bt b11) :
    ST w N Tb A env (Wr env signsN X) (Cx N X hb env signsN [some (.str ⟨#[k]⟩),some (.list [.int b0, .int b1, .int b2, .int b3, .int b4, .int b5, .int b6, .int b7, .int b8, .int b9, .int b10, .int b11]),none,none]) (bodyOf (stmtAt 37))
      (Ret N X hb (.str (rowOf k b0 b1 b2 b3 b4 b5 b6 b7 b8 b9 b10 b11))) := by
  have hn : NsOk signsN := ⟨by decide,by decide,by decide⟩
  have hk := O.kind
  have hL := O.hL
  show ST w N Tb A env _ _ (_ :: _ :: _ :: []) _
  refine ST.seq (SX.assign T O (i := 2) (p := .str ⟨#[k]⟩) ?_ (by walk_at "m") hn (by rw [Env.kindOf,hsc]; decide)) ?_
  . walk_at "m"
  . refine ST.seq (SX.forS (ps := rangeP 3) T O (V := fun j => [some (.str ⟨#[k]⟩),some (.list [.int b0, .int b1, .int b2, .int b3, .int b4, .int b5, .int b6, .int b7, .int b8, .int b9, .int b10, .int b11]),some (.str (match j with
      | 0 => ⟨#[k]⟩
      | 1 => ⟨#[k,sg 114 b3,sg 119 b4,tri 120 83 115 b5 b0]⟩
      | 2 => ⟨#[k,sg 114 b3,sg 119 b4,tri 120 83 115 b5 b0,sg 114 b6,sg 119 b7,tri 120 83 115 b8 b1]⟩
      | _ => rowOf k b0 b1 b2 b3 b4 b5 b6 b7 b8 b9 b10 b11)),if j = 0 then none else some (.int ((j : Int) - 1))]) rfl (SRC.range T hA (n := 3) (i := 3) rfl (by decide) ?s O.kind O.glob O.bui ?k G ?e) (i := 3) (by walk_at "m") hn (by rw [Env.kindOf,hsc]; decide) ?b) ?r
    . walk_at "m"
    . rw [Env.kindOf,hsc]; decide
    . walk_at "m"
    . intro j p hp
      match j,hp with
      | 0,hp =>
        cases hp
        show ST w N Tb A env _ _ (_ :: _ :: []) _
        refine ST.seq (SX.assign T O (i := 2) (p := .str ⟨#[k,sg 114 b3,sg 119 b4]⟩) (EV.conv (p := ?p01) ?e01 ?c01) (by walk_at "m") hn (by rw [Env.kindOf,hsc]; decide)) ?_
        case e01 => walk_at "m"
        case c01 => rfl
        . refine ST.last (SX.assign T O (i := 2) (p := .str ⟨#[k,sg 114 b3,sg 119 b4,tri 120 83 115 b5 b0]⟩) (EV.conv (p := ?p02) ?e02 ?c02) (by walk_at "m") hn (by rw [Env.kindOf,hsc]; decide))
          case e02 => walk_at "m"
          case c02 => rfl
      | 1,hp =>
        cases hp
        show ST w N Tb A env _ _ (_ :: _ :: []) _
        refine ST.seq (SX.assign T O (i := 2) (p := .str ⟨#[k,sg 114 b3,sg 119 b4,tri 120 83 115 b5 b0,sg 114 b6,sg 119 b7]⟩) (EV.conv (p := ?p11) ?e11 ?c11) (by walk_at "m") hn (by rw [Env.kindOf,hsc]; decide)) ?_
        case e11 => walk_at "m"
        case c11 => rfl
        . refine ST.last (SX.assign T O (i := 2) (p := .str ⟨#[k,sg 114 b3,sg 119 b4,tri 120 83 115 b5 b0,sg 114 b6,sg 119 b7,tri 120 83 115 b8 b1]⟩) (EV.conv (p := ?p12) ?e12 ?c12) (by walk_at "m") hn (by rw [Env.kindOf,hsc]; decide))
          case e12 => walk_at "m"
          case c12 => rfl
      | 2,hp =>
        cases hp
        show ST w N Tb A env _ _ (_ :: _ :: []) _
        refine ST.seq (SX.assign T O (i := 2) (p := .str ⟨#[k,sg 114 b3,sg 119 b4,tri 120 83 115 b5 b0,sg 114 b6,sg 119 b7,tri 120 83 115 b8 b1,sg 114 b9,sg 119 b10]⟩) (EV.conv (p := ?p21) ?e21 ?c21) (by walk_at "m") hn (by rw [Env.kindOf,hsc]; decide)) ?_
        case e21 => walk_at "m"
        case c21 => rfl
        . refine ST.last (SX.assign T O (i := 2) (p := .str ⟨#[k,sg 114 b3,sg 119 b4,tri 120 83 115 b5 b0,sg 114 b6,sg 119 b7,tri 120 83 115 b8 b1,sg 114 b9,sg 119 b10,tri 120 84 116 b11 b2]⟩) (EV.conv (p := ?p22) ?e22 ?c22) (by walk_at "m") hn (by rw [Env.kindOf,hsc]; decide))
          case e22 => walk_at "m"
          case c22 => rfl
      | j + 3,hp => cases hp
    . exact ST.last (SX.ret (fun h c => c.base) (EV.name hk hn (i := 2) (by walk_at "m") rfl))
end
end
section
set_option autoImplicit false
noncomputable def DefOk (Tb : Heap -> Prop) (x : Str) (i : Nat) (f : Addr) : Prop :=
  GlobIs Tb x (.ref f) ∧ ∃ pm cd doc,DefAt Tb f (docDef x (paramsOf (stmtAt i)) (bodyOf (stmtAt i)) (scopeOf (stmtAt i)) pm cd doc) ∧ ∀ h,Tb h -> h.CodeRec cd x
structure GX (N : Nat) (Top : Heap -> Prop) where
  T : TbOk N [] Top
  fSigns : Addr
  fBits : Addr
  fTold : Addr
  fSigned : Addr
  fAll : Addr
  fDone : Addr
  fDrawn : Addr
  fMode : Addr
  fFmt : Addr
  fFile : Addr
  fDig : Addr
  fInt : Addr
  fDiv2 : Addr
  fPos : Addr
  fDivmod : Addr
  dSigns : DefOk Top (Str.ofString "_law_signs") 37 fSigns
  dBits : DefOk Top (Str.ofString "_law_bits") 38 fBits
  dTold : DefOk Top (Str.ofString "_law_told") 39 fTold
  dSigned : DefOk Top (Str.ofString "_law_signed") 40 fSigned
  dAll : DefOk Top (Str.ofString "_law_all") 41 fAll
  dDone : DefOk Top (Str.ofString "_law_done") 42 fDone
  dDrawn : DefOk Top (Str.ofString "_law_drawn") 43 fDrawn
  dMode : DefOk Top (Str.ofString "S_IMODE") 13 fMode
  dFmt : DefOk Top (Str.ofString "S_IFMT") 14 fFmt
  dFile : DefOk Top (Str.ofString "filemode") 35 fFile
  dDig : DefOk Top (Str.ofString "_int2digits") 4 fDig
  dInt : DefOk Top (Str.ofString "_digits2int") 5 fInt
  dDiv2 : DefOk Top (Str.ofString "_div2n1n") 2 fDiv2
  dPos : DefOk Top (Str.ofString "_divmod_pos") 6 fPos
  dDivmod : DefOk Top (Str.ofString "int_divmod") 7 fDivmod
  bRange : BuiltIs Top (Str.ofString "range") (.type "range")
  bLen : BuiltIs Top (Str.ofString "len") (.builtin "len")
  bSum : BuiltIs Top (Str.ofString "sum") (.builtin "sum")
  bMax : BuiltIs Top (Str.ofString "max") (.builtin "max")
  bMin : BuiltIs Top (Str.ofString "min") (.builtin "min")
  bDivmod : BuiltIs Top (Str.ofString "divmod") (.builtin "divmod")
theorem GlobIs.x {Top : Heap -> Prop} {x : Str} {v : Value} (h : GlobIs Top x v) (X : List Addr) : GlobIs (TbX Top X) x v := fun g t => h g t.1
theorem BuiltIs.x {Top : Heap -> Prop} {x : Str} {v : Value} (h : BuiltIs Top x v) (X : List Addr) : BuiltIs (TbX Top X) x v := fun g t => h g t.1
theorem DefAt.x {Top : Heap -> Prop} {f : Addr} {fd : FuncData} (h : DefAt Top f fd) (X : List Addr) : DefAt (TbX Top X) f fd := let ⟨o,a,b⟩ := h; ⟨o,a,fun g t => b g t.1⟩
section
variable {w : World} {N : Nat} {X : List Addr} {Top : Heap -> Prop} {A : Around} {env : Env} {hb : Heap} {C : Heap -> Prop}
theorem FN.def (T : TbOk N [] Top) {x : Str} {i : Nat} {f : Addr} {d : Nat} {prm loc : List Str} {ps : List PV} {r : PV} (D : DefOk Top x i f) (hlen : prm.length = ps.length)
    (hbind : ∀ pm cd doc (vs : List Value),vs.length = prm.length -> bindArgs (docDef x (paramsOf (stmtAt i)) (bodyOf (stmtAt i)) (scopeOf (stmtAt i)) pm cd doc) ⟨vs, []⟩ = pure (prm.zip vs)) (hn : (prm ++ loc).Nodup)
    (hkind : ∀ x ∈ prm ++ loc,(scopeOf (stmtAt i)).names.lookup x = some .local ∨ (scopeOf (stmtAt i)).names.lookup x = some .cell)
    (hbd : ∀ A env hb,AOk A d -> EnvOk N hb env -> env.scope = scopeOf (stmtAt i) -> ST w N (TbX Top X) A env (Wr env (prm ++ loc) X) (Cx N X hb env (prm ++ loc) (ps.map some ++ loc.map fun _ => none)) (bodyOf (stmtAt i)) (Ret N X hb r))
    (hco : (scopeOf (stmtAt i)).isCoroutine = false := by rfl) (hgen : (scopeOf (stmtAt i)).isGenerator = false := by rfl) (hk : (scopeOf (stmtAt i)).kind = .function := by rfl) : FN w N X (TbX Top X) f (d + 1) ps r := by
  obtain ⟨_,pm,cd,doc,hD,hcd⟩ := D
  refine FN.mk (TbX.ok T X) (hD.x X) (fun h t => hcd h t.1) rfl rfl rfl rfl hlen (hbind pm cd doc) hn hkind (fun A env hb hA O hs _ _ => ⟨fun s Q E c t k => ?_⟩) hco hgen hk
  exact (hbd A env hb hA O hs).run s Q E c t fun f h' tk fx t' ⟨v,e,iv,nx⟩ => k f h' tk fx t' ⟨v,by rw [e],iv,nx⟩
theorem EV.callD {x : Str} {i : Nat} {px pos : Pos} {e : Expr} {es : List Expr} {ps : List PV} {r : PV} {f : Addr} {d : Nat} (hC : Stb N C) (hk : env.scope.kind = .function) (hgl : env.globals = mainGlobals) (hx : env.kindOf x = some .globalImplicit)
    (D : DefOk Top x i f) (ha : EVs w N X (TbX Top X) A env C pos (e :: es) ps) (F : FN w N X (TbX Top X) f d ps r) (hA : AOk A d) (hd : (x == ("__debug__" : Str)) = false := by decide)
    (he : starEach (e :: es) env = (false,eval e env) :: starEach es env := by rfl) : EV w N (TbX Top X) A env C (.Call (.Name x px) (e :: es) [] pos) (IsP X r) := by
  obtain ⟨hg,pm,cd,doc,hD,hcd⟩ := D
  exact EV.call hC hk hgl hx (hg.x X) (hD.x X) ha F hA hd he
theorem signs_fn (g : GX N Top) (k : Nat) {b0 b1 b2 b3 b4 b5 b6 b7 b8 b9 b10 b11 : Int} (h0 : bt b0) (h1 : bt b1) (h2 : bt b2) (h3 : bt b3) (h4 : bt b4) (h5 : bt b5) (h6 : bt b6) (h7 : bt b7) (h8 : bt b8) (h9 : bt b9) (h10 : bt b10) (h11 : bt b11) :
    FN w N X (TbX Top X) g.fSigns 1 [.str ⟨#[k]⟩, .list [.int b0, .int b1, .int b2, .int b3, .int b4, .int b5, .int b6, .int b7, .int b8, .int b9, .int b10, .int b11]] (.str (rowOf k b0 b1 b2 b3 b4 b5 b6 b7 b8 b9 b10 b11)) :=
  FN.def (d := 0) (prm := [Str.ofString "kind",Str.ofString "bits"]) (loc := [Str.ofString "row",Str.ofString "k"]) g.T g.dSigns rfl (fun pm cd doc vs h => by obtain ⟨a,b,rfl⟩ := of2 h; with_unfolding_all rfl) (by decide) (by decide)
    fun A env hb hA O hs => signs_body (TbX.ok g.T X) O hs hA.hd (g.bRange.x X) k b0 b1 b2 b3 b4 b5 b6 b7 b8 b9 b10 b11 h0 h1 h2 h3 h4 h5 h6 h7 h8 h9 h10 h11
theorem rangeP_get {n j : Nat} {p : PV} (h : (rangeP n)[j]? = some p) : j < n ∧ p = .int (j : Int) := by
  have hj : j < n := by
    have := (List.getElem?_eq_some_iff.mp h).1
    simpa [rangeP] using this
  exact ⟨hj,by simpa [rangeP,hj] using h.symm⟩
noncomputable def kd (r : Int) : Nat := if r = 0 then 45 else if r = 1 then 100 else if r = 2 then 108 else 99
theorem kd_at {r : Int} (h0 : 0 <= r) (h1 : r < 4) : (Str.ofString "-dlc").cps[r.toNat]? = some (kd r) := by
  have : r = 0 ∨ r = 1 ∨ r = 2 ∨ r = 3 := by lia
  rcases this with rfl | rfl | rfl | rfl <;> rfl
noncomputable def bitOf (x : Int) (j : Nat) : Int := ((x.fdiv 4).fdiv (2 ^ (11 - (j : Int)).toNat)).fmod 2
theorem bitOf_bt (x : Int) (j : Nat) : bt (bitOf x j) := by
  unfold bitOf bt
  generalize (x.fdiv 4).fdiv (2 ^ (11 - (j : Int)).toNat) = y
  have h1 := Int.fmod_nonneg_of_pos y (show (0:Int) < 2 by decide)
  have h2 := Int.fmod_lt_of_pos y (show (0:Int) < 2 by decide)
  lia
noncomputable def drawn (x : Int) : Str := rowOf (kd (x.fmod 4)) (bitOf x 0) (bitOf x 1) (bitOf x 2) (bitOf x 3) (bitOf x 4) (bitOf x 5) (bitOf x 6) (bitOf x 7) (bitOf x 8) (bitOf x 9) (bitOf x 10) (bitOf x 11)
theorem pow_small {j : Nat} (hj : j < 12) : (0 : Int) < 2 ^ (11 - (j : Int)).toNat ∧ (2 : Int) ^ (11 - (j : Int)).toNat < 1000000000 :=
  (by decide +kernel : ∀ j : Nat,j < 12 -> (0 : Int) < 2 ^ (11 - (j : Int)).toNat ∧ (2 : Int) ^ (11 - (j : Int)).toNat < 1000000000) j hj
noncomputable abbrev drawnN : List Str := [Str.ofString "x"]
end
section
variable {w : World} {N : Nat} {X : List Addr} {Top : Heap -> Prop} {A : Around} {env : Env} {hb : Heap} {C : Heap -> Prop}
theorem drawn_fn (g : GX N Top) (x : Int) : FN w N X (TbX Top X) g.fDrawn 2 [.int x] (.str (drawn x)) := by
  refine FN.def (d := 1) (prm := [Str.ofString "x"]) (loc := []) g.T g.dDrawn rfl (fun pm cd doc vs h => by obtain ⟨a,rfl⟩ := of1 h; with_unfolding_all rfl) (by decide) (by decide) fun A env hb hA O hs => ?_
  have T := TbX.ok g.T X
  have hn : NsOk drawnN := ⟨by decide,by decide,by decide⟩
  have hk := O.kind
  have hL := O.hL
  show ST w N (TbX Top X) A env (Wr env drawnN X) (Cx N X hb env drawnN [some (.int x)]) (_ :: []) _
  refine ST.last (SX.ret (fun h c => c.base) ?_)
  have h4 := Int.fmod_nonneg_of_pos x (show (0:Int) < 4 by decide)
  have h5 := Int.fmod_lt_of_pos x (show (0:Int) < 4 by decide)
  refine EV.callD ?s O.kind O.glob ?kx g.dSigns (EVs.cons (p := .str ⟨#[kd (x.fmod 4)]⟩) ?s2 ?a1 (EVs.cons (p := .list ((rangeP 12).mapIdx fun j _ => .int (bitOf x j))) ?s3 ?a2 EVs.nil rfl) rfl) (signs_fn g (kd (x.fmod 4)) (bitOf_bt x 0) (bitOf_bt x 1) (bitOf_bt x 2) (bitOf_bt x 3) (bitOf_bt x 4) (bitOf_bt x 5) (bitOf_bt x 6) (bitOf_bt x 7) (bitOf_bt x 8) (bitOf_bt x 9) (bitOf_bt x 10) (bitOf_bt x 11)) (hA.less (by decide))
  case s => walk_at "m"
  case s2 => walk_at "m"
  case s3 => walk_at "m"
  case kx => rw [Env.kindOf,hs]; decide
  case a1 =>
    refine EV.sub (p := .str (Str.ofString "-dlc")) (q := .int (x.fmod 4)) ?t1 ?t2 ?t3 (IT.char h4 (by decide) (kd_at h4 h5)) trivial
    case t1 => walk_at "m"
    case t2 => walk_at "m"
    case t3 => walk_at "m"
  case a2 =>
    refine EV.comp (fs := [Str.ofString "x"]) (fv := [some (.int x)]) g.T O.toBlkOk (SRC.range T hA.hd (n := 12) (i := 12) rfl (by decide) ?u1 O.kind O.glob O.bui ?u2 (g.bRange.x X) EV.cint) (by decide) rfl (by decide) (by decide) (by decide) (by decide) (.cons (i := 0) Ix.hd rfl (by decide) ?u3 .nil) rfl (by decide) ?u4
    case u1 => walk_at "m"
    case u2 => rw [Env.kindOf,hs]; decide
    case u3 => rw [Env.kindOf,hs]; decide
    case u4 =>
      intro D cenv hc hsc B j p hp
      obtain ⟨hj,rfl⟩ := rangeP_get hp
      have hk' := B.kind
      have hL' := B.hL
      have hn' : NsOk [Str.ofString "k",Str.ofString "x"] := ⟨by decide,by decide,by decide⟩
      obtain ⟨p1,p2⟩ := pow_small hj
      refine EV.bin ?v1 (EV.bin ?v2 (EV.bin ?v3 ?v4 EV.cint (OP.div (by decide) (by decide))) (EV.bin ?v5 EV.cint (EV.bin ?v6 EV.cint ?v7 OP.sub) (OP.pow ?v8 ?v9 (by decide))) (OP.div p1 p2)) EV.cint (OP.mod (by decide))
      case v1 => walk_at "m"
      case v2 => walk_at "m"
      case v3 => walk_at "m"
      case v5 => walk_at "m"
      case v6 => walk_at "m"
      case v4 => walk_at "m"
      case v7 => walk_at "m"
      case v8 => lia
      case v9 => lia
end
end
section
set_option autoImplicit false
theorem tri_in {x S s : Nat} {b a : Int} (hx : x < 0x110000) (hS : S < 0x110000) (hs : s < 0x110000) : tri x S s b a < 0x110000 := by
  unfold tri; split <;> split <;> first | assumption | decide
theorem EqOk.ch {c : Nat} (h : c < 0x110000) : EqOk (.str ⟨#[c]⟩) := ⟨by
  rw [toD,PyData.canLay0]; unfold PyData.strOk; simp; exact h,by rw [toD]; simp [PyData.depth]⟩
section
variable {w : World} {N : Nat} {X : List Addr} {Top : Heap -> Prop} {A : Around} {env : Env} {hb : Heap} {C : Heap -> Prop}
theorem above_s {b a : Int} (h : bt b) (h' : bt a) : (if (toDs [.str (Str.ofString "s"), .str (Str.ofString "S"), .str (Str.ofString "t"), .str (Str.ofString "T")]).any (fun y => PyData.eqv y (toD (.str ⟨#[tri 120 83 115 b a]⟩))) then (1 : Int) else 0) = a := by
  rcases h with rfl | rfl <;> rcases h' with rfl | rfl <;> decide
theorem above_t {b a : Int} (h : bt b) (h' : bt a) : (if (toDs [.str (Str.ofString "s"), .str (Str.ofString "S"), .str (Str.ofString "t"), .str (Str.ofString "T")]).any (fun y => PyData.eqv y (toD (.str ⟨#[tri 120 84 116 b a]⟩))) then (1 : Int) else 0) = a := by
  rcases h with rfl | rfl <;> rcases h' with rfl | rfl <;> decide
theorem run_s {b a : Int} (h : bt b) (h' : bt a) : (if (toDs [.str (Str.ofString "x"), .str (Str.ofString "s"), .str (Str.ofString "t")]).any (fun y => PyData.eqv y (toD (.str ⟨#[tri 120 83 115 b a]⟩))) then (1 : Int) else 0) = b := by
  rcases h with rfl | rfl <;> rcases h' with rfl | rfl <;> decide
theorem run_t {b a : Int} (h : bt b) (h' : bt a) : (if (toDs [.str (Str.ofString "x"), .str (Str.ofString "s"), .str (Str.ofString "t")]).any (fun y => PyData.eqv y (toD (.str ⟨#[tri 120 84 116 b a]⟩))) then (1 : Int) else 0) = b := by
  rcases h with rfl | rfl <;> rcases h' with rfl | rfl <;> decide
theorem swaps_is {elt : Expr} {gs : List Comprehension} {sc : Scope} {p pos : Pos} {t : Str} {line : Nat} {c : Bool}
    (h : (env.blockKind == .function && env.kindOf t == some .local && pos.line == (Expr.ListComp elt gs sc p).pos.line && !(sc.names.any fun (n,k) => n == t && (k == .local || k == .cell))) = c) :
    swapsWith (.ListComp elt gs sc p) (some (.Name t pos)) line env = pure c := by rw [<- h]; rfl
theorem eq_r {b : Int} (h : bt b) : (if ((⟨#[sg 114 b]⟩ : Str).cps.toList == (Str.ofString "r").cps.toList) then (1 : Int) else 0) = b := by rcases h with rfl | rfl <;> decide
theorem eq_w {b : Int} (h : bt b) : (if ((⟨#[sg 119 b]⟩ : Str).cps.toList == (Str.ofString "w").cps.toList) then (1 : Int) else 0) = b := by rcases h with rfl | rfl <;> decide
theorem EV.oneIn {t l : Expr} {pos pos' : Pos} {k1 k2 : Nat} {p1 p2 : Pos} {c : Nat} {xs : List PV} {r : Int} {hC : Stb N C} (hA : A.units + 65 < cLine) (hc : c < 0x110000) (hx : EqOk (.list xs)) {Tb : Heap -> Prop}
    (ht : EV w N Tb A env C t (IsP X (.str ⟨#[c]⟩))) (hl : EV w N Tb A env C l (IsP X (.list xs))) (he : (if (toDs xs).any (fun y => PyData.eqv y (toD (.str ⟨#[c]⟩))) then (1 : Int) else 0) = r)
    (hm : behindInMarks .In l = false := by with_unfolding_all rfl) :
    EV w N Tb A env C (.IfExp (.Compare t [.In] [l] pos) (.Constant (.int 1) k1 p1) (.Constant (.int 0) k2 p2) pos') (IsP X (.int r)) := by
  subst he
  exact EV.iteI hC (BV.cmp hC ht hl (CP.inL (EqOk.ch hc) hx hA) hm) EV.cint EV.cint
theorem EV.oneEq {t : Expr} {pos pos' : Pos} {k1 k2 k3 : Nat} {p1 p2 p3 : Pos} {c : Nat} {y : Str} {r : Int} {hC : Stb N C} {Tb : Heap -> Prop}
    (ht : EV w N Tb A env C t (IsP X (.str ⟨#[c]⟩))) (he : (if ((⟨#[c]⟩ : Str).cps.toList == y.cps.toList) then (1 : Int) else 0) = r) :
    EV w N Tb A env C (.IfExp (.Compare t [.Eq] [.Constant (.str y) k3 p3] pos) (.Constant (.int 1) k1 p1) (.Constant (.int 0) k2 p2) pos') (IsP X (.int r)) := by
  subst he
  exact EV.iteI hC (BV.cmp hC ht EV.cstr CP.eqS) EV.cint EV.cint
noncomputable abbrev bitsN : List Str := [Str.ofString "row",Str.ofString "above",Str.ofString "run",Str.ofString "rest"]
theorem bits_fn (g : GX N Top) (k : Nat) {b0 b1 b2 b3 b4 b5 b6 b7 b8 b9 b10 b11 : Int} (h0 : bt b0) (h1 : bt b1) (h2 : bt b2) (h3 : bt b3) (h4 : bt b4) (h5 : bt b5) (h6 : bt b6) (h7 : bt b7) (h8 : bt b8) (h9 : bt b9) (h10 : bt b10) (h11 : bt b11) :
    FN w N X (TbX Top X) g.fBits 2 [.str (rowOf k b0 b1 b2 b3 b4 b5 b6 b7 b8 b9 b10 b11)] (.list [.int b0, .int b1, .int b2, .int b3, .int b4, .int b5, .int b6, .int b7, .int b8, .int b9, .int b10, .int b11]) := by
  refine FN.def (d := 1) (prm := [Str.ofString "row"]) (loc := [Str.ofString "above",Str.ofString "run",Str.ofString "rest"]) g.T g.dBits rfl (fun pm cd doc vs h => by obtain ⟨a,rfl⟩ := of1 h; with_unfolding_all rfl) (by decide) (by decide) fun A env hb hA O hs => ?_
  have T := TbX.ok g.T X
  have hn : NsOk bitsN := ⟨by decide,by decide,by decide⟩
  have hk := O.kind
  have hL := O.hL
  have hU : A.units + 65 < cLine := by have := hA.un; show A.units + 65 < 9900; lia
  generalize hrow : rowOf k b0 b1 b2 b3 b4 b5 b6 b7 b8 b9 b10 b11 = row
  have e4 : EqOk (.list [.str (Str.ofString "s"), .str (Str.ofString "S"), .str (Str.ofString "t"), .str (Str.ofString "T")]) := ⟨by decide +kernel,by decide +kernel⟩
  have e3 : EqOk (.list [.str (Str.ofString "x"), .str (Str.ofString "s"), .str (Str.ofString "t")]) := ⟨by decide +kernel,by decide +kernel⟩
  have hlen : row.length < 2 ^ 62 := by rw [<- hrow]; exact Nat.le_of_ble_eq_true rfl
  show ST w N (TbX Top X) A env (Wr env bitsN X) (Cx N X hb env bitsN [some (.str row),none,none,none]) (_ :: _ :: _ :: _ :: []) _
  refine ST.seq (SX.assignComp (ps := [.int 3, .int 6, .int 9]) (f := fun j _ => match j with | 0 => .int b0 | 1 => .int b1 | _ => .int b2) (fs := [Str.ofString "row"]) (fv := [some (.str row)]) (i := 1) g.T O (SRC.list T hA.hd ?a1) (by decide) rfl (by decide) (by decide) (by decide) (by decide) (.cons (i := 0) Ix.hd rfl (by decide) ?a2 .nil) rfl (by decide) ?a3 (by walk_at "m") hn ?a4 (swaps_is ?a5)) ?nxt
  case a1 => walk_at "m"
  case a2 => rw [Env.kindOf,hs]; decide
  case a4 => rw [Env.kindOf,hs]; decide
  case a5 => rw [Env.blockKind,Env.kindOf,hs]; decide
  case a3 =>
    intro D cenv hc hsc B j p hp
    have hk' := B.kind
    have hL' := B.hL
    have hn' : NsOk [Str.ofString "k",Str.ofString "row"] := ⟨by decide,by decide,by decide⟩
    have TD := TbX.ok g.T (D :: X)
    match j,hp with
    | 0,hp =>
      cases hp
      refine EV.oneIn (c := tri 120 83 115 b5 b0) (hC := ?c00) hU (tri_in (by decide) (by decide) (by decide)) e4 (EV.sub ?c01 ?c02 ?c03 (IT.char (j := 3) (by decide) hlen (by rw [<- hrow]; rfl)) trivial) ?c04 (above_s h5 h0)
      case c00 => walk_at "m"
      case c01 => walk_at "m"
      case c02 => walk_at "m"
      case c03 => walk_at "m"
      case c04 => walk_at "m"
    | 1,hp =>
      cases hp
      refine EV.oneIn (c := tri 120 83 115 b8 b1) (hC := ?c10) hU (tri_in (by decide) (by decide) (by decide)) e4 (EV.sub ?c11 ?c12 ?c13 (IT.char (j := 6) (by decide) hlen (by rw [<- hrow]; rfl)) trivial) ?c14 (above_s h8 h1)
      case c10 => walk_at "m"
      case c11 => walk_at "m"
      case c12 => walk_at "m"
      case c13 => walk_at "m"
      case c14 => walk_at "m"
    | 2,hp =>
      cases hp
      refine EV.oneIn (c := tri 120 84 116 b11 b2) (hC := ?c20) hU (tri_in (by decide) (by decide) (by decide)) e4 (EV.sub ?c21 ?c22 ?c23 (IT.char (j := 9) (by decide) hlen (by rw [<- hrow]; rfl)) trivial) ?c24 (above_t h11 h2)
      case c20 => walk_at "m"
      case c21 => walk_at "m"
      case c22 => walk_at "m"
      case c23 => walk_at "m"
      case c24 => walk_at "m"
    | j + 3,hp => cases hp
  show ST w N (TbX Top X) A env (Wr env bitsN X) (Cx N X hb env bitsN [some (.str row),some (.list [.int b0, .int b1, .int b2]),none,none]) (_ :: _ :: _ :: []) _
  refine ST.seq (SX.assign (i := 2) (p := .list [.int b5, .int b8, .int b11]) T O (EV.comp (ps := [.int 3, .int 6, .int 9]) (f := fun j _ => match j with | 0 => .int b5 | 1 => .int b8 | _ => .int b11) (fs := [Str.ofString "row"]) (fv := [some (.str row)]) g.T O.toBlkOk (SRC.list T hA.hd ?b1) (by decide) rfl (by decide) (by decide) (by decide) (by decide) (.cons (i := 0) Ix.hd rfl (by decide) ?b2 .nil) rfl (by decide) ?b3) (by walk_at "m") hn ?b4 (swaps_is ?b5)) ?nxt2
  case b1 => walk_at "m"
  case b2 => rw [Env.kindOf,hs]; decide
  case b4 => rw [Env.kindOf,hs]; decide
  case b5 => rw [Env.blockKind,Env.kindOf,hs]; decide
  case b3 =>
    intro D cenv hc hsc B j p hp
    have hk' := B.kind
    have hL' := B.hL
    have hn' : NsOk [Str.ofString "k",Str.ofString "row"] := ⟨by decide,by decide,by decide⟩
    have TD := TbX.ok g.T (D :: X)
    match j,hp with
    | 0,hp =>
      cases hp
      refine EV.oneIn (c := tri 120 83 115 b5 b0) (hC := ?d00) hU (tri_in (by decide) (by decide) (by decide)) e3 (EV.sub ?d01 ?d02 ?d03 (IT.char (j := 3) (by decide) hlen (by rw [<- hrow]; rfl)) trivial) ?d04 (run_s h5 h0)
      case d00 => walk_at "m"
      case d01 => walk_at "m"
      case d02 => walk_at "m"
      case d03 => walk_at "m"
      case d04 => walk_at "m"
    | 1,hp =>
      cases hp
      refine EV.oneIn (c := tri 120 83 115 b8 b1) (hC := ?d10) hU (tri_in (by decide) (by decide) (by decide)) e3 (EV.sub ?d11 ?d12 ?d13 (IT.char (j := 6) (by decide) hlen (by rw [<- hrow]; rfl)) trivial) ?d14 (run_s h8 h1)
      case d10 => walk_at "m"
      case d11 => walk_at "m"
      case d12 => walk_at "m"
      case d13 => walk_at "m"
      case d14 => walk_at "m"
    | 2,hp =>
      cases hp
      refine EV.oneIn (c := tri 120 84 116 b11 b2) (hC := ?d20) hU (tri_in (by decide) (by decide) (by decide)) e3 (EV.sub ?d21 ?d22 ?d23 (IT.char (j := 9) (by decide) hlen (by rw [<- hrow]; rfl)) trivial) ?d24 (run_t h11 h2)
      case d20 => walk_at "m"
      case d21 => walk_at "m"
      case d22 => walk_at "m"
      case d23 => walk_at "m"
      case d24 => walk_at "m"
    | j + 3,hp => cases hp
  show ST w N (TbX Top X) A env (Wr env bitsN X) (Cx N X hb env bitsN [some (.str row),some (.list [.int b0, .int b1, .int b2]),some (.list [.int b5, .int b8, .int b11]),none]) (_ :: _ :: []) _
  refine ST.seq (SX.assignComp (ps := rangeP 3) (f := fun j _ => match j with | 0 => .list [.int b3, .int b4, .int b5] | 1 => .list [.int b6, .int b7, .int b8] | _ => .list [.int b9, .int b10, .int b11]) (fs := [Str.ofString "row",Str.ofString "run"]) (fv := [some (.str row),some (.list [.int b5, .int b8, .int b11])]) (i := 3) g.T O (SRC.range T hA.hd (n := 3) (i := 3) rfl (by decide) ?r1 O.kind O.glob O.bui ?r2 (g.bRange.x X) EV.cint) (by decide) rfl (by decide) (by decide) (by decide) (by decide) (.cons (i := 0) Ix.hd rfl (by decide) ?r3 (.cons (i := 2) (by walk_at "m") rfl (by decide) ?r4 .nil)) rfl (by decide) ?r5 (by walk_at "m") hn ?r6 (swaps_is ?r7)) ?nxt3
  case r1 => walk_at "m"
  case r2 => rw [Env.kindOf,hs]; decide
  case r3 => rw [Env.kindOf,hs]; decide
  case r4 => rw [Env.kindOf,hs]; decide
  case r6 => rw [Env.kindOf,hs]; decide
  case r7 => rw [Env.blockKind,Env.kindOf,hs]; decide
  case r5 =>
    intro D cenv hc hsc B j p hp
    have hk' := B.kind
    have hL' := B.hL
    have hn' : NsOk [Str.ofString "k",Str.ofString "row",Str.ofString "run"] := ⟨by decide,by decide,by decide⟩
    have TD := TbX.ok g.T (D :: X)
    match j,hp with
    | 0,hp =>
      cases hp
      refine EV.list (ps := [.int b3, .int b4, .int b5]) TD (EVs.cons ?q00 (EV.oneEq (c := sg 114 b3) (hC := ?q01) (EV.sub ?q02 ?q03 (q := .int 1) (EV.conv (p := ?q04p) ?q04 ?q04c) (IT.char (j := 1) (by decide) hlen (by rw [<- hrow]; rfl)) trivial) (eq_r h3)) (EVs.cons ?q05 (EV.oneEq (c := sg 119 b4) (hC := ?q06) (EV.sub ?q07 ?q08 (q := .int 2) (EV.conv (p := ?q09p) ?q09 ?q09c) (IT.char (j := 2) (by decide) hlen (by rw [<- hrow]; rfl)) trivial) (eq_w h4)) (EVs.cons ?q0a ?q0b EVs.nil rfl) rfl) rfl) (by walk_at "m")
      all_goals try ((with_reducible apply Cx.stb); assumption)
      case q03 => walk_at "m"
      case q04 => walk_at "m"
      case q04c => rfl
      case q08 => walk_at "m"
      case q09 => walk_at "m"
      case q09c => rfl
      case q0b => walk_at "m"
    | 1,hp =>
      cases hp
      refine EV.list (ps := [.int b6, .int b7, .int b8]) TD (EVs.cons ?q10 (EV.oneEq (c := sg 114 b6) (hC := ?q11) (EV.sub ?q12 ?q13 (q := .int 4) (EV.conv (p := ?q14p) ?q14 ?q14c) (IT.char (j := 4) (by decide) hlen (by rw [<- hrow]; rfl)) trivial) (eq_r h6)) (EVs.cons ?q15 (EV.oneEq (c := sg 119 b7) (hC := ?q16) (EV.sub ?q17 ?q18 (q := .int 5) (EV.conv (p := ?q19p) ?q19 ?q19c) (IT.char (j := 5) (by decide) hlen (by rw [<- hrow]; rfl)) trivial) (eq_w h7)) (EVs.cons ?q1a ?q1b EVs.nil rfl) rfl) rfl) (by walk_at "m")
      all_goals try ((with_reducible apply Cx.stb); assumption)
      case q13 => walk_at "m"
      case q14 => walk_at "m"
      case q14c => rfl
      case q18 => walk_at "m"
      case q19 => walk_at "m"
      case q19c => rfl
      case q1b => walk_at "m"
    | 2,hp =>
      cases hp
      refine EV.list (ps := [.int b9, .int b10, .int b11]) TD (EVs.cons ?q20 (EV.oneEq (c := sg 114 b9) (hC := ?q21) (EV.sub ?q22 ?q23 (q := .int 7) (EV.conv (p := ?q24p) ?q24 ?q24c) (IT.char (j := 7) (by decide) hlen (by rw [<- hrow]; rfl)) trivial) (eq_r h9)) (EVs.cons ?q25 (EV.oneEq (c := sg 119 b10) (hC := ?q26) (EV.sub ?q27 ?q28 (q := .int 8) (EV.conv (p := ?q29p) ?q29 ?q29c) (IT.char (j := 8) (by decide) hlen (by rw [<- hrow]; rfl)) trivial) (eq_w h10)) (EVs.cons ?q2a ?q2b EVs.nil rfl) rfl) rfl) (by walk_at "m")
      all_goals try ((with_reducible apply Cx.stb); assumption)
      case q23 => walk_at "m"
      case q24 => walk_at "m"
      case q24c => rfl
      case q28 => walk_at "m"
      case q29 => walk_at "m"
      case q29c => rfl
      case q2b => walk_at "m"
    | j + 3,hp => cases hp
  show ST w N (TbX Top X) A env (Wr env bitsN X) (Cx N X hb env bitsN [some (.str row),some (.list [.int b0, .int b1, .int b2]),some (.list [.int b5, .int b8, .int b11]),some (.list [.list [.int b3, .int b4, .int b5], .list [.int b6, .int b7, .int b8], .list [.int b9, .int b10, .int b11]])]) (_ :: []) _
  refine ST.last (SX.ret (fun h c => c.base) (EV.conv (p := ?w1) ?w2 ?w3))
  case w2 => walk_at "m"
  case w3 => rfl
end
end
section
set_option autoImplicit false
noncomputable def kn (k : Nat) : Int := if k = 45 then 8 else if k = 100 then 4 else if k = 108 then 10 else 2
noncomputable def ks (k : Nat) : Prop := k = 45 ∨ k = 100 ∨ k = 108 ∨ k = 99
section
variable {w : World} {N : Nat} {X : List Addr} {Tb : Heap -> Prop} {Top : Heap -> Prop} {A : Around} {env : Env} {hb : Heap} {C : Heap -> Prop}
theorem carr4 (a b c d : Str) (ta tb tc td : Tok) (va vb vc vd : Value) : Carries (PySem.strKind PP w) [(.str a ta,va),(.str b tb,vb),(.str c tc,vc),(.str d td,vd)] [(a,va),(b,vb),(c,vc),(d,vd)] := by
  exact And.intro (strKind_is ..) (And.intro rfl (And.intro (strKind_is ..) (And.intro rfl (And.intro (strKind_is ..) (And.intro rfl (And.intro (strKind_is ..) (And.intro rfl trivial)))))))
theorem merged4 (va vb vc vd : Value) : merged [] [(Str.ofString "-",va),(Str.ofString "d",vb),(Str.ofString "l",vc),(Str.ofString "c",vd)] = [(Str.ofString "-",va),(Str.ofString "d",vb),(Str.ofString "l",vc),(Str.ofString "c",vd)] := by
  rfl
theorem pair_step {E : Value -> Shared -> Prop} {a : Str} {n : Int} {c d : Nat} {p q pos : Pos} {ks : List (Option Expr)} {vs : List Expr} {Q : List (Value × Value) -> Shared -> Prop} {hp : Heap} {g : _} {dd : _} {tk : Tok} {os : _}
    (h : ∀ ta tb tk',wpAny (MM w) A (evalPairs (pairTrees ks vs env pos)) (fun r s₃ => Q ((.str a ta, .int n tb) :: r) s₃) E ⟨hp,g,dd,tk',os⟩) :
    wpAny (MM w) A (evalPairs (pairTrees (some (.Constant (.str a) c p) :: ks) (.Constant (.int n) d q :: vs) env pos)) Q E ⟨hp,g,dd,tk,os⟩ :=
  pairTrees_cons_walk (wpAny_Constant_str (wpAny_Constant_int (h _ _ _)))
theorem EV.kinds {idx : Expr} {pos pd q0 q1 q2 q3 r0 r1 r2 r3 : Pos} {c0 c1 c2 c3 d0 d1 d2 d3 : Nat} {k : Nat} (T : TbOk N X Tb) (hC : Stb N C) (hi : EV w N Tb A env C idx (IsP X (.str ⟨#[k]⟩))) (hk : ks k) (hp : PlainIdx idx) :
    EV w N Tb A env C (.Subscript (.Dict [some (.Constant (.str (Str.ofString "-")) c0 q0),some (.Constant (.str (Str.ofString "d")) c1 q1),some (.Constant (.str (Str.ofString "l")) c2 q2),some (.Constant (.str (Str.ofString "c")) c3 q3)]
      [.Constant (.int 8) d0 r0, .Constant (.int 4) d1 r1, .Constant (.int 10) d2 r2, .Constant (.int 2) d3 r3] pd) idx pos) (IsP X (.int (kn k))) := by
  constructor
  intro s Q E hc hT kk
  refine Subscript_ ?_
  refine wpAny_Dict_walk (knd := PySem.strKind PP w) ?q1 ?q2 ?q3 ?q4 ?q5
  case q1 => rfl
  case q2 => rfl
  case q3 => intro e; cases e
  case q4 => exact Nat.le_of_ble_eq_true rfl
  obtain ⟨hp0,gg,dd,tk0,os⟩ := s
  dsimp only at hc hT kk ⊢
  refine pair_step fun t0 u0 k0 => pair_step fun t1 u1 k1 => pair_step fun t2 u2 k2 => pair_step fun t3 u3 k3 => ?_
  refine pairTrees_nil_walk ?_
  refine ⟨[(Str.ofString "-", .int 8 u0),(Str.ofString "d", .int 4 u1),(Str.ofString "l", .int 10 u2),(Str.ofString "c", .int 2 u3)], ?c1, ?c2, ?c3⟩
  case c1 => exact carr4 (Str.ofString "-") (Str.ofString "d") (Str.ofString "l") (Str.ofString "c") t0 t1 t2 t3 (.int 8 u0) (.int 4 u1) (.int 10 u2) (.int 2 u3)
  case c2 => exact Heap.DictOf.new _
  intro h' hD hs
  rw [merged4] at hD
  dsimp only at hD hs ⊢
  have z : (hp0.push { cls := .type "dict",data := .dict #[] }).objs.size = hp0.objs.size + 1 := Heap.size_push ..
  have hz' : h'.objs.size = hp0.objs.size + 1 := hs.1.trans z
  have kp : ∀ b o,hp0.get? b = some o -> h'.get? b = some o := fun b o e => (hs.2 b (Nat.ne_of_lt (Heap.lt_size e))).trans (Heap.get?_push_of_some _ e)
  have n₁ : Nx N hp0 h' := .of_keep kp (by lia)
  have T₁ : Tb h' := T.keep _ _ kp (by lia) hT
  refine hi.run _ _ E (hC _ _ hc n₁) T₁ fun v h₂ t₂ n₂ T₂ i₂ => ?_
  obtain ⟨t,rfl⟩ := Is.str_inv i₂
  have hN : N <= hp0.objs.size := T.size _ hT
  have hD₂ := Heap.DictOf.at hD (fun o ho => n₂.kp _ _ ho (.inl hN))
  refine tail_any hD₂.typeIs slot_dict_getitem.lookup ?_ (subscripted_plain hp _ _)
  rcases hk with rfl | rfl | rfl | rfl
  all_goals refine wpAny_getItem_of (strKind_is PP w _ _) hD₂.mapOf rfl (kk _ _ _ (n₁.trans n₂) T₂ ?_)
  all_goals exact .int _ _
end
end
section
set_option autoImplicit false
noncomputable def toldF (n : Int) (bs : List Int) : Int := bs.foldl (fun n b => n * 2 + b) n
noncomputable def told (k : Nat) (b0 b1 b2 b3 b4 b5 b6 b7 b8 b9 b10 b11 : Int) : Int := toldF (kn k) [b0,b1,b2,b3,b4,b5,b6,b7,b8,b9,b10,b11]
theorem toldF_succ (n : Int) (bs : List Int) (j : Nat) (h : j < bs.length) : toldF n (bs.take (j + 1)) = toldF n (bs.take j) * 2 + bs.getD j 0 := by
  rw [List.take_add_one,List.getElem?_eq_getElem h]
  unfold toldF
  rw [List.foldl_append]
  simp [List.getD_eq_getElem?_getD,List.getElem?_eq_getElem h]
noncomputable def isComp : Expr -> Bool
  | .ListComp .. | .SetComp .. | .DictComp .. => true
  | _ => false
section
variable {w : World} {N : Nat} {X : List Addr} {Tb : Heap -> Prop} {Top : Heap -> Prop} {A : Around} {env : Env} {hb : Heap} {C : Heap -> Prop}
theorem swaps_no {e : Expr} {t : Option Expr} {line : Nat} (h : isComp e = false) : swapsWith e t line env = pure false := by
  cases e <;> first | rfl | cases h
noncomputable abbrev toldN : List Str := [Str.ofString "row",Str.ofString "number",Str.ofString "bit"]
theorem told_fn (g : GX N Top) {k : Nat} (hk : ks k) {b0 b1 b2 b3 b4 b5 b6 b7 b8 b9 b10 b11 : Int} (h0 : bt b0) (h1 : bt b1) (h2 : bt b2) (h3 : bt b3) (h4 : bt b4) (h5 : bt b5) (h6 : bt b6) (h7 : bt b7) (h8 : bt b8) (h9 : bt b9) (h10 : bt b10) (h11 : bt b11) : FN w N X (TbX Top X) g.fTold 3 [.str (rowOf k b0 b1 b2 b3 b4 b5 b6 b7 b8 b9 b10 b11)] (.int (told k b0 b1 b2 b3 b4 b5 b6 b7 b8 b9 b10 b11)) := by
  refine FN.def (d := 2) (prm := [Str.ofString "row"]) (loc := [Str.ofString "number",Str.ofString "bit"]) g.T g.dTold rfl (fun pm cd doc vs h => by obtain ⟨a,rfl⟩ := of1 h; with_unfolding_all rfl) (by decide) (by decide) fun A env hb hA O hs => ?_
  have T := TbX.ok g.T X
  have hn : NsOk toldN := ⟨by decide,by decide,by decide⟩
  have hkk := O.kind
  have hL := O.hL
  generalize hrow : rowOf k b0 b1 b2 b3 b4 b5 b6 b7 b8 b9 b10 b11 = row
  have hlen : row.length < 2 ^ 62 := by rw [<- hrow]; exact Nat.le_of_ble_eq_true rfl
  have hF : FN w N X (TbX Top X) g.fBits 2 [.str row] (.list [.int b0, .int b1, .int b2, .int b3, .int b4, .int b5, .int b6, .int b7, .int b8, .int b9, .int b10, .int b11]) := by rw [<- hrow]; exact bits_fn g k h0 h1 h2 h3 h4 h5 h6 h7 h8 h9 h10 h11
  show ST w N (TbX Top X) A env (Wr env toldN X) (Cx N X hb env toldN [some (.str row),none,none]) (_ :: _ :: _ :: []) _
  refine ST.seq (C' := Cx N X hb env toldN [some (.str row),some (.int (kn k)),none]) (SX.assign (ns := toldN) (vals := [some (.str row),none,none]) (i := 1) (p := .int (kn k)) T O ?ztoldN1 ?ztoldN2 hn ?ztoldN3 ?ztoldN4) ?_
  case ztoldN2 => walk_at "m"
  case ztoldN3 => rw [Env.kindOf,hs]; decide
  case ztoldN4 => exact swaps_no rfl
  case ztoldN1 =>
    refine EV.kinds T ?a1 (EV.sub (q := .int 0) ?a2 ?a3 EV.cint (IT.char (j := 0) (c := k) (by decide) hlen ?a4) ?a6) hk ?a5
    case a4 => rw [<- hrow]; rfl
    case a5 => trivial
    case a6 => trivial
    case a1 => walk_at "m"
    case a2 => walk_at "m"
    case a3 => walk_at "m"
  refine ST.seq (SX.forS (ns := toldN) (vals := [some (.str row),some (.int (kn k)),none]) (ps := [.int b0, .int b1, .int b2, .int b3, .int b4, .int b5, .int b6, .int b7, .int b8, .int b9, .int b10, .int b11]) T O (V := fun (j : Nat) => [some (.str row),some (.int (toldF (kn k) ([b0,b1,b2,b3,b4,b5,b6,b7,b8,b9,b10,b11].take j))),if j = 0 then none else some (.int ([b0,b1,b2,b3,b4,b5,b6,b7,b8,b9,b10,b11].getD (j - 1) 0))]) ?v0 ?v1 (i := 2) ?v2 hn ?v3 ?b5) ?b6
  case v0 => rfl
  case v2 => walk_at "m"
  case v3 => rw [Env.kindOf,hs]; decide
  case v1 =>
    refine SRC.list T hA.hd (EV.callD ?b1 O.kind O.glob ?b2 g.dBits (EVs.cons ?b3 ?b4 EVs.nil rfl) hF (hA.less (by decide)))
    case b1 => walk_at "m"
    case b2 => rw [Env.kindOf,hs]; decide
    case b3 => walk_at "m"
    case b4 => walk_at "m"
  case b5 =>
    intro j p hp
    have hj : j < 12 := (List.getElem?_eq_some_iff.mp hp).1
    have hp' : p = .int ([b0,b1,b2,b3,b4,b5,b6,b7,b8,b9,b10,b11].getD j 0) := by
      have : ([.int b0, .int b1, .int b2, .int b3, .int b4, .int b5, .int b6, .int b7, .int b8, .int b9, .int b10, .int b11] : List PV) = [b0,b1,b2,b3,b4,b5,b6,b7,b8,b9,b10,b11].map PV.int := rfl
      rw [this,List.getElem?_map] at hp
      have hj' : j < [b0,b1,b2,b3,b4,b5,b6,b7,b8,b9,b10,b11].length := hj
      rw [List.getElem?_eq_getElem hj'] at hp
      rw [List.getD_eq_getElem?_getD,List.getElem?_eq_getElem hj']
      cases hp; rfl
    subst hp'
    show ST w N (TbX Top X) A env _ (Cx N X hb env toldN [some (.str row),some (.int (toldF (kn k) ([b0,b1,b2,b3,b4,b5,b6,b7,b8,b9,b10,b11].take j))),some (.int ([b0,b1,b2,b3,b4,b5,b6,b7,b8,b9,b10,b11].getD j 0))]) (_ :: []) (Nxt (Cx N X hb env toldN [some (.str row),some (.int (toldF (kn k) ([b0,b1,b2,b3,b4,b5,b6,b7,b8,b9,b10,b11].take (j + 1)))),some (.int ([b0,b1,b2,b3,b4,b5,b6,b7,b8,b9,b10,b11].getD j 0))]))
    rw [toldF_succ _ _ _ hj]
    generalize toldF (kn k) ([b0,b1,b2,b3,b4,b5,b6,b7,b8,b9,b10,b11].take j) = nn
    generalize [b0,b1,b2,b3,b4,b5,b6,b7,b8,b9,b10,b11].getD j 0 = bb
    refine ST.last (SX.assign (ns := toldN) (vals := [some (.str row),some (.int nn),some (.int bb)]) T O (i := 1) (p := .int (nn * 2 + bb)) ?c1 ?c2 hn ?c3 ?c4)
    case c1 => walk_at "m"
    case c2 => walk_at "m"
    case c3 => rw [Env.kindOf,hs]; decide
    case c4 => exact swaps_no rfl
  case b6 => exact ST.last (SX.ret (fun h c => c.base) (EV.name hkk hn (i := 1) (by walk_at "m") rfl))
end
end
section
set_option autoImplicit false
noncomputable def dA (x b : Int) (i : Nat) : Int := if (bitOf x i == 1) then 1 - x.fmod 4 else b
noncomputable def sX (x r y : Int) : Int := if (x.fmod 4 == 2) then (if y > r then y else r) else y
noncomputable def sW (x r y : Int) : Int := if (x.fmod 4 == 2) then y else (if y < r then y else r)
theorem dA_bt {x b : Int} {i : Nat} (h : bt b) (hc : x.fmod 4 < 2) : bt (dA x b i) := by
  have := Int.fmod_nonneg_of_pos x (show (0:Int) < 4 by decide)
  unfold dA bt; unfold bt at h
  split <;> lia
theorem sX_bt {x r y : Int} (h : bt r) (h' : bt y) : bt (sX x r y) := by
  unfold sX bt; unfold bt at h h'
  split
  . split <;> lia
  . lia
theorem sW_bt {x r y : Int} (h : bt r) (h' : bt y) : bt (sW x r y) := by
  unfold sW bt; unfold bt at h h'
  split
  . lia
  . split <;> lia
section
variable {w : World} {N : Nat} {X : List Addr} {Tb : Heap -> Prop} {Top : Heap -> Prop} {A : Around} {env : Env} {hb : Heap} {C : Heap -> Prop}
theorem ST.retd {W : List Addr} {C : Heap -> Prop} {st : Stmt} {rest : List Stmt} {p : PV} (h : SX w N Tb A env W C st (Ret N X hb p)) : ST w N Tb A env W C (st :: rest) (Ret N X hb p) :=
  ST.cons h ⟨fun s Q E c _ _ => by obtain ⟨v,e, _⟩ := c; cases e⟩ fun _ _ _ r => r
theorem ST.nilN {W : List Addr} {C : Heap -> Prop} : ST w N Tb A env W C [] (Nxt C) := ST.nil fun g c _ => ⟨rfl,c⟩
theorem mapIdx_get {ps : List PV} {f : Nat -> PV -> PV} {j : Nat} {p : PV} (h : ps[j]? = some p) : (ps.mapIdx f)[((j : Nat) : Int).toNat]? = some (f j p) := by
  rw [Int.toNat_natCast,List.getElem?_mapIdx,h]; rfl
theorem ints_get {bs : List Int} {j : Nat} (h : j < bs.length) : (bs.map PV.int)[((j : Nat) : Int).toNat]? = some (.int (bs.getD j 0)) := by
  rw [Int.toNat_natCast,List.getElem?_map,List.getD_eq_getElem?_getD,List.getElem?_eq_getElem h]; rfl
noncomputable abbrev signedN : List Str := [Str.ofString "row",Str.ofString "x",Str.ofString "bits",Str.ofString "k",Str.ofString "mask",Str.ofString "run",Str.ofString "write"]
theorem signed_fnA (g : GX N Top) {k : Nat} {x : Int} (hc : x.fmod 4 < 2) {b0 b1 b2 b3 b4 b5 b6 b7 b8 b9 b10 b11 : Int} (h0 : bt b0) (h1 : bt b1) (h2 : bt b2) (h3 : bt b3) (h4 : bt b4) (h5 : bt b5) (h6 : bt b6) (h7 : bt b7) (h8 : bt b8) (h9 : bt b9) (h10 : bt b10) (h11 : bt b11) : FN w N X (TbX Top X) g.fSigned 3 [.str (rowOf k b0 b1 b2 b3 b4 b5 b6 b7 b8 b9 b10 b11), .int x] (.str (rowOf k (dA x b0 0) (dA x b1 1) (dA x b2 2) (dA x b3 3) (dA x b4 4) (dA x b5 5) (dA x b6 6) (dA x b7 7) (dA x b8 8) (dA x b9 9) (dA x b10 10) (dA x b11 11))) := by
  refine FN.def (d := 2) (prm := [Str.ofString "row",Str.ofString "x"]) (loc := [Str.ofString "bits",Str.ofString "k",Str.ofString "mask",Str.ofString "run",Str.ofString "write"]) g.T g.dSigned rfl (fun pm cd doc vs h => by obtain ⟨a,b,rfl⟩ := of2 h; with_unfolding_all rfl) (by decide) (by decide) fun A env hb hA O hs => ?_
  have T := TbX.ok g.T X
  have hn : NsOk signedN := ⟨by decide,by decide,by decide⟩
  have hkk := O.kind
  have hL := O.hL
  generalize hrow : rowOf k b0 b1 b2 b3 b4 b5 b6 b7 b8 b9 b10 b11 = row
  have hlen : row.length < 2 ^ 62 := by rw [<- hrow]; exact Nat.le_of_ble_eq_true rfl
  have hF : FN w N X (TbX Top X) g.fBits 2 [.str row] (.list [.int b0, .int b1, .int b2, .int b3, .int b4, .int b5, .int b6, .int b7, .int b8, .int b9, .int b10, .int b11]) := by rw [<- hrow]; exact bits_fn g k h0 h1 h2 h3 h4 h5 h6 h7 h8 h9 h10 h11
  show ST w N (TbX Top X) A env (Wr env signedN X) (Cx N X hb env signedN [some (.str row),some (.int x),none,none,none,none,none]) (_ :: _ :: _ :: _ :: []) _
  refine ST.seq (C' := Cx N X hb env signedN [some (.str row),some (.int x),some (.list [.int b0, .int b1, .int b2, .int b3, .int b4, .int b5, .int b6, .int b7, .int b8, .int b9, .int b10, .int b11]),none,none,none,none]) (SX.assign (ns := signedN) (vals := [some (.str row),some (.int x),none,none,none,none,none]) (i := 2) (p := .list [.int b0, .int b1, .int b2, .int b3, .int b4, .int b5, .int b6, .int b7, .int b8, .int b9, .int b10, .int b11]) T O ?zsignedN1 ?zsignedN2 hn ?zsignedN3 ?zsignedN4) ?_
  case zsignedN2 => walk_at "m"
  case zsignedN3 => rw [Env.kindOf,hs]; decide
  case zsignedN4 => exact swaps_no rfl
  case zsignedN1 =>
    refine EV.callD ?b1 O.kind O.glob ?b2 g.dBits (EVs.cons ?b3 ?b4 EVs.nil rfl) hF (hA.less (by decide))
    case b1 => walk_at "m"
    case b2 => rw [Env.kindOf,hs]; decide
    case b3 => walk_at "m"
    case b4 => walk_at "m"
  refine ST.retd (SX.iff (c := decide (x.fmod 4 < 2)) ?i1 ?i2 (fun _ => ?i3) (fun e => absurd (of_decide_eq_false e) (by simpa using hc)))
  case i1 => walk_at "m"
  case i2 => walk_at "m"
  case i3 =>
    show ST w N (TbX Top X) A env (Wr env signedN X) (Cx N X hb env signedN [some (.str row),some (.int x),some (.list [.int b0, .int b1, .int b2, .int b3, .int b4, .int b5, .int b6, .int b7, .int b8, .int b9, .int b10, .int b11]),none,none,none,none]) (_ :: _ :: []) _
    refine ST.seq (C' := Cx N X hb env signedN [some (.str row),some (.int x),some (.list [.int b0, .int b1, .int b2, .int b3, .int b4, .int b5, .int b6, .int b7, .int b8, .int b9, .int b10, .int b11]),none,some (.list ((rangeP 12).mapIdx fun j _ => .int (bitOf x j))),none,none]) (SX.assign (ns := signedN) (vals := [some (.str row),some (.int x),some (.list [.int b0, .int b1, .int b2, .int b3, .int b4, .int b5, .int b6, .int b7, .int b8, .int b9, .int b10, .int b11]),none,none,none,none]) (i := 4) (p := .list ((rangeP 12).mapIdx fun j _ => .int (bitOf x j))) T O ?m1 ?m2 hn ?m3 (swaps_is ?m4)) ?_
    case m2 => walk_at "m"
    case m3 => rw [Env.kindOf,hs]; decide
    case m4 => rw [Env.blockKind,Env.kindOf,hs]; decide
    case m1 =>
      refine EV.comp (fs := [Str.ofString "x"]) (fv := [some (.int x)]) g.T O.toBlkOk (SRC.range T hA.hd (n := 12) (i := 12) rfl (by decide) ?u1 O.kind O.glob O.bui ?u2 (g.bRange.x X) EV.cint) (by decide) rfl (by decide) (by decide) (by decide) (by decide) (.cons (i := 1) (by walk_at "m") rfl (by decide) ?u3 .nil) rfl (by decide) ?u4
      case u1 => walk_at "m"
      case u2 => rw [Env.kindOf,hs]; decide
      case u3 => rw [Env.kindOf,hs]; decide
      case u4 =>
        intro D cenv hc hsc B j p hp
        obtain ⟨hj,rfl⟩ := rangeP_get hp
        have hk' := B.kind
        have hL' := B.hL
        have hn' : NsOk [Str.ofString "k",Str.ofString "x"] := ⟨by decide,by decide,by decide⟩
        obtain ⟨p1,p2⟩ := pow_small hj
        refine EV.bin ?v1 (EV.bin ?v2 (EV.bin ?v3 ?v4 EV.cint (OP.div (by decide) (by decide))) (EV.bin ?v5 EV.cint (EV.bin ?v6 EV.cint ?v7 OP.sub) (OP.pow ?v8 ?v9 (by decide))) (OP.div p1 p2)) EV.cint (OP.mod (by decide))
        case v1 => walk_at "m"
        case v2 => walk_at "m"
        case v3 => walk_at "m"
        case v5 => walk_at "m"
        case v6 => walk_at "m"
        case v4 => walk_at "m"
        case v7 => walk_at "m"
        case v8 => lia
        case v9 => lia
    refine ST.last (SX.ret (fun h c => c.base) (EV.callD ?s O.kind O.glob ?kx g.dSigns (EVs.cons (p := .str ⟨#[k]⟩) ?s2 ?a1 (EVs.cons (p := .list ((rangeP 12).mapIdx fun j _ => .int (if (bitOf x j == 1) then 1 - x.fmod 4 else [b0,b1,b2,b3,b4,b5,b6,b7,b8,b9,b10,b11].getD j 0))) ?s3 ?a2 EVs.nil rfl) rfl) (signs_fn g k (dA_bt h0 hc) (dA_bt h1 hc) (dA_bt h2 hc) (dA_bt h3 hc) (dA_bt h4 hc) (dA_bt h5 hc) (dA_bt h6 hc) (dA_bt h7 hc) (dA_bt h8 hc) (dA_bt h9 hc) (dA_bt h10 hc) (dA_bt h11 hc)) (hA.less (by decide))))
    case s => walk_at "m"
    case s2 => walk_at "m"
    case s3 => walk_at "m"
    case kx => rw [Env.kindOf,hs]; decide
    case a1 =>
      refine EV.sub (q := .int 0) ?t1 ?t2 EV.cint (IT.char (j := 0) (c := k) (by decide) hlen ?t3) ?t4
      case t1 => walk_at "m"
      case t2 => walk_at "m"
      case t3 => rw [<- hrow]; rfl
      case t4 => trivial
    case a2 =>
      refine EV.comp (fs := [Str.ofString "x",Str.ofString "mask",Str.ofString "bits"]) (fv := [some (.int x),some (.list ((rangeP 12).mapIdx fun j _ => .int (bitOf x j))),some (.list [.int b0, .int b1, .int b2, .int b3, .int b4, .int b5, .int b6, .int b7, .int b8, .int b9, .int b10, .int b11])]) g.T O.toBlkOk (SRC.range T hA.hd (n := 12) (i := 12) rfl (by decide) ?u1 O.kind O.glob O.bui ?u2 (g.bRange.x X) EV.cint) (by decide) rfl (by decide) (by decide) (by decide) (by decide) (.cons (i := 1) (by walk_at "m") rfl (by decide) ?u3 (.cons (i := 4) (by walk_at "m") rfl (by decide) ?u5 (.cons (i := 2) (by walk_at "m") rfl (by decide) ?u6 .nil))) rfl (by decide) ?u4
      case u1 => walk_at "m"
      case u2 => rw [Env.kindOf,hs]; decide
      case u3 => rw [Env.kindOf,hs]; decide
      case u5 => rw [Env.kindOf,hs]; decide
      case u6 => rw [Env.kindOf,hs]; decide
      case u4 =>
        intro D cenv hc' hsc B j p hp
        obtain ⟨hj,rfl⟩ := rangeP_get hp
        have hk' := B.kind
        have hL' := B.hL
        have hn' : NsOk [Str.ofString "k",Str.ofString "x",Str.ofString "mask",Str.ofString "bits"] := ⟨by decide,by decide,by decide⟩
        refine EV.iteI ?v1 (BV.cmp (X := D :: X) ?v2 (EV.sub (q := .int j) (r := .int (bitOf x j)) ?v3 ?v4 ?v5 (IT.list (by lia) (by lia) (mapIdx_get (f := fun j _ => .int (bitOf x j)) hp)) ?v6) EV.cint CP.eq) ?v7 (EV.sub (q := .int j) ?v8 ?v9 ?w1 (IT.list (by lia) (by lia) (ints_get (bs := [b0,b1,b2,b3,b4,b5,b6,b7,b8,b9,b10,b11]) hj)) ?w2)
        case v1 => walk_at "m"
        case v2 => walk_at "m"
        case v3 => walk_at "m"
        case v8 => walk_at "m"
        case v4 => walk_at "m"
        case v5 => walk_at "m"
        case v6 => trivial
        case v7 => walk_at "m"
        case v9 => walk_at "m"
        case w1 => walk_at "m"
        case w2 => trivial
end
end
section
set_option autoImplicit false
section
variable {w : World} {N : Nat} {X : List Addr} {Tb : Heap -> Prop} {Top : Heap -> Prop} {A : Around} {env : Env} {hb : Heap} {C : Heap -> Prop}
noncomputable abbrev signedM : List Str := [Str.ofString "row",Str.ofString "x",Str.ofString "bits",Str.ofString "k",Str.ofString "mask",Str.ofString "run",Str.ofString "write"]
theorem signed_fnB (g : GX N Top) {k : Nat} {x : Int} (hc : ¬ x.fmod 4 < 2) {b0 b1 b2 b3 b4 b5 b6 b7 b8 b9 b10 b11 : Int} (h0 : bt b0) (h1 : bt b1) (h2 : bt b2) (h3 : bt b3) (h4 : bt b4) (h5 : bt b5) (h6 : bt b6) (h7 : bt b7) (h8 : bt b8) (h9 : bt b9) (h10 : bt b10) (h11 : bt b11) : FN w N X (TbX Top X) g.fSigned 3 [.str (rowOf k b0 b1 b2 b3 b4 b5 b6 b7 b8 b9 b10 b11), .int x] (.str (rowOf k (b0) (b1) (b2) (b3) (sW x b3 b4) (sX x b3 b5) (b6) (sW x b6 b7) (sX x b6 b8) (b9) (sW x b9 b10) (sX x b9 b11))) := by
  refine FN.def (d := 2) (prm := [Str.ofString "row",Str.ofString "x"]) (loc := [Str.ofString "bits",Str.ofString "k",Str.ofString "mask",Str.ofString "run",Str.ofString "write"]) g.T g.dSigned rfl (fun pm cd doc vs h => by obtain ⟨a,b,rfl⟩ := of2 h; with_unfolding_all rfl) (by decide) (by decide) fun A env hb hA O hs => ?_
  have T := TbX.ok g.T X
  have hn : NsOk signedM := ⟨by decide,by decide,by decide⟩
  have hkk := O.kind
  have hL := O.hL
  generalize hrow : rowOf k b0 b1 b2 b3 b4 b5 b6 b7 b8 b9 b10 b11 = row
  have hlen : row.length < 2 ^ 62 := by rw [<- hrow]; exact Nat.le_of_ble_eq_true rfl
  have hF : FN w N X (TbX Top X) g.fBits 2 [.str row] (.list [.int b0, .int b1, .int b2, .int b3, .int b4, .int b5, .int b6, .int b7, .int b8, .int b9, .int b10, .int b11]) := by rw [<- hrow]; exact bits_fn g k h0 h1 h2 h3 h4 h5 h6 h7 h8 h9 h10 h11
  show ST w N (TbX Top X) A env (Wr env signedM X) (Cx N X hb env signedM [some (.str row),some (.int x),none,none,none,none,none]) (_ :: _ :: _ :: _ :: []) _
  refine ST.seq (C' := Cx N X hb env signedM [some (.str row),some (.int x),some (.list [.int b0, .int b1, .int b2, .int b3, .int b4, .int b5, .int b6, .int b7, .int b8, .int b9, .int b10, .int b11]),none,none,none,none]) (SX.assign (ns := signedM) (vals := [some (.str row),some (.int x),none,none,none,none,none]) (i := 2) (p := .list [.int b0, .int b1, .int b2, .int b3, .int b4, .int b5, .int b6, .int b7, .int b8, .int b9, .int b10, .int b11]) T O ?zsignedM1 ?zsignedM2 hn ?zsignedM3 ?zsignedM4) ?_
  case zsignedM2 => walk_at "m"
  case zsignedM3 => rw [Env.kindOf,hs]; decide
  case zsignedM4 => exact swaps_no rfl
  case zsignedM1 =>
    refine EV.callD ?b1 O.kind O.glob ?b2 g.dBits (EVs.cons ?b3 ?b4 EVs.nil rfl) hF (hA.less (by decide))
    case b1 => walk_at "m"
    case b2 => rw [Env.kindOf,hs]; decide
    case b3 => walk_at "m"
    case b4 => walk_at "m"
  refine ST.seq (C' := Cx N X hb env signedM [some (.str row),some (.int x),some (.list [.int b0, .int b1, .int b2, .int b3, .int b4, .int b5, .int b6, .int b7, .int b8, .int b9, .int b10, .int b11]),none,none,none,none]) (SX.iff (c := decide (x.fmod 4 < 2)) ?i1 ?i2 (fun e => absurd (of_decide_eq_true e) hc) (fun _ => ST.nilN)) ?_
  case i1 => walk_at "m"
  case i2 => walk_at "m"
  refine ST.seq (SX.forS (ns := signedM) (vals := [some (.str row),some (.int x),some (.list [.int b0, .int b1, .int b2, .int b3, .int b4, .int b5, .int b6, .int b7, .int b8, .int b9, .int b10, .int b11]),none,none,none,none]) (ps := [.int 3, .int 6, .int 9]) T O (V := fun (j : Nat) => match j with | 0 => [some (.str row),some (.int x),some (.list [.int b0, .int b1, .int b2, .int b3, .int b4, .int b5, .int b6, .int b7, .int b8, .int b9, .int b10, .int b11]),none,none,none,none] | 1 => [some (.str row),some (.int x),some (.list [.int (b0), .int (b1), .int (b2), .int (b3), .int (sW x b3 b4), .int (sX x b3 b5), .int (b6), .int (b7), .int (b8), .int (b9), .int (b10), .int (b11)]),some (.int 3),none,some (.int (sX x b3 b5)),some (.int (sW x b3 b4))] | 2 => [some (.str row),some (.int x),some (.list [.int (b0), .int (b1), .int (b2), .int (b3), .int (sW x b3 b4), .int (sX x b3 b5), .int (b6), .int (sW x b6 b7), .int (sX x b6 b8), .int (b9), .int (b10), .int (b11)]),some (.int 6),none,some (.int (sX x b6 b8)),some (.int (sW x b6 b7))] | _ => [some (.str row),some (.int x),some (.list [.int (b0), .int (b1), .int (b2), .int (b3), .int (sW x b3 b4), .int (sX x b3 b5), .int (b6), .int (sW x b6 b7), .int (sX x b6 b8), .int (b9), .int (sW x b9 b10), .int (sX x b9 b11)]),some (.int 9),none,some (.int (sX x b9 b11)),some (.int (sW x b9 b10))]) ?v0 ?v1 (i := 3) ?v2 hn ?v3 ?v4) ?v5
  case v0 => rfl
  case v2 => walk_at "m"
  case v3 => rw [Env.kindOf,hs]; decide
  case v1 =>
    refine SRC.list T hA.hd ?w1
    case w1 => walk_at "m"
  case v4 =>
    intro j p hp
    match j,hp with
    | 0,hp =>
      cases hp
      show ST w N (TbX Top X) A env (Wr env signedM X) (Cx N X hb env signedM [some (.str row),some (.int x),some (.list [.int b0, .int b1, .int b2, .int b3, .int b4, .int b5, .int b6, .int b7, .int b8, .int b9, .int b10, .int b11]),some (.int 3),none,none,none]) (_ :: _ :: _ :: []) _
      refine ST.seq (C' := Cx N X hb env signedM [some (.str row),some (.int x),some (.list [.int b0, .int b1, .int b2, .int b3, .int b4, .int b5, .int b6, .int b7, .int b8, .int b9, .int b10, .int b11]),some (.int 3),none,some (.int (sX x (b3) (b5))),none]) (SX.assign (ns := signedM) (vals := [some (.str row),some (.int x),some (.list [.int b0, .int b1, .int b2, .int b3, .int b4, .int b5, .int b6, .int b7, .int b8, .int b9, .int b10, .int b11]),some (.int 3),none,none,none]) (i := 5) (p := .int (sX x (b3) (b5))) T O ?zsignedM5 ?zsignedM6 hn ?zsignedM7 ?zsignedM8) ?_
      case zsignedM6 => walk_at "m"
      case zsignedM7 => rw [Env.kindOf,hs]; decide
      case zsignedM8 => exact swaps_no rfl
      case zsignedM5 =>
        refine EV.conv (p := .int (if (x.fmod 4 == 2) then (if (b5) > (b3) then (b5) else (b3)) else (b5))) ?q0m0 rfl
        refine EV.iteI ?q0m1 ?q0m2 (EV.callB ?q0m3 O.kind O.glob O.bui ?q0m4 (g.bMax.x X) (EVs.cons (p := .int (b3)) ?q0m5 ?q0m6 (EVs.cons (p := .int (b5)) ?q0m7 ?q0m8 EVs.nil rfl) rfl) (BC.max T hA.hd)) ?q0m9
        case q0m1 => walk_at "m"
        case q0m2 => walk_at "m"
        case q0m3 => walk_at "m"
        case q0m4 => rw [Env.kindOf,hs]; decide
        case q0m5 => walk_at "m"
        case q0m6 => walk_at "m"
        case q0m7 => walk_at "m"
        case q0m8 => walk_at "m"
        case q0m9 => walk_at "m"
      refine ST.seq (C' := Cx N X hb env signedM [some (.str row),some (.int x),some (.list [.int b0, .int b1, .int b2, .int b3, .int b4, .int b5, .int b6, .int b7, .int b8, .int b9, .int b10, .int b11]),some (.int 3),none,some (.int (sX x (b3) (b5))),some (.int (sW x (b3) (b4)))]) (SX.assign (ns := signedM) (vals := [some (.str row),some (.int x),some (.list [.int b0, .int b1, .int b2, .int b3, .int b4, .int b5, .int b6, .int b7, .int b8, .int b9, .int b10, .int b11]),some (.int 3),none,some (.int (sX x (b3) (b5))),none]) (i := 6) (p := .int (sW x (b3) (b4))) T O ?zsignedM9 ?zsignedM10 hn ?zsignedM11 ?zsignedM12) ?_
      case zsignedM10 => walk_at "m"
      case zsignedM11 => rw [Env.kindOf,hs]; decide
      case zsignedM12 => exact swaps_no rfl
      case zsignedM9 =>
        refine EV.conv (p := .int (if (x.fmod 4 == 2) then (b4) else (if (b4) < (b3) then (b4) else (b3)))) ?q0n0 rfl
        refine EV.iteI ?q0n1 ?q0n2 ?q0n9 (EV.callB ?q0n3 O.kind O.glob O.bui ?q0n4 (g.bMin.x X) (EVs.cons (p := .int (b3)) ?q0n5 ?q0n6 (EVs.cons (p := .int (b4)) ?q0n7 ?q0n8 EVs.nil rfl) rfl) (BC.min T hA.hd))
        case q0n1 => walk_at "m"
        case q0n2 => walk_at "m"
        case q0n3 => walk_at "m"
        case q0n4 => rw [Env.kindOf,hs]; decide
        case q0n5 => walk_at "m"
        case q0n6 => walk_at "m"
        case q0n7 => walk_at "m"
        case q0n8 => walk_at "m"
        case q0n9 => walk_at "m"
      refine ST.last (SX.assign (ns := signedM) (vals := [some (.str row),some (.int x),some (.list [.int b0, .int b1, .int b2, .int b3, .int b4, .int b5, .int b6, .int b7, .int b8, .int b9, .int b10, .int b11]),some (.int 3),none,some (.int (sX x (b3) (b5))),some (.int (sW x (b3) (b4)))]) (i := 2) (p := .list [.int (b0), .int (b1), .int (b2), .int (b3), .int (sW x b3 b4), .int (sX x b3 b5), .int (b6), .int (b7), .int (b8), .int (b9), .int (b10), .int (b11)]) T O ?zsignedM13 ?zsignedM14 hn ?zsignedM15 ?zsignedM16)
      case zsignedM14 => walk_at "m"
      case zsignedM15 => rw [Env.kindOf,hs]; decide
      case zsignedM16 => exact swaps_no rfl
      case zsignedM13 =>
        refine EV.conv (p := ?zsignedM17) ?zsignedM18 ?zsignedM19
        case zsignedM18 => walk_at "m"
        case zsignedM19 => rfl
    | 1,hp =>
      cases hp
      show ST w N (TbX Top X) A env (Wr env signedM X) (Cx N X hb env signedM [some (.str row),some (.int x),some (.list [.int (b0), .int (b1), .int (b2), .int (b3), .int (sW x b3 b4), .int (sX x b3 b5), .int (b6), .int (b7), .int (b8), .int (b9), .int (b10), .int (b11)]),some (.int 6),none,some (.int (sX x b3 b5)),some (.int (sW x b3 b4))]) (_ :: _ :: _ :: []) _
      refine ST.seq (C' := Cx N X hb env signedM [some (.str row),some (.int x),some (.list [.int (b0), .int (b1), .int (b2), .int (b3), .int (sW x b3 b4), .int (sX x b3 b5), .int (b6), .int (b7), .int (b8), .int (b9), .int (b10), .int (b11)]),some (.int 6),none,some (.int (sX x (b6) (b8))),some (.int (sW x b3 b4))]) (SX.assign (ns := signedM) (vals := [some (.str row),some (.int x),some (.list [.int (b0), .int (b1), .int (b2), .int (b3), .int (sW x b3 b4), .int (sX x b3 b5), .int (b6), .int (b7), .int (b8), .int (b9), .int (b10), .int (b11)]),some (.int 6),none,some (.int (sX x b3 b5)),some (.int (sW x b3 b4))]) (i := 5) (p := .int (sX x (b6) (b8))) T O ?zsignedM20 ?zsignedM21 hn ?zsignedM22 ?zsignedM23) ?_
      case zsignedM21 => walk_at "m"
      case zsignedM22 => rw [Env.kindOf,hs]; decide
      case zsignedM23 => exact swaps_no rfl
      case zsignedM20 =>
        refine EV.conv (p := .int (if (x.fmod 4 == 2) then (if (b8) > (b6) then (b8) else (b6)) else (b8))) ?q1m0 rfl
        refine EV.iteI ?q1m1 ?q1m2 (EV.callB ?q1m3 O.kind O.glob O.bui ?q1m4 (g.bMax.x X) (EVs.cons (p := .int (b6)) ?q1m5 ?q1m6 (EVs.cons (p := .int (b8)) ?q1m7 ?q1m8 EVs.nil rfl) rfl) (BC.max T hA.hd)) ?q1m9
        case q1m1 => walk_at "m"
        case q1m2 => walk_at "m"
        case q1m3 => walk_at "m"
        case q1m4 => rw [Env.kindOf,hs]; decide
        case q1m5 => walk_at "m"
        case q1m6 => walk_at "m"
        case q1m7 => walk_at "m"
        case q1m8 => walk_at "m"
        case q1m9 => walk_at "m"
      refine ST.seq (C' := Cx N X hb env signedM [some (.str row),some (.int x),some (.list [.int (b0), .int (b1), .int (b2), .int (b3), .int (sW x b3 b4), .int (sX x b3 b5), .int (b6), .int (b7), .int (b8), .int (b9), .int (b10), .int (b11)]),some (.int 6),none,some (.int (sX x (b6) (b8))),some (.int (sW x (b6) (b7)))]) (SX.assign (ns := signedM) (vals := [some (.str row),some (.int x),some (.list [.int (b0), .int (b1), .int (b2), .int (b3), .int (sW x b3 b4), .int (sX x b3 b5), .int (b6), .int (b7), .int (b8), .int (b9), .int (b10), .int (b11)]),some (.int 6),none,some (.int (sX x (b6) (b8))),some (.int (sW x b3 b4))]) (i := 6) (p := .int (sW x (b6) (b7))) T O ?zsignedM24 ?zsignedM25 hn ?zsignedM26 ?zsignedM27) ?_
      case zsignedM25 => walk_at "m"
      case zsignedM26 => rw [Env.kindOf,hs]; decide
      case zsignedM27 => exact swaps_no rfl
      case zsignedM24 =>
        refine EV.conv (p := .int (if (x.fmod 4 == 2) then (b7) else (if (b7) < (b6) then (b7) else (b6)))) ?q1n0 rfl
        refine EV.iteI ?q1n1 ?q1n2 ?q1n9 (EV.callB ?q1n3 O.kind O.glob O.bui ?q1n4 (g.bMin.x X) (EVs.cons (p := .int (b6)) ?q1n5 ?q1n6 (EVs.cons (p := .int (b7)) ?q1n7 ?q1n8 EVs.nil rfl) rfl) (BC.min T hA.hd))
        case q1n1 => walk_at "m"
        case q1n2 => walk_at "m"
        case q1n3 => walk_at "m"
        case q1n4 => rw [Env.kindOf,hs]; decide
        case q1n5 => walk_at "m"
        case q1n6 => walk_at "m"
        case q1n7 => walk_at "m"
        case q1n8 => walk_at "m"
        case q1n9 => walk_at "m"
      refine ST.last (SX.assign (ns := signedM) (vals := [some (.str row),some (.int x),some (.list [.int (b0), .int (b1), .int (b2), .int (b3), .int (sW x b3 b4), .int (sX x b3 b5), .int (b6), .int (b7), .int (b8), .int (b9), .int (b10), .int (b11)]),some (.int 6),none,some (.int (sX x (b6) (b8))),some (.int (sW x (b6) (b7)))]) (i := 2) (p := .list [.int (b0), .int (b1), .int (b2), .int (b3), .int (sW x b3 b4), .int (sX x b3 b5), .int (b6), .int (sW x b6 b7), .int (sX x b6 b8), .int (b9), .int (b10), .int (b11)]) T O ?zsignedM28 ?zsignedM29 hn ?zsignedM30 ?zsignedM31)
      case zsignedM29 => walk_at "m"
      case zsignedM30 => rw [Env.kindOf,hs]; decide
      case zsignedM31 => exact swaps_no rfl
      case zsignedM28 =>
        refine EV.conv (p := ?zsignedM32) ?zsignedM33 ?zsignedM34
        case zsignedM33 => walk_at "m"
        case zsignedM34 => rfl
    | 2,hp =>
      cases hp
      show ST w N (TbX Top X) A env (Wr env signedM X) (Cx N X hb env signedM [some (.str row),some (.int x),some (.list [.int (b0), .int (b1), .int (b2), .int (b3), .int (sW x b3 b4), .int (sX x b3 b5), .int (b6), .int (sW x b6 b7), .int (sX x b6 b8), .int (b9), .int (b10), .int (b11)]),some (.int 9),none,some (.int (sX x b6 b8)),some (.int (sW x b6 b7))]) (_ :: _ :: _ :: []) _
      refine ST.seq (C' := Cx N X hb env signedM [some (.str row),some (.int x),some (.list [.int (b0), .int (b1), .int (b2), .int (b3), .int (sW x b3 b4), .int (sX x b3 b5), .int (b6), .int (sW x b6 b7), .int (sX x b6 b8), .int (b9), .int (b10), .int (b11)]),some (.int 9),none,some (.int (sX x (b9) (b11))),some (.int (sW x b6 b7))]) (SX.assign (ns := signedM) (vals := [some (.str row),some (.int x),some (.list [.int (b0), .int (b1), .int (b2), .int (b3), .int (sW x b3 b4), .int (sX x b3 b5), .int (b6), .int (sW x b6 b7), .int (sX x b6 b8), .int (b9), .int (b10), .int (b11)]),some (.int 9),none,some (.int (sX x b6 b8)),some (.int (sW x b6 b7))]) (i := 5) (p := .int (sX x (b9) (b11))) T O ?zsignedM35 ?zsignedM36 hn ?zsignedM37 ?zsignedM38) ?_
      case zsignedM36 => walk_at "m"
      case zsignedM37 => rw [Env.kindOf,hs]; decide
      case zsignedM38 => exact swaps_no rfl
      case zsignedM35 =>
        refine EV.conv (p := .int (if (x.fmod 4 == 2) then (if (b11) > (b9) then (b11) else (b9)) else (b11))) ?q2m0 rfl
        refine EV.iteI ?q2m1 ?q2m2 (EV.callB ?q2m3 O.kind O.glob O.bui ?q2m4 (g.bMax.x X) (EVs.cons (p := .int (b9)) ?q2m5 ?q2m6 (EVs.cons (p := .int (b11)) ?q2m7 ?q2m8 EVs.nil rfl) rfl) (BC.max T hA.hd)) ?q2m9
        case q2m1 => walk_at "m"
        case q2m2 => walk_at "m"
        case q2m3 => walk_at "m"
        case q2m4 => rw [Env.kindOf,hs]; decide
        case q2m5 => walk_at "m"
        case q2m6 => walk_at "m"
        case q2m7 => walk_at "m"
        case q2m8 => walk_at "m"
        case q2m9 => walk_at "m"
      refine ST.seq (C' := Cx N X hb env signedM [some (.str row),some (.int x),some (.list [.int (b0), .int (b1), .int (b2), .int (b3), .int (sW x b3 b4), .int (sX x b3 b5), .int (b6), .int (sW x b6 b7), .int (sX x b6 b8), .int (b9), .int (b10), .int (b11)]),some (.int 9),none,some (.int (sX x (b9) (b11))),some (.int (sW x (b9) (b10)))]) (SX.assign (ns := signedM) (vals := [some (.str row),some (.int x),some (.list [.int (b0), .int (b1), .int (b2), .int (b3), .int (sW x b3 b4), .int (sX x b3 b5), .int (b6), .int (sW x b6 b7), .int (sX x b6 b8), .int (b9), .int (b10), .int (b11)]),some (.int 9),none,some (.int (sX x (b9) (b11))),some (.int (sW x b6 b7))]) (i := 6) (p := .int (sW x (b9) (b10))) T O ?zsignedM39 ?zsignedM40 hn ?zsignedM41 ?zsignedM42) ?_
      case zsignedM40 => walk_at "m"
      case zsignedM41 => rw [Env.kindOf,hs]; decide
      case zsignedM42 => exact swaps_no rfl
      case zsignedM39 =>
        refine EV.conv (p := .int (if (x.fmod 4 == 2) then (b10) else (if (b10) < (b9) then (b10) else (b9)))) ?q2n0 rfl
        refine EV.iteI ?q2n1 ?q2n2 ?q2n9 (EV.callB ?q2n3 O.kind O.glob O.bui ?q2n4 (g.bMin.x X) (EVs.cons (p := .int (b9)) ?q2n5 ?q2n6 (EVs.cons (p := .int (b10)) ?q2n7 ?q2n8 EVs.nil rfl) rfl) (BC.min T hA.hd))
        case q2n1 => walk_at "m"
        case q2n2 => walk_at "m"
        case q2n3 => walk_at "m"
        case q2n4 => rw [Env.kindOf,hs]; decide
        case q2n5 => walk_at "m"
        case q2n6 => walk_at "m"
        case q2n7 => walk_at "m"
        case q2n8 => walk_at "m"
        case q2n9 => walk_at "m"
      refine ST.last (SX.assign (ns := signedM) (vals := [some (.str row),some (.int x),some (.list [.int (b0), .int (b1), .int (b2), .int (b3), .int (sW x b3 b4), .int (sX x b3 b5), .int (b6), .int (sW x b6 b7), .int (sX x b6 b8), .int (b9), .int (b10), .int (b11)]),some (.int 9),none,some (.int (sX x (b9) (b11))),some (.int (sW x (b9) (b10)))]) (i := 2) (p := .list [.int (b0), .int (b1), .int (b2), .int (b3), .int (sW x b3 b4), .int (sX x b3 b5), .int (b6), .int (sW x b6 b7), .int (sX x b6 b8), .int (b9), .int (sW x b9 b10), .int (sX x b9 b11)]) T O ?zsignedM43 ?zsignedM44 hn ?zsignedM45 ?zsignedM46)
      case zsignedM44 => walk_at "m"
      case zsignedM45 => rw [Env.kindOf,hs]; decide
      case zsignedM46 => exact swaps_no rfl
      case zsignedM43 =>
        refine EV.conv (p := ?zsignedM47) ?zsignedM48 ?zsignedM49
        case zsignedM48 => walk_at "m"
        case zsignedM49 => rfl
    | j + 3,hp => cases hp
  case v5 =>
    show ST w N (TbX Top X) A env (Wr env signedM X) (Cx N X hb env signedM [some (.str row),some (.int x),some (.list [.int (b0), .int (b1), .int (b2), .int (b3), .int (sW x b3 b4), .int (sX x b3 b5), .int (b6), .int (sW x b6 b7), .int (sX x b6 b8), .int (b9), .int (sW x b9 b10), .int (sX x b9 b11)]),some (.int 9),none,some (.int (sX x b9 b11)),some (.int (sW x b9 b10))]) (_ :: []) _
    refine ST.last (SX.ret (fun h c => c.base) (EV.callD ?s O.kind O.glob ?kx g.dSigns (EVs.cons (p := .str ⟨#[k]⟩) ?s2 ?a1 (EVs.cons (p := .list [.int (b0), .int (b1), .int (b2), .int (b3), .int (sW x b3 b4), .int (sX x b3 b5), .int (b6), .int (sW x b6 b7), .int (sX x b6 b8), .int (b9), .int (sW x b9 b10), .int (sX x b9 b11)]) ?s3 ?a2 EVs.nil rfl) rfl) (signs_fn g k h0 h1 h2 h3 (sW_bt h3 h4) (sX_bt h3 h5) h6 (sW_bt h6 h7) (sX_bt h6 h8) h9 (sW_bt h9 h10) (sX_bt h9 h11)) (hA.less (by decide))))
    case s => walk_at "m"
    case s2 => walk_at "m"
    case s3 => walk_at "m"
    case kx => rw [Env.kindOf,hs]; decide
    case a1 =>
      refine EV.sub (q := .int 0) ?t1 ?t2 EV.cint (IT.char (j := 0) (c := k) (by decide) hlen ?t3) ?t4
      case t1 => walk_at "m"
      case t2 => walk_at "m"
      case t3 => rw [<- hrow]; rfl
      case t4 => trivial
    case a2 => walk_at "m"
end
end
section
set_option autoImplicit false
noncomputable def doneOf (F : Int -> Int) (number x : Int) : Int :=
  if x.fmod 4 < 2 then (if x.fmod 4 = 0 then Builtin.bitOr number (F ((x.fdiv 4).fmod 4096)) else number - Builtin.bitAnd number (F ((x.fdiv 4).fmod 4096)))
  else if x.fmod 4 = 2 then Builtin.bitOr number ((Builtin.bitAnd number (F 292)).fdiv 4)
  else number - Builtin.bitAnd number (F 146) + Builtin.bitAnd (Builtin.bitAnd number (F 146)) ((Builtin.bitAnd number (F 292)).fdiv 2)
section
variable {w : World} {N : Nat} {X : List Addr} {Tb : Heap -> Prop} {Top : Heap -> Prop} {A : Around} {env : Env} {hb : Heap} {C : Heap -> Prop}
noncomputable abbrev modeN : List Str := [Str.ofString "mode"]
theorem mode_fn (g : GX N Top) (m : Int) : FN w N X (TbX Top X) g.fMode 1 [.int m] (.int (Builtin.bitAnd m 4095)) := by
  refine FN.def (d := 0) (prm := [Str.ofString "mode"]) (loc := []) g.T g.dMode rfl (fun pm cd doc vs h => by obtain ⟨a,rfl⟩ := of1 h; with_unfolding_all rfl) (by decide) (by decide) fun A env hb hA O hs => ?_
  have T := TbX.ok g.T X
  have hn : NsOk modeN := ⟨by decide,by decide,by decide⟩
  have hkk := O.kind
  have hL := O.hL
  show ST w N (TbX Top X) A env (Wr env modeN X) (Cx N X hb env modeN [some (.int m)]) (_ :: []) _
  refine ST.last (SX.ret (fun h c => c.base) ?_)
  walk_at "m"
noncomputable abbrev fmtN : List Str := [Str.ofString "mode"]
theorem fmt_fn (g : GX N Top) (m : Int) : FN w N X (TbX Top X) g.fFmt 1 [.int m] (.int (Builtin.bitAnd m 61440)) := by
  refine FN.def (d := 0) (prm := [Str.ofString "mode"]) (loc := []) g.T g.dFmt rfl (fun pm cd doc vs h => by obtain ⟨a,rfl⟩ := of1 h; with_unfolding_all rfl) (by decide) (by decide) fun A env hb hA O hs => ?_
  have T := TbX.ok g.T X
  have hn : NsOk fmtN := ⟨by decide,by decide,by decide⟩
  have hkk := O.kind
  have hL := O.hL
  show ST w N (TbX Top X) A env (Wr env fmtN X) (Cx N X hb env fmtN [some (.int m)]) (_ :: []) _
  refine ST.last (SX.ret (fun h c => c.base) ?_)
  walk_at "m"
noncomputable abbrev doneN : List Str := [Str.ofString "number",Str.ofString "x",Str.ofString "many",Str.ofString "mask",Str.ofString "read",Str.ofString "write"]
theorem done_fn (g : GX N Top) {F : Int -> Int} {many number x : Int} {d : Nat} (hall : ∀ m,0 <= m -> m < 4096 -> FN w N X (TbX Top X) g.fAll d [.int m, .int many] (.int (F m))) : FN w N X (TbX Top X) g.fDone (d + 1) [.int number, .int x, .int many] (.int (doneOf F number x)) := by
  refine FN.def (d := d) (prm := [Str.ofString "number",Str.ofString "x",Str.ofString "many"]) (loc := [Str.ofString "mask",Str.ofString "read",Str.ofString "write"]) g.T g.dDone rfl (fun pm cd doc vs h => by obtain ⟨a,b,c,rfl⟩ := of3 h; with_unfolding_all rfl) (by decide) (by decide) fun A env hb hA O hs => ?_
  have T := TbX.ok g.T X
  have hn : NsOk doneN := ⟨by decide,by decide,by decide⟩
  have hkk := O.kind
  have hL := O.hL
  show ST w N (TbX Top X) A env (Wr env doneN X) (Cx N X hb env doneN [some (.int number),some (.int x),some (.int many),none,none,none]) (_ :: _ :: _ :: _ :: _ :: []) _
  by_cases hc : x.fmod 4 < 2
  . unfold doneOf
    rw [if_pos hc]
    refine ST.retd (SX.iff (c := decide (x.fmod 4 < 2)) ?i1 ?i2 (fun _ => ?i3) (fun e => absurd (of_decide_eq_false e) (by simpa using hc)))
    case i1 => walk_at "m"
    case i2 => walk_at "m"
    case i3 =>
      show ST w N (TbX Top X) A env (Wr env doneN X) (Cx N X hb env doneN [some (.int number),some (.int x),some (.int many),none,none,none]) (_ :: _ :: []) _
      refine ST.seq (C' := Cx N X hb env doneN [some (.int number),some (.int x),some (.int many),some (.int (F ((x.fdiv 4).fmod 4096))),none,none]) (SX.assign (ns := doneN) (vals := [some (.int number),some (.int x),some (.int many),none,none,none]) (i := 3) (p := .int (F ((x.fdiv 4).fmod 4096))) T O ?zdoneN1 ?zdoneN2 hn ?zdoneN3 ?zdoneN4) ?_
      case zdoneN2 => walk_at "m"
      case zdoneN3 => rw [Env.kindOf,hs]; decide
      case zdoneN4 => exact swaps_no rfl
      case zdoneN1 =>
        refine EV.callD ?g0 O.kind O.glob ?g1 g.dAll (EVs.cons (p := .int ((x.fdiv 4).fmod 4096)) ?g0s ?g0e (EVs.cons (p := .int many) ?g1s ?g1e EVs.nil rfl) rfl) (hall _ (Int.fmod_nonneg_of_pos _ (by decide)) (Int.fmod_lt_of_pos _ (by decide))) (hA.less (by lia))
        case g0 => walk_at "m"
        case g1 => rw [Env.kindOf,hs]; decide
        case g0s => walk_at "m"
        case g0e => walk_at "m"
        case g1s => walk_at "m"
        case g1e => walk_at "m"
      refine ST.last (SX.ret (fun h c => c.base) ?y1)
      apply EV.conv
      case h => walk_at "m"
      case he => simp only [beq_iff_eq]
  . unfold doneOf
    rw [if_neg hc]
    refine ST.seq (C' := Cx N X hb env doneN [some (.int number),some (.int x),some (.int many),none,none,none]) (SX.iff (c := decide (x.fmod 4 < 2)) ?j1 ?j2 (fun e => absurd (of_decide_eq_true e) hc) (fun _ => ST.nilN)) ?_
    case j1 => walk_at "m"
    case j2 => walk_at "m"
    refine ST.seq (C' := Cx N X hb env doneN [some (.int number),some (.int x),some (.int many),none,some (.int (F 292)),none]) (SX.assign (ns := doneN) (vals := [some (.int number),some (.int x),some (.int many),none,none,none]) (i := 4) (p := .int (F 292)) T O ?zdoneN5 ?zdoneN6 hn ?zdoneN7 ?zdoneN8) ?_
    case zdoneN6 => walk_at "m"
    case zdoneN7 => rw [Env.kindOf,hs]; decide
    case zdoneN8 => exact swaps_no rfl
    case zdoneN5 =>
      refine EV.callD ?g0 O.kind O.glob ?g1 g.dAll (EVs.cons (p := .int 292) ?g0s ?g0e (EVs.cons (p := .int many) ?g1s ?g1e EVs.nil rfl) rfl) (hall _ (by decide) (by decide)) (hA.less (by lia))
      case g0 => walk_at "m"
      case g1 => rw [Env.kindOf,hs]; decide
      case g0s => walk_at "m"
      case g0e => walk_at "m"
      case g1s => walk_at "m"
      case g1e => walk_at "m"
    by_cases hd : x.fmod 4 = 2
    . rw [if_pos hd]
      refine ST.retd (SX.iff (c := (x.fmod 4 == 2)) ?k1 ?k2 (fun _ => ?k3) (fun e => absurd hd (by simpa using e)))
      case k1 => walk_at "m"
      case k2 => walk_at "m"
      case k3 =>
        refine ST.last (SX.ret (fun h c => c.base) ?_)
        walk_at "m"
    . rw [if_neg hd]
      refine ST.seq (C' := Cx N X hb env doneN [some (.int number),some (.int x),some (.int many),none,some (.int (F 292)),none]) (SX.iff (c := (x.fmod 4 == 2)) ?l1 ?l2 (fun e => absurd (by simpa using e) hd) (fun _ => ST.nilN)) ?_
      case l1 => walk_at "m"
      case l2 => walk_at "m"
      refine ST.seq (C' := Cx N X hb env doneN [some (.int number),some (.int x),some (.int many),none,some (.int (F 292)),some (.int (F 146))]) (SX.assign (ns := doneN) (vals := [some (.int number),some (.int x),some (.int many),none,some (.int (F 292)),none]) (i := 5) (p := .int (F 146)) T O ?zdoneN9 ?zdoneN10 hn ?zdoneN11 ?zdoneN12) ?_
      case zdoneN10 => walk_at "m"
      case zdoneN11 => rw [Env.kindOf,hs]; decide
      case zdoneN12 => exact swaps_no rfl
      case zdoneN9 =>
        refine EV.callD ?g0 O.kind O.glob ?g1 g.dAll (EVs.cons (p := .int 146) ?g0s ?g0e (EVs.cons (p := .int many) ?g1s ?g1e EVs.nil rfl) rfl) (hall _ (by decide) (by decide)) (hA.less (by lia))
        case g0 => walk_at "m"
        case g1 => rw [Env.kindOf,hs]; decide
        case g0s => walk_at "m"
        case g0e => walk_at "m"
        case g1s => walk_at "m"
        case g1e => walk_at "m"
      refine ST.last (SX.ret (fun h c => c.base) ?_)
      walk_at "m"
end
end
section
set_option autoImplicit false
noncomputable def FNP (w : World) (N : Nat) (X : List Addr) (Tb : Heap -> Prop) (f : Addr) (d : Nat) (Pre : Heap -> Prop) (ps : List PV) (r : PV) : Prop :=
  ∀ A,AOk A d -> ∀ vs,GV w N Tb A (fun h => IsL X h vs ps ∧ Pre h) (call (.ref f) vs) (IsP X r)
theorem zip_lookup (ns : List Str) (vs : List Value) {i : Nat} {x : Str} {v : Value} (hn : ns.Nodup) (hx : ns[i]? = some x) (hv : vs[i]? = some v) : (ns.zip vs).reverse.lookup x = some v := by
  induction ns generalizing vs i with
  | nil => rw [List.getElem?_nil] at hx; cases hx
  | cons n ns ih =>
    cases vs with
    | nil => rw [List.getElem?_nil] at hv; cases hv
    | cons u vs =>
      rw [List.zip_cons_cons,List.reverse_cons,List.lookup_append]
      cases i with
      | zero =>
        obtain rfl := Option.some.inj (show some n = some x from hx)
        obtain rfl := Option.some.inj (show some u = some v from hv)
        have : (ns.zip vs).reverse.lookup n = none := by
          rw [List.lookup_eq_none_iff]
          intro p hp
          have := mem_zip_fst (List.mem_reverse.mp hp)
          have hne : p.1 ≠ n := fun e => (List.nodup_cons.mp hn).1 (e ▸ this)
          simpa using Ne.symm hne
        rw [this]; simp
      | succ i => rw [ih vs (List.nodup_cons.mp hn).2 hx hv]; rfl
section
variable {w : World} {N : Nat} {X : List Addr} {Tb : Heap -> Prop} {A : Around} {env : Env} {hb : Heap} {C : Heap -> Prop}
theorem FNP.mk (T : TbOk N X Tb) {f : Addr} {fd : FuncData} {body : List Stmt} {d : Nat} {prm loc fr : List Str} {ps fv : List PV} {r : PV} {Pre : Heap -> Prop} (D : DefAt Tb f fd) (hcd : ∀ h,Tb h -> h.CodeRec fd.code fd.qualname) (hbody : fd.body = .stmts body)
    (hgl : fd.globals = mainGlobals) (hbu : fd.builtins = builtinsNs) (hlen : prm.length = ps.length) (hlf : fr.length = fv.length)
    (hbind : ∀ vs : List Value,vs.length = prm.length -> bindArgs fd ⟨vs, []⟩ = pure (prm.zip vs)) (hn : prm.Nodup)
    (hcell : ∀ x ∈ fd.scope.names,x.2 ≠ .cell)
    (hkind : ∀ x ∈ prm ++ loc,fd.scope.names.lookup x = some .local) (hfr : ∀ x ∈ fr,fd.scope.names.lookup x = some .free)
    (hpre : ∀ h,Pre h -> Tb h -> ∀ (i : Nat) x p,fr[i]? = some x -> fv[i]? = some p -> ∃ c v,fd.closure.lookup x = some c ∧ N <= c ∧ h.IsCell c (some v) ∧ Is X h v p)
    (hbd : ∀ A env hb,AOk A d -> BlkOk N hb env -> env.scope = fd.scope -> env.code = fd.code -> env.cells = fd.closure -> Pre hb -> ST w N Tb A env (Wr env (prm ++ (loc ++ fr)) X) (Cx N X hb env (prm ++ (loc ++ fr)) (ps.map some ++ ((loc.map fun _ => none) ++ fv.map some))) body (fun fl h => ∃ v,(match fl with | .ret v => v | _ => .none) = v ∧ Is X h v r ∧ Nx N hb h))
    (hco : fd.scope.isCoroutine = false := by rfl) (hgen : fd.scope.isGenerator = false := by rfl) (hk : fd.scope.kind = .function := by rfl) : FNP w N X Tb f (d + 1) Pre ps r := by
  intro A hA vs
  constructor
  intro s Q E ⟨iv,pre⟩ t k
  obtain ⟨o,hdat,ho⟩ := D
  have hvl : vs.length = prm.length := by rw [iv.length,hlen]
  refine wpAny_call (codeAny_call_function (by have := hA.dp; show A.depth < 1000; lia) (ho _ t) hdat hco hgen hbody (hcd _ t) ?_)
  rw [hbind vs hvl]
  refine wpAny_pure (wpAny_newFunctionEnv hcell (fun y hy => hkind y.1 (List.mem_append.mpr (.inl (mem_zip_fst hy)))) (fun h₁ hns hsb => ?_) hk)
  have hz1 : (s.heap.push { cls := .type "frame",data := .dict #[] }).objs.size = s.heap.objs.size + 1 := Heap.size_push ..
  have hsb' : Heap.SameBut s.heap.objs.size (s.heap.push { cls := .type "frame",data := .dict #[] }) h₁ := hsb
  have hz : s.heap.objs.size <= h₁.objs.size := by rw [hsb'.1]; lia
  have keep : ∀ b o,s.heap.get? b = some o -> h₁.get? b = some o := fun b o e => (hsb'.2 b (Nat.ne_of_lt (Heap.lt_size e))).trans (Heap.get?_push_of_some _ e)
  have hN : N <= s.heap.objs.size := T.size _ t
  have t₁ : Tb h₁ := T.keep _ _ keep hz t
  have n₁ : Nx N s.heap h₁ := .of_keep keep hz
  generalize henv : newEnv fd.scope s.heap.objs.size fd.globals fd.closure (fd.qualname ++ ".<locals>.") (some f) fd.code none fd.builtins = env
  have eL : env.locals = s.heap.objs.size := by rw [<- henv]; rfl
  have eS : env.scope = fd.scope := by rw [<- henv]; rfl
  have eC : env.cells = fd.closure := by rw [<- henv]; rfl
  have B : BlkOk N s.heap env := ⟨by rw [eS]; exact hk,by rw [<- henv]; exact hgl,by rw [<- henv]; exact hbu,by rw [eL]; exact Nat.le_refl _,hN⟩
  have hA' : AOk (A.deeper env) d := ⟨hA.hd,by have := hA.dp; show A.depth + 1 + d < 700; lia,by have := hA.un; show A.units + 3 + 100 * d < 5000; lia⟩
  refine ⟨T.limit _ t₁,codeAny_func ?_⟩
  refine (hbd _ _ s.heap hA' B eS (by rw [<- henv]; rfl) eC pre).run _ _ _ ⟨n₁,⟨_,eL ▸ hns⟩,fun i y hy => ?_⟩ t₁ fun fl h' tk' fx t' hr => ?_
  . by_cases hi : i < prm.length
    . have hy' : prm[i]? = some y := by rw [List.getElem?_append_left hi] at hy; exact hy
      have hkl : env.kindOf y = some .local := by rw [Env.kindOf,eS]; exact hkind y (List.mem_append.mpr (.inl (List.mem_of_getElem? hy')))
      refine ⟨_, .inl ⟨hkl, _,eL ▸ hns,rfl⟩,fun p hp => ?_⟩
      rw [List.getElem?_append_left (by rw [List.length_map, <- hlen]; exact hi),List.getElem?_map] at hp
      cases hpi : ps[i]? with
      | none => rw [hpi] at hp; cases hp
      | some q =>
        rw [hpi] at hp; cases hp
        obtain ⟨v,hv,hiv⟩ := iv.get' hpi
        exact ⟨v,zip_lookup _ _ hn hy' hv, .inl (hiv.nx n₁)⟩
    . rw [List.getElem?_append_right (Nat.not_lt.mp hi)] at hy
      have hvals : (ps.map some ++ ((loc.map fun _ => (none : Option PV)) ++ fv.map some))[i]? = ((loc.map fun _ => (none : Option PV)) ++ fv.map some)[i - prm.length]? := by
        rw [List.getElem?_append_right (by rw [List.length_map, <- hlen]; exact Nat.not_lt.mp hi),List.length_map,hlen]
      rw [hvals]
      generalize i - prm.length = j at hy
      by_cases hj : j < loc.length
      . rw [List.getElem?_append_left hj] at hy
        have hkl : env.kindOf y = some .local := by rw [Env.kindOf,eS]; exact hkind y (List.mem_append.mpr (.inr (List.mem_of_getElem? hy)))
        refine ⟨_, .inl ⟨hkl, _,eL ▸ hns,rfl⟩,fun p hp => ?_⟩
        rw [List.getElem?_append_left (by simpa using hj),List.getElem?_map] at hp
        cases hq : loc[j]? with
        | none => rw [hq] at hp; cases hp
        | some z => rw [hq] at hp; cases hp
      . rw [List.getElem?_append_right (Nat.not_lt.mp hj)] at hy
        rw [List.getElem?_append_right (by simpa using Nat.not_lt.mp hj),List.length_map]
        generalize j - loc.length = m at hy
        have hkf : env.kindOf y = some .free := by rw [Env.kindOf,eS]; exact hfr y (List.mem_of_getElem? hy)
        have hm : m < fv.length := by rw [<- hlf]; exact (List.getElem?_eq_some_iff.mp hy).1
        obtain ⟨c,v,hc,hNc,hcv,hiv⟩ := hpre _ pre t m y _ hy (List.getElem?_eq_getElem hm)
        refine ⟨some v, .inr ⟨.inr hkf,c,by rw [eC]; exact hc,hNc,hcv.keeps keep⟩,fun p hp => ?_⟩
        rw [List.getElem?_map,List.getElem?_eq_getElem hm] at hp
        cases hp
        exact ⟨v,rfl, .inl (hiv.nx n₁)⟩
  . obtain ⟨v,hv,hi,hnx⟩ := hr
    subst hv
    exact k _ h' tk' hnx t' hi
theorem SX.assignL {ns : List Str} {vals : List (Option PV)} (T : TbOk N X Tb) (O : BlkOk N hb env) {x : Str} {px pos : Pos} {e : Expr} {i : Nat} {p : PV} (h : EV w N Tb A env (Cx N X hb env ns vals) e (IsP X p)) (hx : Ix ns x i) (hn : NsOk ns) (hkx : env.kindOf x = some .local)
    (hs : swapsWith e (some (.Name x px)) pos.line env = pure false) :
    SX w N Tb A env (Wr env ns X) (Cx N X hb env ns vals) (.Assign [.Name x px] e pos) (Nxt (Cx N X hb env ns (vals.set i (some p)))) := by
  constructor
  intro s Q E c t k
  refine wpAny_Assign_Name (h.run s _ E c t fun v h₁ t₁ n₁ T₁ i₁ => ?_) hs
  exact store' T O hx hn.nodup (.inl hkx) (Cx.stb O.hL _ _ c n₁) T₁ i₁ fun h₂ t₂ f₂ T₂ c₂ => k _ h₂ t₂ (n₁.fx.trans (f₂.sub Wr.mono)) T₂ ⟨rfl,c₂⟩
end
end
section
set_option autoImplicit false
noncomputable def TbF (Tb : Heap -> Prop) (f : Addr) (o : Obj) (cv : Value) (qual : Str) : Heap -> Prop := fun h => Tb h ∧ h.get? f = some o ∧ h.CodeRec cv qual
theorem TbF.ok {N : Nat} {X : List Addr} {Tb : Heap -> Prop} {f : Addr} {o : Obj} {cv : Value} {qual : Str} {fd : FuncData} (T : TbOk N X Tb) (ho : o.data = .func fd) : TbOk N X (TbF Tb f o cv qual) where
  keep := fun h h' k z x => ⟨T.keep h h' k z x.1,k _ _ x.2.1,x.2.2.keeps k⟩
  upd := fun h h' a oa n e c k z x => ⟨T.upd h h' a oa n e c k z x.1,k _ _ (by rintro rfl; rw [x.2.1] at e; cases e; exact c.1 _ ho) x.2.1,by
    obtain ⟨q,oc,vs,t,e1,e2,e3,e4⟩ := x.2.2
    exact ⟨q,oc,vs,t,e1,k _ _ (by rintro rfl; rw [e2] at e; cases e; exact c.2 _ e3 _ _ e4) e2,e3,e4⟩⟩
  size := fun h x => T.size h x.1
  low := fun h x => T.low h x.1
  limit := fun h x => T.limit h x.1
structure Nest (N : Nat) (Tb : Heap -> Prop) (cd : Value) (pos : Pos) (qual : Str) (c P : Addr) : Prop where
  cd : cd = .ref c
  low : P < N
  gl : mainGlobals ≠ P
  code : ∀ h,Tb h -> CodeHd h c P
  glob : ∀ h,Tb h -> ∃ mg,h.Ns mainGlobals mg ∧ h.BuiltinsAt mg P
  tab : ∀ h,Tb h -> ∃ ps,h.get? P = some (tabObj ps) ∧ TriplesOk ps.toList ∧ (codeAmong pos ps.toList = none ∨ ∃ c',codeAmong pos ps.toList = some (.ref c') ∧ h.CodeRec (.ref c') qual)
  upd : ∀ h h' ps c',Tb h -> h.get? P = some (tabObj ps) -> codeAmong pos ps.toList = none -> Heap.ExtBut P h h' -> h.objs.size <= h'.objs.size -> h'.get? P = some (tabObj (ps ++ #[rawInt pos.line,rawInt pos.col, .ref c'])) -> h'.CodeRec (.ref c') qual -> Tb h'
section
variable {w : World} {N : Nat} {X : List Addr} {Tb : Heap -> Prop} {A : Around} {env : Env} {hb : Heap} {C : Heap -> Prop}
theorem ST.nest {ns : List Str} {vals : List (Option PV)} (T : TbOk N X Tb) (O : EnvOk N hb env) {name : Str} {params : Arguments} {body : List Stmt} {scope : Scope} {pos : Pos} {i : Nat} {rest : List Stmt} {R : Flow -> Heap -> Prop} {c P : Addr} {clos : List (Str × Addr)}
    (Ne : Nest N Tb env.code pos (qualnameIn env name name) c P) (hd0 : params.defaults = []) (hk0 : params.kw_defaults = []) (ha : annTrees params none env = [])
    (hclos : ∀ h,Cx N X hb env ns vals h -> closureFor scope env = pure clos) (hx : Ix ns name i) (hn : NsOk ns) (hkx : env.kindOf name ≠ some .free)
    (hrest : ∀ (f : Addr) doc pm cv ctv,N <= f -> f ∉ X -> ST w N (TbF Tb f { cls := .type "function",data := .func (fnX name (qualnameIn env name name) params body scope clos .none .none doc pm none cv ctv) } cv (qualnameIn env name name)) A env (Wr env ns X) (Cx N X hb env ns (vals.set i (some (.raw (.ref f))))) rest R) :
    ST w N Tb A env (Wr env ns X) (Cx N X hb env ns vals) (.FunctionDef name params body [] none [] scope none name pos :: rest) R := by
  constructor
  intro s Q E cx t k
  have hclo := hclos _ cx
  refine wpAny_execs_cons (nestDef_K hd0 hk0 ha ?_)
  obtain ⟨mg,hg,hbu⟩ := Ne.glob _ t
  obtain ⟨ps,hP,htr,hcase⟩ := Ne.tab _ t
  have hN : N <= s.heap.objs.size := T.size _ t
  have key : ∀ (h' : Heap) (tk : Tok) (doc cv ctv : Value),Nx N s.heap h' -> Tb h' -> h'.CodeRec cv (qualnameIn env name name) ->
      wpAny (MM w) A (storeName env name (.ref h'.objs.size)) (fun _ s'' => (match Flow.next with | .next => wpAny (MM w) A (execs rest env) Q E s'' | f => Q f s'')) E
        { s with heap := h'.push { cls := .type "function",data := .func (fnX name (qualnameIn env name name) params body scope clos .none .none doc ((mg "__name__").getD .none) none cv ctv) },toks := tk } := by
    intro h' tk doc cv ctv n₁ T₁ hrec
    have n₂ : Nx N s.heap (h'.push { cls := .type "function",data := .func (fnX name (qualnameIn env name name) params body scope clos .none .none doc ((mg "__name__").getD .none) none cv ctv) }) := n₁.trans (.push _ _)
    have TF := TbF.ok (f := h'.objs.size) (o := { cls := .type "function",data := .func (fnX name (qualnameIn env name name) params body scope clos .none .none doc ((mg "__name__").getD .none) none cv ctv) }) (cv := cv) (qual := qualnameIn env name name) T rfl
    refine store TF O hx hn.nodup hkx (Cx.stb O.hL _ _ cx n₂) ⟨T.push T₁ _,Heap.get?_push_size _ rfl,hrec.keeps fun b o e => Heap.get?_push_of_some _ e⟩ (.raw _) fun h₂ t₂ f₂ T₂ c₂ => ?_
    exact (hrest h'.objs.size doc _ cv ctv (Nat.le_trans hN n₁.sz) (T.fresh T₁)).run _ _ E c₂ T₂ fun f h₃ t₃ f₃ T₃ r => k f h₃ t₃ (n₂.fx.trans (f₂.trans f₃)) T₃.1 r
  rcases hcase with hnf | ⟨c',hf,hrec⟩
  . refine makeFunction_K hclo O.glob hg Ne.cd (Ne.code _ t) hP htr hnf Ne.gl hbu fun c' ctv doc h' tk hext hge hlt hrec htb => ?_
    have hsz : s.heap.objs.size <= h'.objs.size := Nat.le_of_lt (Nat.lt_of_le_of_lt hge hlt)
    refine key h' tk doc _ ctv ⟨fun b o e hb' => hext b o (fun e' => ?_) e,hsz⟩ (Ne.upd _ _ _ _ t hP hnf hext hsz htb hrec) hrec
    subst e'
    rw [hP] at e; cases e
    rcases hb' with h1 | h1
    . exact absurd h1 (Nat.not_le.mpr Ne.low)
    . exact h1 rfl
  . exact makeFunction_hit hclo O.glob hg Ne.cd (Ne.code _ t) hP htr hf hbu fun ctv doc h' tk hk hsz => key h' tk doc _ ctv (.of_keep hk hsz) (T.keep _ _ hk hsz t) (hrec.keeps hk)
end
end
section
set_option autoImplicit false
noncomputable def FrOk (N : Nat) (X : List Addr) (clos : List (Str × Addr)) (fr : List Str) (fv : List PV) (h : Heap) : Prop :=
  ∀ (i : Nat) x p,fr[i]? = some x -> fv[i]? = some p -> ∃ c v,clos.lookup x = some c ∧ N <= c ∧ h.IsCell c (some v) ∧ Is X h v p
theorem FrOk.stb {N : Nat} {X : List Addr} {clos : List (Str × Addr)} {fr : List Str} {fv : List PV} : Stb N (FrOk N X clos fr fv) := fun h h' x n i y p hy hp =>
  let ⟨c,v,a,b,d,e⟩ := x i y p hy hp; ⟨c,v,a,b,n.cell b d,e.nx n⟩
section
variable {w : World} {N : Nat} {X : List Addr} {Tb : Heap -> Prop} {A : Around} {env : Env} {hb : Heap} {C : Heap -> Prop}
theorem Cx.fr {ns : List Str} {vals : List (Option PV)} {clos : List (Str × Addr)} {fr : List Str} {fv : List PV} {h : Heap} (c : Cx N X hb env ns vals h)
    (hf : ∀ (i : Nat) x p,fr[i]? = some x -> fv[i]? = some p -> ∃ j : Nat,ns[j]? = some x ∧ vals[j]? = some (some p) ∧ notOwn p = true ∧ (env.kindOf x = some .cell ∨ env.kindOf x = some .free) ∧ ∀ a,env.cells.lookup x = some a -> clos.lookup x = some a) : FrOk N X clos fr fv h := by
  intro i x p hx hp
  obtain ⟨j,hj,hv,hno,hk,hl⟩ := hf i x p hx hp
  obtain ⟨u,su,hu⟩ := c.slot j x hj
  obtain ⟨v,rfl,iv⟩ := hu p hv
  rcases su with ⟨kx, _⟩ | ⟨kx,a,ha,hN,hcell⟩
  . rcases hk with h1 | h1 <;> (rw [h1] at kx; cases kx)
  . exact ⟨a,v,hl a ha,hN,hcell,iv.is hno⟩
theorem EV.callP {fe : Expr} {pos : Pos} {e : Expr} {es : List Expr} {ps : List PV} {r : PV} {f : Addr} {d : Nat} {fd : FuncData} {Pre : Heap -> Prop} (hC : Stb N C) (hname : EV w N Tb A env C fe (IsP X (.raw (.ref f))))
    (D : DefAt Tb f fd) (ha : EVs w N X Tb A env C pos (e :: es) ps) (F : FNP w N X Tb f d Pre ps r) (hp : ∀ h,C h -> Pre h) (hA : AOk A d)
    (he : starEach (e :: es) env = (false,eval e env) :: starEach es env) (hcall : ∀ (s : Shared) (Q E : Value -> Shared -> Prop),wpAny (MM w) A (eval fe env) (fun v s₁ => wpAny (MM w) A (callWith pos v [] (backTo pos (starEach (e :: es) env)) []) Q E s₁) E s -> wpAny (MM w) A (eval (.Call fe (e :: es) [] pos) env) Q E s) :
    EV w N Tb A env C (.Call fe (e :: es) [] pos) (IsP X r) := by
  constructor
  intro s Q E c t k
  obtain ⟨o,hdat,ho⟩ := D
  refine hcall s Q E (hname.run s _ E c t fun v h₁ t₁ n₁ T₁ hv => ?_)
  obtain rfl := Is.raw_inv hv
  rw [he]
  refine callWith_function (o := o) (fd := fd) (evalArgs_plain ?_)
  show wpAny (MM w) A (spliced (backTo pos ((false,eval e env) :: starEach es env))) _ E _
  rw [<- he]
  exact ha.run _ _ E (hC _ _ c n₁) T₁ fun vs h₂ t₂ n₂ T₂ i₂ => ⟨⟨ho _ T₂,hdat⟩,(F A hA vs).run _ _ E ⟨i₂,hp _ (hC _ _ c (n₁.trans n₂))⟩ T₂ fun v h₃ t₃ n₃ T₃ i₃ => k v h₃ t₃ ((n₁.trans n₂).trans n₃) T₃ i₃⟩
end
noncomputable def d2i : List Int -> Int
  | [] => 0
  | d :: ds => d + d2i ds * 65536
theorem pow16 (k : Nat) : (2 : Int) ^ ((k + 1) * 16) = 2 ^ (k * 16) * 65536 := by
  rw [Nat.add_mul,Nat.one_mul,Int.pow_add]; rfl
theorem d2i_append : ∀ xs ys : List Int,d2i (xs ++ ys) = d2i ys * 2 ^ (xs.length * 16) + d2i xs
  | [],ys => by simp [d2i]
  | x :: xs,ys => by
    rw [List.cons_append,d2i,d2i,d2i_append xs ys,List.length_cons,pow16,Int.add_mul,Int.mul_assoc]
    lia
noncomputable def Dig (xs : List Int) : Prop := ∀ d ∈ xs,0 <= d ∧ d < 65536
theorem d2i_bound : ∀ xs : List Int,Dig xs -> 0 <= d2i xs ∧ d2i xs < 2 ^ (xs.length * 16)
  | [], _ => by simp [d2i]
  | x :: xs,h => by
    obtain ⟨h1,h2⟩ := d2i_bound xs fun d hd => h d (List.mem_cons_of_mem _ hd)
    obtain ⟨h3,h4⟩ := h x List.mem_cons_self
    rw [d2i,List.length_cons,pow16]
    generalize (2 : Int) ^ (xs.length * 16) = P at *
    lia
theorem intBits_lt {x : Int} {k : Nat} (h0 : 0 <= x) (h : x < 2 ^ k) : Builtin.Int.intBits x <= k := by
  unfold Builtin.Int.intBits
  split
  . exact Nat.zero_le _
  . rename_i hne
    have hne' : x.natAbs ≠ 0 := by simpa using hne
    have : x.natAbs < 2 ^ k := by
      have e : ((x.natAbs : Nat) : Int) = x := Int.natAbs_of_nonneg h0
      have : ((x.natAbs : Nat) : Int) < ((2 ^ k : Nat) : Int) := by rw [e]; push_cast; exact h
      exact_mod_cast this
    exact (Nat.log2_lt hne').mpr this
end
section
set_option autoImplicit false
noncomputable def innerOf (i : Nat) : Stmt := ((bodyOf (stmtAt i)).find? fun s => match s with | .FunctionDef .. => true | _ => false).getD default
theorem take_one {ds : List Int} {L : Nat} (h : L < ds.length) : (ds.drop L).take 1 = [ds.getD L 0] := by
  rw [List.drop_eq_getElem_cons h,List.take_succ_cons,List.take_zero,List.getD_eq_getElem?_getD,List.getElem?_eq_getElem h]; rfl
theorem take_split (ds : List Int) (L m k : Nat) (h : m <= k) : (ds.drop L).take k = (ds.drop L).take m ++ (ds.drop (L + m)).take (k - m) := by
  rw [<- List.drop_drop]
  have : k = m + (k - m) := by lia
  conv => lhs; rw [this]
  rw [List.take_add]
theorem Dig.sub {ds : List Int} (h : Dig ds) (L k : Nat) : Dig ((ds.drop L).take k) := fun d hd => h d (List.mem_of_mem_drop (List.mem_of_mem_take hd))
section
variable {w : World} {N : Nat} {X : List Addr} {Tb : Heap -> Prop} {Top : Heap -> Prop} {A : Around} {env : Env} {hb : Heap} {C : Heap -> Prop}
theorem ST.weak {W : List Addr} {body : List Stmt} {R R' : Flow -> Heap -> Prop} (h : ST w N Tb A env W C body R) (hr : ∀ f g,R f g -> R' f g) : ST w N Tb A env W C body R' :=
  ⟨fun s Q E c t k => h.run s Q E c t fun f h' tk fx t' r => k f h' tk fx t' (hr _ _ r)⟩
noncomputable abbrev in5N : List Str := [Str.ofString "L",Str.ofString "R",Str.ofString "mid",Str.ofString "shift",Str.ofString "digits",Str.ofString "inner",Str.ofString "n"]
theorem inner5 (T : TbOk N X Tb) {f : Addr} {qual : Str} {clos : List (Str × Addr)} {doc pm cv ctv : Value}
    (D : DefAt Tb f (fnX (Str.ofString "inner") qual (paramsOf (innerOf 5)) (bodyOf (innerOf 5)) (scopeOf (innerOf 5)) clos .none .none doc pm none cv ctv)) (hcd : ∀ h,Tb h -> h.CodeRec cv qual)
    (ds : List Int) (hd : Dig ds) (hl : ds.length <= 40) : ∀ (k L : Nat),0 < k -> L + k <= ds.length ->
    FNP w N X Tb f k (FrOk N X clos [Str.ofString "digits",Str.ofString "inner",Str.ofString "n"] [.list (ds.map .int), .raw (.ref f), .int 16]) [.int (L : Nat), .int ((L + k : Nat) : Int)] (.int (d2i ((ds.drop L).take k))) := by
  intro k
  induction k using Nat.strongRecOn with
  | _ k ih =>
    intro L hk hL
    obtain ⟨d,rfl⟩ : ∃ d,k = d + 1 := ⟨k - 1,by lia⟩
    refine FNP.mk (prm := [Str.ofString "L",Str.ofString "R"]) (loc := [Str.ofString "mid",Str.ofString "shift"]) (fr := [Str.ofString "digits",Str.ofString "inner",Str.ofString "n"]) (fv := [.list (ds.map .int), .raw (.ref f), .int 16]) T D hcd rfl rfl rfl rfl rfl (fun vs h => by obtain ⟨a,b,rfl⟩ := of2 h; with_unfolding_all rfl) (by decide) (show ∀ x ∈ (scopeOf (innerOf 5)).names,x.2 ≠ .cell by decide) (show ∀ x ∈ [Str.ofString "L",Str.ofString "R"] ++ [Str.ofString "mid",Str.ofString "shift"],(scopeOf (innerOf 5)).names.lookup x = some .local by decide) (show ∀ x ∈ [Str.ofString "digits",Str.ofString "inner",Str.ofString "n"],(scopeOf (innerOf 5)).names.lookup x = some .free by decide) (fun h p t => p) ?_
    intro A env hb hA O hs hcode hcells hpre
    have hs : env.scope = scopeOf (innerOf 5) := hs
    have hcells : env.cells = clos := hcells
    refine ST.weak (R := Ret N X hb (.int (d2i ((ds.drop L).take (d + 1))))) ?_ (fun fl g ⟨v,e,iv,nx⟩ => ⟨v,by rw [e],iv,nx⟩)
    have hn : NsOk in5N := ⟨by decide,by decide,by decide⟩
    have hkk := O.kind
    have hLL := O.hL
    show ST w N Tb A env (Wr env in5N X) (Cx N X hb env in5N [some (.int (L : Nat)),some (.int ((L + (d + 1) : Nat) : Int)),none,none,some (.list (ds.map .int)),some (.raw (.ref f)),some (.int 16)]) (_ :: _ :: _ :: _ :: []) _
    by_cases h1 : d = 0
    . subst h1
      refine ST.retd (SX.iff (c := ((L : Int) + 1 == ((L + (0 + 1) : Nat) : Int))) ?i1 ?i2 (fun _ => ?i3) (fun e => absurd e (by simp)))
      case i1 => walk_at "m"
      case i2 => walk_at "m"
      case i3 =>
        rw [take_one (by lia)]
        refine ST.last (SX.ret (fun h c => c.base) (EV.conv (p := .int (ds.getD L 0)) ?j1 (by simp [d2i])))
        refine EV.sub ?j2 ?j3 ?j4 (IT.list (j := (L : Int)) (by lia) (by lia) (ints_get (by lia))) trivial
        case j2 => walk_at "m"
        case j3 => walk_at "m"
        case j4 => walk_at "m"
    . have hmid : ((L : Int) + ((L + (d + 1) : Nat) : Int)).fdiv (2 ^ (1 : Int).toNat) = ((L + (d + 1) / 2 : Nat) : Int) := by
        show ((L : Int) + ((L + (d + 1) : Nat) : Int)).fdiv 2 = _
        rw [Int.fdiv_eq_ediv_of_nonneg _ (by decide)]; lia
      generalize hm : (d + 1) / 2 = m at hmid
      have m1 : 0 < m := by lia
      have m2 : m < d + 1 := by lia
      refine ST.seq (C' := Cx N X hb env in5N [some (.int (L : Nat)),some (.int ((L + (d + 1) : Nat) : Int)),none,none,some (.list (ds.map .int)),some (.raw (.ref f)),some (.int 16)]) (SX.iff (c := ((L : Int) + 1 == ((L + (d + 1) : Nat) : Int))) ?i1 ?i2 (fun e => absurd (eq_of_beq e) (by lia)) (fun _ => ST.nilN)) ?_
      case i1 => walk_at "m"
      case i2 => walk_at "m"
      refine ST.seq (C' := Cx N X hb env in5N [some (.int (L : Nat)),some (.int ((L + (d + 1) : Nat) : Int)),some (.int ((L + m : Nat) : Int)),none,some (.list (ds.map .int)),some (.raw (.ref f)),some (.int 16)]) (SX.assignL (ns := in5N) (vals := [some (.int (L : Nat)),some (.int ((L + (d + 1) : Nat) : Int)),none,none,some (.list (ds.map .int)),some (.raw (.ref f)),some (.int 16)]) (i := 2) (p := .int ((L + m : Nat) : Int)) T O (EV.conv (p := .int (((L : Int) + ((L + (d + 1) : Nat) : Int)).fdiv (2 ^ (1 : Int).toNat))) ?a1 (by rw [hmid])) ?a2 hn ?a3 ?a4) ?_
      case a1 =>
        refine EV.bin ?b1 ?b2 EV.cint (OP.shr (by decide))
        case b1 => walk_at "m"
        case b2 => walk_at "m"
      case a2 => walk_at "m"
      case a3 => rw [Env.kindOf,hs]; decide
      case a4 => exact swaps_no rfl
      refine ST.seq (C' := Cx N X hb env in5N [some (.int (L : Nat)),some (.int ((L + (d + 1) : Nat) : Int)),some (.int ((L + m : Nat) : Int)),some (.int ((m * 16 : Nat) : Int)),some (.list (ds.map .int)),some (.raw (.ref f)),some (.int 16)]) (SX.assignL (ns := in5N) (vals := [some (.int (L : Nat)),some (.int ((L + (d + 1) : Nat) : Int)),some (.int ((L + m : Nat) : Int)),none,some (.list (ds.map .int)),some (.raw (.ref f)),some (.int 16)]) (i := 3) (p := .int ((m * 16 : Nat) : Int)) T O (EV.conv (p := .int ((((L + m : Nat) : Int) - (L : Int)) * 16)) ?c1 (by congr 1; lia)) ?c2 hn ?c3 ?c4) ?_
      case c1 =>
        refine EV.bin ?d1 ?d2 ?d3 (OP.mul (IntMulOk.of_right (by decide)))
        case d1 => walk_at "m"
        case d2 => walk_at "m"
        case d3 => walk_at "m"
      case c2 => walk_at "m"
      case c3 => rw [Env.kindOf,hs]; decide
      case c4 => exact swaps_no rfl
      have hC : ∀ h,Cx N X hb env in5N [some (.int (L : Nat)),some (.int ((L + (d + 1) : Nat) : Int)),some (.int ((L + m : Nat) : Int)),some (.int ((m * 16 : Nat) : Int)),some (.list (ds.map .int)),some (.raw (.ref f)),some (.int 16)] h -> FrOk N X clos [Str.ofString "digits",Str.ofString "inner",Str.ofString "n"] [.list (ds.map .int), .raw (.ref f), .int 16] h := fun h c => c.fr fun i x p hx hp => by
        match i,hx,hp with
        | 0,hx,hp => cases hx; cases hp; exact ⟨4,rfl,rfl,rfl, .inr (by rw [Env.kindOf,hs]; decide),fun a ha => by rw [hcells] at ha; exact ha⟩
        | 1,hx,hp => cases hx; cases hp; exact ⟨5,rfl,rfl,rfl, .inr (by rw [Env.kindOf,hs]; decide),fun a ha => by rw [hcells] at ha; exact ha⟩
        | 2,hx,hp => cases hx; cases hp; exact ⟨6,rfl,rfl,rfl, .inr (by rw [Env.kindOf,hs]; decide),fun a ha => by rw [hcells] at ha; exact ha⟩
        | i + 3,hx,hp => cases hx
      have F1 := ih (d + 1 - m) (by lia) (L + m) (by lia) (by lia)
      have F2 := ih m m2 L m1 (by lia)
      rw [show L + m + (d + 1 - m) = L + (d + 1) by lia] at F1
      have hb1 := d2i_bound _ (hd.sub (L + m) (d + 1 - m))
      have hlen : ((ds.drop (L + m)).take (d + 1 - m)).length <= 40 := by
        rw [List.length_take,List.length_drop]; exact Nat.le_trans (Nat.min_le_right _ _) (Nat.le_trans (Nat.sub_le _ _) (by assumption))
      have hbits := intBits_lt hb1.1 hb1.2
      have hlm : ((ds.drop L).take m).length = m := by rw [List.length_take,List.length_drop]; lia
      rw [take_split ds L m (d + 1) (by lia),d2i_append,hlm]
      refine ST.last (SX.ret (fun h c => c.base) (EV.conv (p := .int (d2i ((ds.drop (L + m)).take (d + 1 - m)) * 2 ^ ((m * 16 : Nat) : Int).toNat + d2i ((ds.drop L).take m))) ?e1 (by rw [Int.toNat_natCast])))
      refine EV.bin ?f1 (EV.bin ?f2 (EV.callP ?f3 ?f4 D (EVs.cons ?f5 ?f6 (EVs.cons ?f7 ?f8 EVs.nil rfl) rfl) F1 hC (hA.less (by lia)) rfl fun s Q E h => Call_ h) ?g1 (OP.shl (by lia) (by lia))) (EV.callP ?g3 ?g4 D (EVs.cons ?g5 ?g6 (EVs.cons ?g7 ?g8 EVs.nil rfl) rfl) F2 hC (hA.less (by lia)) rfl fun s Q E h => Call_ h) OP.add
      case f1 => walk_at "m"
      case f2 => walk_at "m"
      case f3 => walk_at "m"
      case f4 => walk_at "m"
      case f5 => walk_at "m"
      case f6 => walk_at "m"
      case f7 => walk_at "m"
      case f8 => walk_at "m"
      case g1 => walk_at "m"
      case g3 => walk_at "m"
      case g4 => walk_at "m"
      case g5 => walk_at "m"
      case g6 => walk_at "m"
      case g7 => walk_at "m"
      case g8 => walk_at "m"
end
end
section
set_option autoImplicit false
noncomputable def posOf : Stmt -> Pos
  | .FunctionDef _ _ _ _ _ _ _ _ _ p => p
  | _ => default
noncomputable def DefOkC (Tb : Heap -> Prop) (x : Str) (i : Nat) (f : Addr) (cd : Value) : Prop :=
  GlobIs Tb x (.ref f) ∧ ∃ pm doc,DefAt Tb f (docDef x (paramsOf (stmtAt i)) (bodyOf (stmtAt i)) (scopeOf (stmtAt i)) pm cd doc) ∧ ∀ h,Tb h -> h.CodeRec cd x
theorem Nest.x {N : Nat} {Top : Heap -> Prop} {cd : Value} {pos : Pos} {qual : Str} {c P : Addr} (n : Nest N Top cd pos qual c P) (X : List Addr) : Nest N (TbX Top X) cd pos qual c P where
  cd := n.cd
  low := n.low
  gl := n.gl
  code := fun h t => n.code h t.1
  glob := fun h t => n.glob h t.1
  tab := fun h t => n.tab h t.1
  upd := fun h h' ps c' t a b e z g r => ⟨n.upd h h' ps c' t.1 a b e z g r,fun x hx => Nat.lt_of_lt_of_le (t.2 x hx) z⟩
section
variable {w : World} {N : Nat} {X : List Addr} {Tb : Heap -> Prop} {Top : Heap -> Prop} {A : Around} {env : Env} {hb : Heap} {C : Heap -> Prop}
theorem Cx.clos {ns : List Str} {vals : List (Option PV)} {scope : Scope} {h : Heap} (c : Cx N X hb env ns vals h) (hf : ∀ y ∈ scope.names,y.2 = .free -> ∃ j : Nat,ns[j]? = some y.1 ∧ (env.kindOf y.1 = some .cell ∨ env.kindOf y.1 = some .free)) :
    closureFor scope env = pure (closeOf env scope.names []) := closureFor_eq scope env fun y hy hfr => by
  obtain ⟨j,hj,hkk⟩ := hf y hy hfr
  obtain ⟨u,su, _⟩ := c.slot j _ hj
  rcases su with ⟨kk, _⟩ | ⟨_,a,ha, _⟩
  . rcases hkk with h | h <;> (rw [h] at kk; cases kk)
  . rw [ha]; rfl
theorem FN.defC (T : TbOk N [] Top) {x : Str} {i : Nat} {f : Addr} {cd : Value} {d : Nat} {prm loc : List Str} {ps : List PV} {r : PV} (D : DefOkC Top x i f cd) (hlen : prm.length = ps.length)
    (hbind : ∀ pm cd doc (vs : List Value),vs.length = prm.length -> bindArgs (docDef x (paramsOf (stmtAt i)) (bodyOf (stmtAt i)) (scopeOf (stmtAt i)) pm cd doc) ⟨vs, []⟩ = pure (prm.zip vs)) (hn : (prm ++ loc).Nodup)
    (hkind : ∀ x ∈ prm ++ loc,(scopeOf (stmtAt i)).names.lookup x = some .local ∨ (scopeOf (stmtAt i)).names.lookup x = some .cell)
    (hbd : ∀ A env hb,AOk A d -> EnvOk N hb env -> env.scope = scopeOf (stmtAt i) -> env.code = cd -> env.qual = x ++ ".<locals>." -> ST w N (TbX Top X) A env (Wr env (prm ++ loc) X) (Cx N X hb env (prm ++ loc) (ps.map some ++ loc.map fun _ => none)) (bodyOf (stmtAt i)) (Ret N X hb r))
    (hco : (scopeOf (stmtAt i)).isCoroutine = false := by rfl) (hgen : (scopeOf (stmtAt i)).isGenerator = false := by rfl) (hk : (scopeOf (stmtAt i)).kind = .function := by rfl) : FN w N X (TbX Top X) f (d + 1) ps r := by
  obtain ⟨_,pm,doc,hD,hcd⟩ := D
  refine FN.mk (TbX.ok T X) (hD.x X) (fun h t => hcd h t.1) rfl rfl rfl rfl hlen (hbind pm cd doc) hn hkind (fun A env hb hA O hs hc hq => ?_) hco hgen hk
  exact ST.weak (hbd A env hb hA O hs hc hq) fun f h' ⟨v,e,iv,nx⟩ => ⟨v,by rw [e],iv,nx⟩
noncomputable abbrev d2iN : List Str := [Str.ofString "digits",Str.ofString "n",Str.ofString "inner"]
noncomputable def qInner5 : Str := Str.ofString "_digits2int" ++ ".<locals>." ++ Str.ofString "inner"
theorem d2i_fn (T : TbOk N [] Top) {f c P : Addr} {cd : Value} (D : DefOkC Top (Str.ofString "_digits2int") 5 f cd) (Ne : Nest N Top cd (posOf (innerOf 5)) qInner5 c P) (bLen : BuiltIs Top (Str.ofString "len") (.builtin "len"))
    (ds : List Int) (hd : Dig ds) (hl : ds.length <= 40) : FN w N X (TbX Top X) f (ds.length + 1) [.list (ds.map .int), .int 16] (.int (d2i ds)) := by
  refine FN.defC (d := ds.length) (prm := [Str.ofString "digits",Str.ofString "n"]) (loc := [Str.ofString "inner"]) T D rfl (fun pm cd doc vs h => by obtain ⟨a,b,rfl⟩ := of2 h; with_unfolding_all rfl) (by decide) (by decide) fun A env hb hA O hs hc hq => ?_
  have TX := TbX.ok T X
  have hn : NsOk d2iN := ⟨by decide,by decide,by decide⟩
  have hkk := O.kind
  have hL := O.hL
  have hqn : qualnameIn env (Str.ofString "inner") (Str.ofString "inner") = qInner5 := by
    unfold qualnameIn
    rw [if_neg (by rw [Env.kindOf,hs]; decide),hq]; rfl
  show ST w N (TbX Top X) A env (Wr env d2iN X) (Cx N X hb env d2iN [some (.list (ds.map .int)),some (.int 16),none]) (_ :: _ :: []) _
  refine ST.nest (ns := d2iN) (vals := [some (.list (ds.map .int)),some (.int 16),none]) (i := 2) (c := c) (P := P) (clos := closeOf env (scopeOf (innerOf 5)).names []) TX O ?n1 ?n2 ?n3 ?n4 ?n5 ?n6 hn ?n7 ?n8
  case n1 => rw [hqn,hc]; exact Ne.x X
  case n2 => rfl
  case n3 => rfl
  case n4 => rfl
  case n5 =>
    intro h cx
    refine cx.clos ?_
    show ∀ y ∈ (scopeOf (innerOf 5)).names,y.2 = .free -> _
    intro y hy hf
    have : y.1 = Str.ofString "digits" ∨ y.1 = Str.ofString "inner" ∨ y.1 = Str.ofString "n" := by
      revert y
      decide
    rcases this with e | e | e <;> rw [e]
    . exact ⟨0,rfl, .inl (by rw [Env.kindOf,hs]; decide)⟩
    . exact ⟨2,rfl, .inl (by rw [Env.kindOf,hs]; decide)⟩
    . exact ⟨1,rfl, .inl (by rw [Env.kindOf,hs]; decide)⟩
  case n6 => walk_at "m"
  case n7 => rw [Env.kindOf,hs]; decide
  case n8 =>
    intro fi doc pm cv ctv hNf hXf
    rw [hqn]
    have TF := TbF.ok (f := fi) (o := { cls := .type "function",data := .func (fnX (Str.ofString "inner") qInner5 (paramsOf (innerOf 5)) (bodyOf (innerOf 5)) (scopeOf (innerOf 5)) (closeOf env (scopeOf (innerOf 5)).names []) .none .none doc pm none cv ctv) }) (cv := cv) (qual := qInner5) TX rfl
    show ST w N (TbF (TbX Top X) fi { cls := .type "function",data := .func (fnX (Str.ofString "inner") qInner5 (paramsOf (innerOf 5)) (bodyOf (innerOf 5)) (scopeOf (innerOf 5)) (closeOf env (scopeOf (innerOf 5)).names []) .none .none doc pm none cv ctv) } cv qInner5) A env (Wr env d2iN X) (Cx N X hb env d2iN [some (.list (ds.map .int)),some (.int 16),some (.raw (.ref fi))]) (_ :: []) _
    generalize hTb : TbF (TbX Top X) fi { cls := .type "function",data := .func (fnX (Str.ofString "inner") qInner5 (paramsOf (innerOf 5)) (bodyOf (innerOf 5)) (scopeOf (innerOf 5)) (closeOf env (scopeOf (innerOf 5)).names []) .none .none doc pm none cv ctv) } cv qInner5 = Tb at TF ⊢
    have DI : DefAt Tb fi (fnX (Str.ofString "inner") qInner5 (paramsOf (innerOf 5)) (bodyOf (innerOf 5)) (scopeOf (innerOf 5)) (closeOf env (scopeOf (innerOf 5)).names []) .none .none doc pm none cv ctv) := ⟨_,rfl,fun h t => by rw [<- hTb] at t; exact t.2.1⟩
    have HC : ∀ h,Tb h -> h.CodeRec cv qInner5 := fun h t => by rw [<- hTb] at t; exact t.2.2
    have BL : BuiltIs Tb (Str.ofString "len") (.builtin "len") := fun h t => by rw [<- hTb] at t; exact bLen h t.1.1
    refine ST.last (SX.ret (fun h c => c.base) ?_)
    refine EV.ite (c := !(ds.map PV.int).isEmpty) (p := .int (d2i ds)) (q := .int 0) ?o1 (BV.ofList (X := X) ?o2 (by rw [List.length_map]; lia) rfl) (fun hne => ?o3) (fun _ => EV.cint) ?o4
    case o1 => walk_at "m"
    case o2 => walk_at "m"
    case o4 =>
      cases ds with
      | nil => rfl
      | cons a b => rfl
    case o3 =>
      have hpos : 0 < ds.length := by
        cases ds with
        | nil => cases hne
        | cons a b => simp
      have F := inner5 (w := w) TF DI HC ds hd hl ds.length 0 hpos (by lia)
      rw [List.drop_zero,List.take_length,Nat.zero_add] at F
      refine EV.callP ?p1 ?p2 DI (EVs.cons (p := .int ((0 : Nat) : Int)) ?p3 EV.cint (EVs.cons (p := .int ((ds.length : Nat) : Int)) ?p5 ?p6 EVs.nil rfl) rfl) F ?p7 hA rfl fun s Q E h => Call_ h
      case p1 => walk_at "m"
      case p2 => walk_at "m"
      case p3 => walk_at "m"
      case p5 => walk_at "m"
      case p6 =>
        refine EV.conv (p := .int ((ds.map PV.int).length : Int)) (EV.callB ?r1 O.kind O.glob O.bui ?r2 BL (EVs.cons ?r3 ?r4 EVs.nil rfl) (BC.len (by rw [List.length_map]; lia))) (by rw [List.length_map])
        case r1 => walk_at "m"
        case r2 => rw [Env.kindOf,hs]; decide
        case r3 => walk_at "m"
        case r4 => walk_at "m"
      case p7 =>
        exact fun h c => c.fr fun i x p hx hp => by
          match i,hx,hp with
          | 0,hx,hp => cases hx; cases hp; exact ⟨0,rfl,rfl,rfl, .inl (by rw [Env.kindOf,hs]; decide),fun a ha => closeOf_has ha _ _ (by decide)⟩
          | 1,hx,hp => cases hx; cases hp; exact ⟨2,rfl,rfl,rfl, .inl (by rw [Env.kindOf,hs]; decide),fun a ha => closeOf_has ha _ _ (by decide)⟩
          | 2,hx,hp => cases hx; cases hp; exact ⟨1,rfl,rfl,rfl, .inl (by rw [Env.kindOf,hs]; decide),fun a ha => closeOf_has ha _ _ (by decide)⟩
          | i + 3,hx,hp => cases hx
end
end
section
set_option autoImplicit false
structure GY (N : Nat) (Top : Heap -> Prop) extends GX N Top where
  cdInt : Value
  cInt : Addr
  pInt : Addr
  dIntC : DefOkC Top (Str.ofString "_digits2int") 5 fInt cdInt
  nInt : Nest N Top cdInt (posOf (innerOf 5)) qInner5 cInt pInt
section
variable {w : World} {N : Nat} {X : List Addr} {Tb : Heap -> Prop} {Top : Heap -> Prop} {A : Around} {env : Env} {hb : Heap} {C : Heap -> Prop}
theorem d2i_y (g : GY N Top) {ds : List Int} (hd : Dig ds) (hl : ds.length <= 40) : FN w N X (TbX Top X) g.fInt (ds.length + 1) [.list (ds.map .int), .int 16] (.int (d2i ds)) := d2i_fn g.T g.dIntC g.nInt g.bLen ds hd hl
noncomputable abbrev allN : List Str := [Str.ofString "mask",Str.ofString "many"]
theorem all_fn (g : GY N Top) {mask : Int} {many : Nat} (h0 : 0 <= mask) (h1 : mask < 65536) (h2 : many <= 40) : FN w N X (TbX Top X) g.fAll (many + 2) [.int mask, .int (many : Nat)] (.int (d2i (List.replicate many mask))) := by
  refine FN.def (d := (many + 1)) (prm := [Str.ofString "mask",Str.ofString "many"]) (loc := []) g.T g.dAll rfl (fun pm cd doc vs h => by obtain ⟨a,b,rfl⟩ := of2 h; with_unfolding_all rfl) (by decide) (by decide) fun A env hb hA O hs => ?_
  have T := TbX.ok g.T X
  have hn : NsOk allN := ⟨by decide,by decide,by decide⟩
  have hkk := O.kind
  have hL := O.hL
  have hD : Dig (List.replicate many mask) := fun d hd => by rw [List.eq_of_mem_replicate hd]; exact ⟨h0,h1⟩
  have F := d2i_y (w := w) (X := X) g hD (by rw [List.length_replicate]; exact h2)
  rw [List.map_replicate,List.length_replicate] at F
  show ST w N (TbX Top X) A env (Wr env allN X) (Cx N X hb env allN [some (.int mask),some (.int (many : Nat))]) (_ :: []) _
  refine ST.last (SX.ret (fun h c => c.base) (EV.callD ?a1 O.kind O.glob ?a2 g.dInt (EVs.cons ?a3 (EV.bin (p := .list [.int mask]) (q := .int (many : Nat)) ?a4 ?a5 ?a6 ?a7) (EVs.cons ?a8 EV.cint EVs.nil rfl) rfl) F hA))
  case a1 => walk_at "m"
  case a2 => rw [Env.kindOf,hs]; decide
  case a3 => walk_at "m"
  case a4 => walk_at "m"
  case a5 => walk_at "m"
  case a6 => walk_at "m"
  case a7 =>
    have := OP.rep (w := w) (A := A) (x := .int mask) (n := (many : Nat)) T (by lia) (by lia)
    rw [Int.toNat_natCast] at this
    exact this
  case a8 => walk_at "m"
end
end
section
set_option autoImplicit false
section
variable {w : World} {N : Nat} {X : List Addr} {Tb : Heap -> Prop} {Top : Heap -> Prop} {A : Around} {env : Env} {hb : Heap} {C : Heap -> Prop}
theorem EV.globI {x : Str} {pos : Pos} {i : Int} {t : Tok} (hk : env.scope.kind = .function) (hgl : env.globals = mainGlobals) (hx : env.kindOf x = some .globalImplicit) (G : GlobIs Tb x (.int i t)) (hd : (x == ("__debug__" : Str)) = false) :
    EV w N Tb A env C (.Name x pos) (IsP X (.int i)) :=
  GV.imp (EV.glob hk hgl hx G hd) (fun _ _ c => c) fun h v _ e => by rw [e]; exact .int _ _
noncomputable abbrev div2N : List Str := [Str.ofString "a",Str.ofString "b",Str.ofString "n",Str.ofString "pad",Str.ofString "half_n",Str.ofString "mask",Str.ofString "b1",Str.ofString "b2",Str.ofString "q1",Str.ofString "r",Str.ofString "q2"]
theorem div2_fn (g : GX N Top) {a b n : Int} {t : Tok} (G : GlobIs Top (Str.ofString "_DIV_LIMIT") (.int 4000 t)) (ha : (Builtin.Int.intBits a : Int) - n <= 4000) (hb0 : 0 < b) (hb1 : b < 1000000000) : FN w N X (TbX Top X) g.fDiv2 1 [.int a, .int b, .int n] (.tup [.int (a.fdiv b), .int (a.fmod b)]) := by
  refine FN.def (d := 0) (prm := [Str.ofString "a",Str.ofString "b",Str.ofString "n"]) (loc := [Str.ofString "pad",Str.ofString "half_n",Str.ofString "mask",Str.ofString "b1",Str.ofString "b2",Str.ofString "q1",Str.ofString "r",Str.ofString "q2"]) g.T g.dDiv2 rfl (fun pm cd doc vs h => by obtain ⟨a,b,c,rfl⟩ := of3 h; with_unfolding_all rfl) (by decide) (by decide) fun A env hb hA O hs => ?_
  have T := TbX.ok g.T X
  have hn : NsOk div2N := ⟨by decide,by decide,by decide⟩
  have hkk := O.kind
  have hL := O.hL
  show ST w N (TbX Top X) A env (Wr env div2N X) (Cx N X hb env div2N [some (.int a),some (.int b),some (.int n),none,none,none,none,none,none,none,none]) (_ :: _) _
  refine ST.retd (SX.iff (c := decide ((Builtin.Int.intBits a : Int) - n <= 4000)) ?i1 ?i2 (fun _ => ?i3) (fun e => absurd (of_decide_eq_false e) (by simpa using ha)))
  case i1 => walk_at "m"
  case i2 =>
    refine BV.cmp (X := X) ?j1 (EV.bin ?j2 (EV.bits ?j3 rfl rfl) ?j4 OP.sub) (EV.globI O.kind O.glob ?j5 (G.x X) ?j6) CP.le rfl
    case j1 => walk_at "m"
    case j2 => walk_at "m"
    case j3 => walk_at "m"
    case j4 => walk_at "m"
    case j5 => rw [Env.kindOf,hs]; decide
    case j6 => decide
  case i3 =>
    refine ST.last (SX.ret (fun h c => c.base) (EV.callB ?k1 O.kind O.glob O.bui ?k2 (g.bDivmod.x X) (EVs.cons (p := .int a) ?k3 ?k4 (EVs.cons (p := .int b) ?k5 ?k6 EVs.nil rfl) rfl) (BC.divmod T hb0 hb1)))
    case k1 => walk_at "m"
    case k2 => rw [Env.kindOf,hs]; decide
    case k3 => walk_at "m"
    case k4 => walk_at "m"
    case k5 => walk_at "m"
    case k6 => walk_at "m"
noncomputable abbrev dmN : List Str := [Str.ofString "a",Str.ofString "b",Str.ofString "q",Str.ofString "r"]
theorem divmod_fn (g : GX N Top) {a b : Int} {d : Nat} {r : PV} (ha : 0 <= a) (hb : 0 < b) (F : FN w N X (TbX Top X) g.fPos d [.int a, .int b] r) : FN w N X (TbX Top X) g.fDivmod (d + 1) [.int a, .int b] r := by
  refine FN.def (d := d) (prm := [Str.ofString "a",Str.ofString "b"]) (loc := [Str.ofString "q",Str.ofString "r"]) g.T g.dDivmod rfl (fun pm cd doc vs h => by obtain ⟨a,b,rfl⟩ := of2 h; with_unfolding_all rfl) (by decide) (by decide) fun A env hb hA O hs => ?_
  have T := TbX.ok g.T X
  have hn : NsOk dmN := ⟨by decide,by decide,by decide⟩
  have hkk := O.kind
  have hL := O.hL
  show ST w N (TbX Top X) A env (Wr env dmN X) (Cx N X hb env dmN [some (.int a),some (.int b),none,none]) (_ :: []) _
  refine ST.last (SX.iff (c := (b == 0)) ?i1 ?i2 (fun e => absurd (eq_of_beq e) (by lia)) (fun _ => ?i3))
  case i1 => walk_at "m"
  case i2 => walk_at "m"
  case i3 =>
    refine ST.last (SX.iff (c := decide (b < 0)) ?j1 ?j2 (fun e => absurd (of_decide_eq_true e) (by lia)) (fun _ => ?j3))
    case j1 => walk_at "m"
    case j2 => walk_at "m"
    case j3 =>
      refine ST.last (SX.iff (c := decide (a < 0)) ?k1 ?k2 (fun e => absurd (of_decide_eq_true e) (by lia)) (fun _ => ?k3))
      case k1 => walk_at "m"
      case k2 => walk_at "m"
      case k3 =>
        refine ST.last (SX.ret (fun h c => c.base) (EV.callD ?l1 O.kind O.glob ?l2 g.dPos (EVs.cons ?l3 ?l4 (EVs.cons ?l5 ?l6 EVs.nil rfl) rfl) F hA))
        case l1 => walk_at "m"
        case l2 => rw [Env.kindOf,hs]; decide
        case l3 => walk_at "m"
        case l4 => walk_at "m"
        case l5 => walk_at "m"
        case l6 => walk_at "m"
end
end
section
set_option autoImplicit false
structure FL (w : World) (N : Nat) (X : List Addr) (Tb : Heap -> Prop) (A : Around) (env : Env) (C : Heap -> Prop) (e : Expr) (xs : List PV) : Prop where
  run : ∀ (s : Shared) (Q : Value -> Shared -> Prop) (E : Value -> Shared -> Prop),C s.heap -> Tb s.heap ->
    (∀ (a : Addr) vs h' tk,s.heap.objs.size <= a -> a < h'.objs.size -> Nx N s.heap h' -> Tb h' -> h'.PlainList a vs.toArray -> IsL (a :: X) h' vs xs -> Q (.ref a) { s with heap := h',toks := tk }) -> wpAny (MM w) A (eval e env) Q E s
section
variable {w : World} {N : Nat} {X : List Addr} {Tb Top : Heap -> Prop} {A : Around} {env : Env} {hb : Heap} {C : Heap -> Prop} {ns : List Str} {vals : List (Option PV)}
theorem FL.list {es : List Expr} {pos : Pos} {ps : List PV} (T : TbOk N X Tb) (h : EVs w N X Tb A env C pos es ps) (hz : ps.length <= sizeLine) : FL w N X Tb A env C (.List es pos) ps := by
  constructor
  intro s Q E hc hT k
  refine wpAny_List (h.run s _ E hc hT fun vs h₁ t₁ n₁ T₁ i₁ => ⟨by rw [i₁.length]; exact hz, ?_⟩)
  exact k h₁.objs.size vs _ t₁ n₁.sz (by rw [Heap.size_push]; exact Nat.lt_succ_self _) (n₁.trans (.push _ _)) (T.push T₁ _) ⟨_,Heap.get?_push_size _ rfl⟩
    ((i₁.grow fun b hb => (List.mem_cons.mp hb).elim (fun e => .inr (by rw [e]; exact Nat.le_refl _)) .inl).nx (.push (N := N) _ _))
theorem IsS.grow {X Y : List Addr} {h : Heap} (n : ∀ a ∈ Y,a ∈ X ∨ h.objs.size <= a) (hs : ∀ a ∈ X,a ∈ Y) {v : Value} {p : PV} (x : IsS N X h v p) : IsS N Y h v p := by
  rcases x with x | ⟨a,vs,xs,e1,e2,e3,e4,e5,e6⟩
  . exact .inl (x.grow n)
  . exact .inr ⟨a,vs,xs,e1,e2,hs _ e3,e4,e5,e6.grow n⟩
theorem Cx.grow {X Y : List Addr} {h : Heap} (c : Cx N X hb env ns vals h) (n : ∀ a ∈ Y,a ∈ X ∨ h.objs.size <= a) (hs : ∀ a ∈ X,a ∈ Y) : Cx N Y hb env ns vals h :=
  ⟨c.base,c.nsx,fun i x hx => let ⟨u,su,hu⟩ := c.slot i x hx; ⟨u,su,fun p hp => let ⟨v,e,iv⟩ := hu p hp; ⟨v,e,iv.grow n hs⟩⟩⟩
theorem Cx.setOwn {h : Heap} {x : Str} {i : Nat} {a : Addr} {vs : List Value} {xs : List PV} (hx : Ix ns x i) (hn : ns.Nodup) (ha : a ∈ X) (hN : N <= a) (hl : h.PlainList a vs.toArray) (hL : IsL X h vs xs)
    (c : Cx N X hb env ns (vals.set i (some (.raw (.ref a)))) h) : Cx N X hb env ns (vals.set i (some (.own a xs))) h := by
  refine ⟨c.base,c.nsx,fun j y hy => ?_⟩
  obtain ⟨u,su,hu⟩ := c.slot j y hy
  refine ⟨u,su,fun p hp => ?_⟩
  by_cases hij : i = j
  . subst hij
    by_cases hlt : i < vals.length
    . rw [List.getElem?_set_self hlt] at hp
      cases hp
      obtain ⟨v,e,iv⟩ := hu (.raw (.ref a)) (by rw [List.getElem?_set_self hlt])
      obtain rfl := Is.raw_inv (iv.is rfl)
      exact ⟨_,e, .inr ⟨a,vs,xs,rfl,rfl,ha,hN,hl,hL⟩⟩
    . rw [List.getElem?_eq_none (by rw [List.length_set]; lia)] at hp; cases hp
  . rw [List.getElem?_set_ne hij] at hp
    exact hu p (by rw [List.getElem?_set_ne hij]; exact hp)
theorem ST.own (T : TbOk N [] Top) (O : EnvOk N hb env) {x : Str} {px pos : Pos} {e : Expr} {i : Nat} {xs : List PV} {rest : List Stmt} {R : Flow -> Heap -> Prop}
    (h : FL w N X (TbX Top X) A env (Cx N X hb env ns vals) e xs) (hx : Ix ns x i) (hn : NsOk ns) (hkx : env.kindOf x ≠ some .free)
    (hs : swapsWith e (some (.Name x px)) pos.line env = pure false)
    (hrest : ∀ a : Addr,N <= a -> a ∉ X -> hb.get? a = none -> ST w N (TbX Top (a :: X)) A env (Wr env ns (a :: X)) (Cx N (a :: X) hb env ns (vals.set i (some (.own a xs)))) rest R) :
    ST w N (TbX Top X) A env (Wr env ns X) (Cx N X hb env ns vals) (.Assign [.Name x px] e pos :: rest) R := by
  constructor
  intro s Q E c t k
  have TX := TbX.ok T X
  refine wpAny_execs_cons (wpAny_Assign_Name (h.run s _ E c t fun a vs h₁ t₁ hsa hlt n₁ T₁ hl hL => ?_) hs)
  have hN : N <= a := Nat.le_trans (TX.size _ t) hsa
  have haX : a ∉ X := fun m => Nat.lt_irrefl _ (Nat.lt_of_lt_of_le (t.2 a m) hsa)
  have TY := TbX.ok T (a :: X)
  have T₁' : TbX Top (a :: X) h₁ := ⟨T₁.1,fun y hy => (List.mem_cons.mp hy).elim (fun e => by rw [e]; exact hlt) (T₁.2 y)⟩
  have c₁ : Cx N (a :: X) hb env ns vals h₁ := Cx.stb O.hL _ _ (c.grow (Y := a :: X) (fun b hb => (List.mem_cons.mp hb).elim (fun e => .inr (by rw [e]; exact hsa)) .inl) fun b hb => List.mem_cons_of_mem _ hb) n₁
  refine store' TY O.toBlkOk hx hn.nodup (.inr ⟨O,hkx⟩) c₁ T₁' (.raw (.ref a)) fun h₂ t₂ f₂ T₂ c₂ => ?_
  obtain ⟨n,ho⟩ := id hl
  have haW : a ∉ Wr env ns [] := c₁.off ho (fun es n e => by cases e) (fun v e => by cases e)
  have hl₂ : h₂.PlainList a vs.toArray := ⟨n,f₂.kp _ _ haW ho (.inr (by intro e; cases e))⟩
  have hL₂ := hL.fx f₂ c₁.wok0
  have hba : hb.get? a = none := by
    cases e : hb.get? a with
    | none => rfl
    | some o => exact absurd (Nat.lt_of_lt_of_le (Heap.lt_size e) c.base.sz) (Nat.not_lt.mpr hsa)
  refine (hrest a hN haX hba).run _ _ E (Cx.setOwn hx hn.nodup List.mem_cons_self hN hl₂ hL₂ c₂) T₂ fun f h₃ t₃ f₃ T₃ r => ?_
  have f₁₃ : Fx N (Wr env ns (a :: X)) s.heap h₃ := n₁.fx.trans ((f₂.sub Wr.mono).trans f₃)
  refine k f h₃ t₃ ⟨fun b o hb' e n => f₁₃.kp b o (fun m => hb' ?_) e n,f₁₃.sz⟩ ⟨T₃.1,fun y hy => T₃.2 y (List.mem_cons_of_mem _ hy)⟩ r
  simp only [Wr,List.mem_cons,List.mem_append] at m ⊢
  rcases m with m | m | m | m
  . exact .inl m
  . exact .inr (.inl m)
  . exact absurd (m ▸ Heap.lt_size e) (Nat.not_lt.mpr hsa)
  . exact .inr (.inr m)
theorem ST.unown {x : Str} {i : Nat} {a : Addr} {xs : List PV} {body : List Stmt} {R : Flow -> Heap -> Prop} (hv : vals[i]? = some (some (.own a xs))) (haX : a ∉ X)
    (ho : ∀ (j : Nat) p,j ≠ i -> vals[j]? = some (some p) -> notOwn p = true)
    (h : ST w N (TbX Top X) A env (Wr env ns X) (Cx N X hb env ns (vals.set i (some (.list xs)))) body R) : ST w N (TbX Top (a :: X)) A env (Wr env ns (a :: X)) (Cx N (a :: X) hb env ns vals) body R := by
  constructor
  intro s Q E c t k
  have hlt : i < vals.length := (List.getElem?_eq_some_iff.mp hv).1
  have hsub : ∀ b ∈ X,b ∈ a :: X := fun b hb => List.mem_cons_of_mem _ hb
  refine h.run s Q E ⟨c.base,c.nsx,fun j y hy => ?_⟩ ⟨t.1,fun b hb => t.2 b (hsub b hb)⟩ fun f h' tk fx t' r => k f h' tk (fx.sub ?_) ⟨t'.1,fun b hb => Nat.lt_of_lt_of_le (t.2 b hb) fx.sz⟩ r
  . obtain ⟨u,su,hu⟩ := c.slot j y hy
    refine ⟨u,su,fun p hp => ?_⟩
    by_cases hij : i = j
    . subst hij
      rw [List.getElem?_set_self hlt] at hp
      cases hp
      obtain ⟨v,e,iv⟩ := hu _ hv
      rcases iv with iv | ⟨b,vs,ys,e1,e2,e3,e4,e5,e6⟩
      . cases iv
      . cases e1
        exact ⟨v,e, .inl (by rw [e2]; exact .list haX e5 (e6.sub hsub))⟩
    . rw [List.getElem?_set_ne hij] at hp
      obtain ⟨v,e,iv⟩ := hu p hp
      exact ⟨v,e, .inl ((iv.is (ho j p (fun e => hij e.symm) hp)).sub hsub)⟩
  . intro b hb
    simp only [Wr,List.mem_cons,List.mem_append] at hb ⊢
    rcases hb with m | m | m
    . exact .inl m
    . exact .inr (.inl m)
    . exact .inr (.inr (.inr m))
end
end
section
set_option autoImplicit false
section
variable {w : World} {N : Nat} {X : List Addr} {Tb Top : Heap -> Prop} {A : Around} {env : Env} {hb : Heap} {C : Heap -> Prop} {ns : List Str} {vals : List (Option PV)}
noncomputable def OthersOk (vals : List (Option PV)) (i : Nat) : Prop := ∀ (j : Nat) p,j ≠ i -> vals[j]? = some (some p) -> notOwn p = true
theorem Cx.ownAt {h : Heap} {i : Nat} {x : Str} {a : Addr} {xs : List PV} (c : Cx N X hb env ns vals h) (hx : ns[i]? = some x) (hv : vals[i]? = some (some (.own a xs))) :
    Slot N env h x (some (.ref a)) ∧ a ∈ X ∧ N <= a ∧ ∃ vs,h.PlainList a vs.toArray ∧ IsL X h vs xs := by
  obtain ⟨u,su,hu⟩ := c.slot i x hx
  obtain ⟨v,rfl,iv⟩ := hu _ hv
  rcases iv with iv | ⟨b,vs,ys,e1,e2,e3,e4,e5,e6⟩
  . cases iv
  . cases e1; subst e2; exact ⟨su,e3,e4,vs,e5,e6⟩
theorem Cx.ownUpd {h h' : Heap} {i : Nat} {x : Str} {a : Addr} {xs ys : List PV} {ws : List Value} (c : Cx N X hb env ns vals h) (hx : ns[i]? = some x) (hn : ns.Nodup) (hv : vals[i]? = some (some (.own a xs))) (ho : OthersOk vals i) (hba : hb.get? a = none)
    (hs : Heap.SameBut a h h') (hl : h'.PlainList a ws.toArray) (hL : IsL X h' ws ys) : Cx N X hb env ns (vals.set i (some (.own a ys))) h' := by
  obtain ⟨su,haX,hNa,vs,hl0,hL0⟩ := c.ownAt hx hv
  have kp : ∀ b o,b ≠ a -> h.get? b = some o -> h'.get? b = some o := fun b o hb e => (hs.2 b hb).trans e
  have hz : h.objs.size <= h'.objs.size := by rw [hs.1]; exact Nat.le_refl _
  obtain ⟨n0,ho0⟩ := hl0
  have hns : ∀ m,h.Ns env.locals m -> h'.Ns env.locals m := fun m ⟨o,es,ep,ho',hd',r⟩ => ⟨o,es,ep,kp _ _ (by rintro e; rw [e,ho0] at ho'; cases ho'; cases hd') ho',hd',r⟩
  have hsl : ∀ y ov,Slot N env h y ov -> Slot N env h' y ov := by
    intro y ov sy
    rcases sy with ⟨ky,m2,hm2,e2⟩ | ⟨ky,b,hb',hNb,o,ho',hd'⟩
    . exact .inl ⟨ky,m2,hns m2 hm2,e2⟩
    . exact .inr ⟨ky,b,hb',hNb,o,kp _ _ (by rintro e; rw [e,ho0] at ho'; cases ho'; cases hd') ho',hd'⟩
  have hlt : i < vals.length := (List.getElem?_eq_some_iff.mp hv).1
  refine ⟨⟨fun b o e n => kp b o (by rintro rfl; rw [hba] at e; cases e) (c.base.kp b o e n),Nat.le_trans c.base.sz hz⟩,let ⟨m,hm⟩ := c.nsx; ⟨m,hns m hm⟩,fun j y hy => ?_⟩
  obtain ⟨u,sy,hu⟩ := c.slot j y hy
  by_cases hij : i = j
  . subst hij
    rw [hx] at hy; cases hy
    refine ⟨_,hsl _ _ su,fun p hp => ?_⟩
    rw [List.getElem?_set_self hlt] at hp
    cases hp
    exact ⟨_,rfl, .inr ⟨a,ws,ys,rfl,rfl,haX,hNa,hl,hL⟩⟩
  . refine ⟨u,hsl _ _ sy,fun p hp => ?_⟩
    rw [List.getElem?_set_ne hij] at hp
    obtain ⟨v,e,iv⟩ := hu p hp
    exact ⟨v,e, .inl ((iv.is (ho j p (fun e => hij e.symm) hp)).but kp (.inl haX))⟩
theorem EV.ownName {x : Str} {pos : Pos} {i : Nat} {a : Addr} {xs : List PV} (hk : env.scope.kind = .function) (hn : NsOk ns) (hx : Ix ns x i) (hv : vals[i]? = some (some (.own a xs))) :
    EV w N Tb A env (Cx N X hb env ns vals) (.Name x pos) (fun h v => v = .ref a ∧ Cx N X hb env ns vals h) := by
  have hd := hn.dbg x (List.mem_of_getElem? hx.get)
  have hc := hn.cls x (List.mem_of_getElem? hx.get)
  refine GV.same fun s Q E c _ k => ?_
  obtain ⟨su, _⟩ := c.ownAt hx.get hv
  refine wpAny_Name ?_ hd
  rcases su with ⟨kx,m,hm,e⟩ | ⟨kx | kx,b,ha,hN,hcell⟩
  . exact wpAny_loadName_local hk kx hm e (k _ s.toks ⟨rfl,c⟩)
  . exact wpAny_loadName_cell hk kx ha hcell (k _ s.toks ⟨rfl,c⟩)
  . exact wpAny_loadName_free hk kx ha hcell (k _ s.toks ⟨rfl,c⟩) hc
theorem Fx.same {a : Addr} {W : List Addr} {h h' : Heap} (hs : Heap.SameBut a h h') (ha : a ∈ W) : Fx N W h h' :=
  ⟨fun b o hb e _ => (hs.2 b (fun e' => hb (e' ▸ ha))).trans e,by rw [hs.1]; exact Nat.le_refl _⟩
theorem Wr.has {a : Addr} (h : a ∈ X) : a ∈ Wr env ns X := List.mem_cons_of_mem _ (List.mem_append.mpr (.inr h))
theorem IsL.same {a : Addr} {h h' : Heap} {vs : List Value} {xs : List PV} (haX : a ∈ X) (hs : Heap.SameBut a h h') (hL : IsL X h vs xs) : IsL X h' vs xs := hL.but (fun b o hb e => (hs.2 b hb).trans e) (.inl haX)
theorem Is.same {a : Addr} {h h' : Heap} {v : Value} {x : PV} (haX : a ∈ X) (hs : Heap.SameBut a h h') (hL : Is X h v x) : Is X h' v x := hL.but (fun b o hb e => (hs.2 b hb).trans e) (.inl haX)
theorem TbOk.own (T : TbOk N X Tb) {a : Addr} {h h' : Heap} {vs : Array Value} (t : Tb h) (hN : N <= a) (hl : h.PlainList a vs) (hs : Heap.SameBut a h h') : Tb h' :=
  let ⟨n,ho⟩ := hl
  T.upd h h' a _ hN ho (.seq rfl) (fun b o hb e => (hs.2 b hb).trans e) (by rw [hs.1]; exact Nat.le_refl _) t
theorem SX.append (T : TbOk N X Tb) (O : BlkOk N hb env) {x : Str} {p1 apos cpos epos : Pos} {e : Expr} {i : Nat} {a : Addr} {xs : List PV} {p : PV} (hn : NsOk ns) (hx : Ix ns x i) (hv : vals[i]? = some (some (.own a xs))) (ho : OthersOk vals i) (hba : hb.get? a = none)
    (h : EV w N Tb A env (Cx N X hb env ns vals) e (IsP X p)) (hz : xs.length <= sizeLine)
    (hi : interactive env = false) (hsw : swapsWith (.Call (.Attribute (.Name x p1) (Str.ofString "append") apos) [e] [] cpos) none epos.line env = pure false)
    (hbase : attributeBase (.Name x p1) (Str.ofString "append") env (eval (.Name x p1) env) = eval (.Name x p1) env) (hline : (apos.endLine == cpos.line) = true) (he : starEach [e] env = [(false,eval e env)]) :
    SX w N Tb A env (Wr env ns X) (Cx N X hb env ns vals) (.Expr (.Call (.Attribute (.Name x p1) (Str.ofString "append") apos) [e] [] cpos) epos) (Nxt (Cx N X hb env ns (vals.set i (some (.own a (xs ++ [p])))))) := by
  constructor
  intro s Q E c t k
  refine wpAny_Expr_any (wpAny_Call_append hbase (by rw [he]; rfl) hline (by rw [he]; rfl) ((EV.ownName O.kind hn hx hv).run s _ E c t fun v h₁ t₁ n₁ T₁ ⟨hv1,c₁⟩ => ?_)) hi hsw
  subst hv1
  obtain ⟨su,haX,hNa,vs,⟨n0,hl0⟩,hL0⟩ := c₁.ownAt hx.get hv
  refine ⟨a,vs.toArray,rfl,⟨_,n0,hl0,rfl,rfl,rfl⟩, ?_⟩
  refine h.run _ _ E c₁ T₁ fun y h₂ t₂ n₂ T₂ iy => ?_
  have c₂ := Cx.stb O.hL _ _ c₁ n₂
  obtain ⟨su2, _, _,vs2,hl2,hL2⟩ := c₂.ownAt hx.get hv
  refine wpAny_list_append_plain (hsz := by simp [hL2.length]; exact hz) hl2 fun h₃ hl3 hs3 => ?_
  have hl3' : h₃.PlainList a (vs2 ++ [y]).toArray := by simpa using hl3
  exact k _ h₃ t₂ ((n₁.trans n₂).fx.trans (Fx.same hs3 (Wr.has haX))) (T.own T₂ hNa hl2 hs3) ⟨rfl,c₂.ownUpd hx.get hn.nodup hv ho hba hs3 hl3' ((hL2.same haX hs3).snoc (Is.same haX hs3 iy))⟩
theorem wpAny_reverse_plain {l : Addr} {items : Array Value} {s : Shared} {E : Value -> Shared -> Prop} {Q : Value -> Shared -> Prop} (hl : s.heap.PlainList l items)
    (hQ : ∀ h',h'.PlainList l items.reverse -> Heap.SameBut l s.heap h' -> Q .none { s with heap := h' }) (hsz : items.size <= sizeLine) : wpAny (MM w) A (call (.builtin "list.reverse") [.ref l]) Q E s := by
  obtain ⟨n,ho⟩ := hl
  refine call_meets PySem.F.slot_list_reverse ⟨_,ho,rfl⟩ PySem.F.entry_list_reverse (PySem.F.args_list_reverse_1 _) (AutoSeq1.list_reverse_list_0 l items n hsz) ⟨ho, ?_⟩
  refine hQ _ ⟨n, ?_⟩ (Heap.SameBut.update ..)
  rw [Heap.get?_update_self _ ho (by rw [mapSeq_reverse]; rfl),mapSeq_reverse]
  have e : items.toList.reverse.toArray = items.reverse := by apply Array.ext'; simp
  rw [e]
theorem SX.reverse (T : TbOk N X Tb) (O : BlkOk N hb env) {x : Str} {p1 apos cpos epos : Pos} {i : Nat} {a : Addr} {xs : List PV} (hn : NsOk ns) (hx : Ix ns x i) (hv : vals[i]? = some (some (.own a xs))) (ho : OthersOk vals i) (hba : hb.get? a = none) (hz : xs.length <= sizeLine)
    (hi : interactive env = false) (hsw : swapsWith (.Call (.Attribute (.Name x p1) (Str.ofString "reverse") apos) [] [] cpos) none epos.line env = pure false)
    (hbase : attributeBase (.Name x p1) (Str.ofString "reverse") env (eval (.Name x p1) env) = eval (.Name x p1) env) (hline : (apos.endLine == cpos.line) = true) :
    SX w N Tb A env (Wr env ns X) (Cx N X hb env ns vals) (.Expr (.Call (.Attribute (.Name x p1) (Str.ofString "reverse") apos) [] [] cpos) epos) (Nxt (Cx N X hb env ns (vals.set i (some (.own a xs.reverse))))) := by
  constructor
  intro s Q E c t k
  refine wpAny_Expr_any (Call_method0 hbase hline ((EV.ownName O.kind hn hx hv).run s _ E c t fun v h₁ t₁ n₁ T₁ ⟨hv1,c₁⟩ => ?_)) hi hsw
  subst hv1
  obtain ⟨su,haX,hNa,vs,hl0,hL0⟩ := c₁.ownAt hx.get hv
  refine ⟨"list", "list.reverse",F.plainAttrs_list,PySem.F.slot_list_reverse,PySem.F.type_list_reverse,hl0.isList.typeIs, ?_,callWith_method0 (env := env) (wpAny_reverse_plain hl0 (fun h₃ hl3 hs3 => ?_) (by simp [hL0.length]; exact hz))⟩
  . obtain ⟨n0,ho0⟩ := hl0
    intro b e; cases e; exact ⟨_,ho0,rfl⟩
  . have hl3' : h₃.PlainList a vs.reverse.toArray := by simpa using hl3
    exact k _ h₃ t₁ (n₁.fx.trans (Fx.same hs3 (Wr.has haX))) (T.own T₁ hNa hl0 hs3) ⟨rfl,c₁.ownUpd hx.get hn.nodup hv ho hba hs3 hl3' (hL0.reverse.same haX hs3)⟩
theorem EV.ownLast (O : BlkOk N hb env) {x : Str} {px pos : Pos} {idx : Expr} {i : Nat} {a : Addr} {xs : List PV} {r : PV} (hn : NsOk ns) (hx : Ix ns x i) (hv : vals[i]? = some (some (.own a xs))) (hr : xs.getLast? = some r) (hz : xs.length < 2 ^ 62)
    (hi : EV w N Tb A env (Cx N X hb env ns vals) idx (IsP X (.int (-1)))) (hp : PlainIdx idx := by trivial) : EV w N Tb A env (Cx N X hb env ns vals) (.Subscript (.Name x px) idx pos) (IsP X r) := by
  constructor
  intro s Q E c t k
  refine Subscript_ ((EV.ownName O.kind hn hx hv).run s _ E c t fun v h₁ t₁ n₁ T₁ ⟨hv1,c₁⟩ => ?_)
  subst hv1
  refine hi.run _ _ E c₁ T₁ fun b h₂ t₂ n₂ T₂ ib => ?_
  obtain ⟨u,rfl⟩ := Is.int_inv ib
  have c₂ := Cx.stb O.hL _ _ c₁ n₂
  obtain ⟨su2,haX,hNa,vs,hl,hL⟩ := c₂.ownAt hx.get hv
  have hne : xs ≠ [] := by rintro rfl; cases hr
  have hpos : 0 < xs.length := List.length_pos_iff.mpr hne
  have hx' : xs[(-1 + (xs.length : Int)).toNat]? = some r := by
    rw [List.getLast?_eq_getElem?] at hr
    rw [show (-1 + (xs.length : Int)).toNat = xs.length - 1 by lia]; exact hr
  obtain ⟨y,hy,iy⟩ := hL.get' hx'
  have hz' : vs.toArray.size = xs.length := by simp [hL.length]
  exact tail_any hl.isList.typeIs slot_list_getitem.lookup (wpAny_getItem_list_neg hl.isList (by decide) (by rw [hz']; lia) (by decide) (by rw [hz']; simpa using hy) (k y _ _ (n₁.trans n₂) T₂ iy)) (subscripted_plain hp _ _)
end
end
section
set_option autoImplicit false
structure LP (w : World) (N : Nat) (X : List Addr) (Tb : Heap -> Prop) (A : Around) (env : Env) (hb : Heap) (ns : List Str) (tg : Expr) (I : Addr) (F : List Addr) (n : Nat) (St : Nat -> Heap -> Prop) (U : Nat -> List (Option PV) -> List (Option PV)) : Prop where
  fx : ∀ i h h' W,St i h -> Fx N W h h' -> (∀ a ∈ F,a ∉ W) -> (∀ a ∈ F,N <= a) -> WOk X W h -> St i h'
  turn : ∀ i (s : Shared) (Q : Shared -> Prop) (E : Value -> Shared -> Prop) vals,i < n -> St i s.heap -> Cx N X hb env ns vals s.heap -> Tb s.heap -> (∀ a ∈ F,N <= a ∧ hb.objs.size <= a) ->
    (∀ h' tk,St (i + 1) h' -> Cx N X hb env ns (U i vals) h' -> Tb h' -> Fx N (F ++ Wr env ns []) s.heap h' -> Q { s with heap := h',toks := tk }) ->
    wpAny (MM w) A (pyNext (.ref I)) (fun r s₁ => ∃ v,r = some v ∧ wpAny (MM w) A (letOwnedTupleGo tg (.ref I) v) (fun _ s₂ => wpAny (MM w) A (assign tg env v) (fun _ s₃ => Q s₃) E s₂) E s₁) E s
  done : ∀ (s : Shared) (Q : Shared -> Prop) (E : Value -> Shared -> Prop) vals,St n s.heap -> Cx N X hb env ns vals s.heap -> Tb s.heap -> (∀ a ∈ F,N <= a ∧ hb.objs.size <= a) ->
    (∀ h' tk,Cx N X hb env ns vals h' -> Tb h' -> Fx N F s.heap h' -> Q { s with heap := h',toks := tk }) -> wpAny (MM w) A (pyNext (.ref I)) (fun r s₁ => r = none ∧ Q s₁) E s
structure LSRC (w : World) (N : Nat) (X : List Addr) (Tb : Heap -> Prop) (A : Around) (env : Env) (hb : Heap) (ns : List Str) (vals : List (Option PV)) (iter tg : Expr) (n : Nat) (U : Nat -> List (Option PV) -> List (Option PV)) : Prop where
  run : ∀ (s : Shared) (Q : Value -> Shared -> Prop) (E : Value -> Shared -> Prop),Cx N X hb env ns vals s.heap -> Tb s.heap ->
    (∀ I F St h' tk,LP w N X Tb A env hb ns tg I F n St U -> St 0 h' -> (∀ a ∈ F,s.heap.objs.size <= a) -> Nx N s.heap h' -> Tb h' -> Q (.ref I) { s with heap := h',toks := tk }) ->
    wpAny (MM w) A (eval iter env) (fun x s₁ => wpAny (MM w) A (pyIter x) Q E s₁) E s
section
variable {w : World} {N : Nat} {X : List Addr} {Tb Top : Heap -> Prop} {A : Around} {env : Env} {hb : Heap} {C : Heap -> Prop} {ns : List Str} {vals : List (Option PV)}
theorem SX.forL (T : TbOk N X Tb) (O : BlkOk N hb env) {iter tg : Expr} {pos : Pos} {body orelse : List Stmt} {n : Nat} {U : Nat -> List (Option PV) -> List (Option PV)} {V : Nat -> List (Option PV)} {VF : List (Option PV)} (hV : V 0 = vals)
    (src : LSRC w N X Tb A env hb ns vals iter tg n U)
    (hbody : ∀ j,j < n -> ST w N Tb A env (Wr env ns X) (Cx N X hb env ns (U j (V j))) body (fun f h => (f = .next ∧ Cx N X hb env ns (V (j + 1)) h) ∨ (f = .brk ∧ Cx N X hb env ns VF h)))
    (helse : ST w N Tb A env (Wr env ns X) (Cx N X hb env ns (V n)) orelse (Nxt (Cx N X hb env ns VF)))
    (hs : ∀ x,foldedSetIterable iter env x = pure x) :
    SX w N Tb A env (Wr env ns X) (Cx N X hb env ns vals) (.For tg iter body orelse pos) (Nxt (Cx N X hb env ns VF)) := by
  constructor
  intro s Q E c t k
  refine wpAny_For (src.run s _ E c t fun I F St h₁ t₁ L st hF n₁ T₁ => ?_) hs
  have c₁ := Cx.stb O.hL _ _ c n₁
  have hFN : ∀ a ∈ F,N <= a ∧ hb.objs.size <= a := fun a ha => ⟨Nat.le_trans (T.size _ t) (hF a ha),Nat.le_trans c.base.sz (hF a ha)⟩
  have hFW : ∀ a ∈ F,a ∉ Wr env ns X := fun a ha m => Nat.lt_irrefl _ (Nat.lt_of_lt_of_le (Cx.wok T c t a m).1 (hF a ha))
  have hoff : ∀ {g g' : Heap} {W : List Addr},(∀ a ∈ W,a ∈ F ∨ a ∈ Wr env ns X) -> Fx N (Wr env ns X) s.heap g -> Fx N W g g' -> Fx N (Wr env ns X) s.heap g' := fun hW f q =>
    ⟨fun b o hb' e n => q.kp b o (fun m => (hW b m).elim (fun h => Nat.lt_irrefl _ (Nat.lt_of_lt_of_le (Heap.lt_size e) (hF b h))) hb') (f.kp b o hb' e n) n,Nat.le_trans f.sz q.sz⟩
  refine codeAny_forLoop_any (I := LoopI N X hb env ns V St Tb s n) ?_ (n + 1)
    ⟨0,h₁,t₁,rfl,rfl,Nat.zero_le _,st,hV ▸ c₁,T₁,n₁.fx⟩
  rintro m s' ⟨j,h',tk,rfl,rfl,hj,stj,cj,tj,fj⟩
  by_cases hlt : j < n
  . refine wpAny_mono (L.turn j _ (fun s₃ => wpAny (MM w) A (execs body env) _ _ s₃) _ _ hlt stj cj tj hFN fun h₂ t₂ st₂ c₂ T₂ f₂ => ?_) (fun r s₁ h' => by obtain ⟨v,e,h⟩ := h'; subst e; exact h) fun _ _ e => e
    have f₂' := hoff (fun a ha => (List.mem_append.mp ha).imp id (Wr.mono a)) fj f₂
    refine (hbody j hlt).run _ _ _ c₂ T₂ fun f h₄ t₄ f₄ T₄ r => ?_
    have f₄' := f₂'.trans f₄
    rcases r with ⟨rfl,c₄⟩ | ⟨rfl,c₄⟩
    . exact ⟨n + 1 - (j + 1),by lia,j + 1,h₄,t₄,rfl,rfl,hlt,L.fx _ _ _ _ st₂ f₄ hFW (fun a ha => (hFN a ha).1) (Cx.wok T c₂ T₂),c₄,T₄,f₄'⟩
    . exact k .next h₄ t₄ f₄' T₄ ⟨rfl,c₄⟩
  . have hje : j = n := by lia
    subst hje
    refine wpAny_mono (L.done _ (fun s₃ => wpAny (MM w) A (execs orelse env) _ _ s₃) _ _ stj cj tj hFN fun h₂ t₂ c₂ T₂ f₂ => ?_) (fun r s₁ h' => by obtain ⟨e,h⟩ := h'; subst e; exact h) fun _ _ e => e
    refine helse.run _ _ _ c₂ T₂ fun f h₄ t₄ f₄ T₄ r => ?_
    exact k f h₄ t₄ ((hoff (fun a ha => .inl ha) fj f₂).trans f₄) T₄ r
theorem unpackZ {t : Addr} {items : Array Value} {targets : List (Bool × (Value -> Sem Unit))} {s : Shared} {Q : Unit -> Shared -> Prop} {E : Value -> Shared -> Prop} (hh : A.handled = none) (ht : IsTup s.heap t items)
    (hn : targets.length = items.size) (hstar : targets.findIdx? (·.1) = none)
    (h : ∀ h',Heap.ExtBut s.heap.objs.size s.heap h' -> s.heap.objs.size <= h'.objs.size -> wpAny (MM w) A (assignInOrder (targets.map (·.2)) items.toList) Q E { s with heap := h' }) :
    wpAny (MM w) A (unpack (.ref t) targets) Q E s := by
  unfold unpack
  rw [hn,hstar]
  exact wpAny_bind (wpAny_holding (wp_grows (unpackItems_tuple hh ht h)))
theorem assign2 (T : TbOk N X Tb) (O : BlkOk N hb env) (hh : A.handled = none) {x y : Str} {px py tp : Pos} {kk : Nat} {i j : Nat} {p q : PV} {v : Value} {s : Shared} {Q : Unit -> Shared -> Prop} {E : Value -> Shared -> Prop} (hx : Ix ns x i) (hy : Ix ns y j) (hn : ns.Nodup)
    (hkx : env.kindOf x = some .local ∨ EnvOk N hb env ∧ env.kindOf x ≠ some .free) (hky : env.kindOf y = some .local ∨ EnvOk N hb env ∧ env.kindOf y ≠ some .free)
    (c : Cx N X hb env ns vals s.heap) (hT : Tb s.heap) (iv : Is X s.heap v (.tup [p,q]))
    (k : ∀ h' tk,Fx N (Wr env ns []) s.heap h' -> Tb h' -> Cx N X hb env ns ((vals.set i (some p)).set j (some q)) h' -> Q () { s with heap := h',toks := tk }) :
    wpAny (MM w) A (assign (.Tuple [.Name x px, .Name y py] kk tp) env v) Q E s := by
  obtain ⟨a,vs,rfl,hax,ht,hL⟩ := iv.tup_inv
  obtain ⟨v1,v2,rfl,i1,i2⟩ := hL.two
  rw [PyProof.Rows.assign_Tuple]
  refine wpAny_bind (wpAny_standAt (unpackZ hh ht rfl rfl fun h₁ he₁ hz₁ => ?_))
  have n₁ : Nx N s.heap h₁ := .of_keep (fun b o e => he₁ b o (Nat.ne_of_lt (Heap.lt_size e)) e) hz₁
  have c₁ := Cx.stb O.hL _ _ c n₁
  have T₁ : Tb h₁ := T.keep _ _ (fun b o e => he₁ b o (Nat.ne_of_lt (Heap.lt_size e)) e) hz₁ hT
  refine assignInOrder_cons (PyProof.Rows.assign_Name (store' T O hx hn hkx c₁ T₁ (i1.nx n₁) fun h₂ t₂ f₂ T₂ c₂ => ?_))
  refine assignInOrder_cons (PyProof.Rows.assign_Name (store' T O hy hn hky c₂ T₂ ((i2.nx n₁).fx f₂ c₁.wok0) fun h₃ t₃ f₃ T₃ c₃ => assignInOrder_nil ?_))
  exact k h₃ t₃ (n₁.fx.trans (f₂.trans f₃)) T₃ c₃
theorem SX.assign2 (T : TbOk N X Tb) (O : BlkOk N hb env) (hh : A.handled = none) {x y : Str} {px py tp pos : Pos} {kk : Nat} {i j : Nat} {p q : PV} {e : Expr} (hx : Ix ns x i) (hy : Ix ns y j) (hn : NsOk ns)
    (hkx : env.kindOf x = some .local ∨ EnvOk N hb env ∧ env.kindOf x ≠ some .free) (hky : env.kindOf y = some .local ∨ EnvOk N hb env ∧ env.kindOf y ≠ some .free)
    (h : EV w N Tb A env (Cx N X hb env ns vals) e (IsP X (.tup [p,q])))
    (hs : swapsWithSole [.Tuple [.Name x px, .Name y py] kk tp] e pos.line env = pure false) (hw : swappedStores [.Tuple [.Name x px, .Name y py] kk tp] e env = pure none) :
    SX w N Tb A env (Wr env ns X) (Cx N X hb env ns vals) (.Assign [.Tuple [.Name x px, .Name y py] kk tp] e pos) (Nxt (Cx N X hb env ns ((vals.set i (some p)).set j (some q)))) := by
  constructor
  intro s Q E c t k
  refine Assign_Tuple (h.run s _ E c t fun v h₁ t₁ n₁ T₁ i₁ => ?_) hs hw
  exact Mine.assign2 T O hh hx hy hn.nodup hkx hky (Cx.stb O.hL _ _ c n₁) T₁ i₁ fun h₂ t₂ f₂ T₂ c₂ => k _ h₂ t₂ (n₁.fx.trans (f₂.sub Wr.mono)) T₂ ⟨rfl,c₂⟩
theorem go_plain {elts : List Expr} {x1 : Nat} {tp : Pos} {I : Addr} {v : Value} {s : Shared} {Q : Unit -> Shared -> Prop} {E : Value -> Shared -> Prop} {o : Obj} {nm : String} (ho : s.heap.get? I = some o) (hc : o.cls = .type nm) (hn : pairIters.contains nm = false) (k : Q () s) :
    wpAny (MM w) A (letOwnedTupleGo (.Tuple elts x1 tp) (.ref I) v) Q E s := by
  unfold letOwnedTupleGo
  cases v with
  | ref a =>
    refine wpAny_bind (wpAny_load ho ?_)
    obtain ⟨cls,d,dt,sl⟩ := o
    cases hc
    cases dt with
    | fields vs =>
      show wpAny _ _ (if (pairIters.contains nm && _) = true then _ else _) _ _ _
      rw [hn]
      exact wpAny_pure k
    | _ => exact wpAny_pure k
  | _ => exact wpAny_pure k
theorem LSRC.pairs (T : TbOk N X Tb) (O : BlkOk N hb env) (hh : A.handled = none) {iter : Expr} {x y : Str} {px py tp : Pos} {kk : Nat} {i j : Nat} {ps : List PV} {P R : Nat -> PV} (hps : ∀ (k : Nat) (p : PV),ps[k]? = some p -> p = .tup [P k,R k]) (hx : Ix ns x i) (hy : Ix ns y j) (hn : NsOk ns)
    (hkx : env.kindOf x = some .local ∨ EnvOk N hb env ∧ env.kindOf x ≠ some .free) (hky : env.kindOf y = some .local ∨ EnvOk N hb env ∧ env.kindOf y ≠ some .free)
    (src : SRC w N X Tb A env (Cx N X hb env ns vals) iter ps) :
    LSRC w N X Tb A env hb ns vals iter (.Tuple [.Name x px, .Name y py] kk tp) ps.length (fun k vals => (vals.set i (some (P k))).set j (some (R k))) := by
  constructor
  intro s Q E c t k
  refine src.run s _ E c t fun I h₁ t₁ WW hI hI' n₁ T₁ => ?_
  obtain ⟨St,W,st⟩ := WW X fun a ha => .inl ha
  refine k I [I] St h₁ t₁ ⟨?_, ?_, ?_⟩ st (by simpa using hI) n₁ T₁
  . intro i h h' W' st' f hF hN wo
    exact W.fx i h h' W' st' f (hF I (by simp)) (hN I (by simp)) wo
  . intro i' s' Q' E' vals' hlt st' c' t' hF k'
    have hp : ps[i']? = some ps[i'] := List.getElem?_eq_getElem hlt
    obtain ⟨hNI,hbI⟩ := hF I (by simp)
    obtain ⟨o,vs,ho,hd,hoc⟩ := W.obj _ _ st'
    refine wp_grows (W.item i' _ _ _ _ hp st' fun v h₂ t₂ iv st₂ kp hz => ⟨v,rfl, ?_⟩)
    have c₂ := c'.but hz ho hd hbI kp
    have T₂ : Tb h₂ := T.upd _ _ I o hNI ho (.fields hd hoc) kp hz t'
    obtain ⟨o2,nm,ho2,hc2,hnm⟩ := W.cls _ _ st₂
    refine go_plain ho2 hc2 hnm ?_
    rw [hps _ _ hp] at iv
    refine Mine.assign2 T O hh hx hy hn.nodup hkx hky c₂ T₂ iv fun h₃ t₃ f₃ T₃ c₃ => ?_
    obtain ⟨o3,vs3,ho3,hd3,hoc3⟩ := W.obj _ _ st₂
    have hIW : I ∉ Wr env ns [] := c₂.off ho3 (fun es n e => by rw [hd3] at e; cases e) (fun v e => by rw [hd3] at e; cases e)
    refine k' h₃ t₃ (W.fx _ _ _ _ st₂ f₃ hIW hNI c₂.wok0) c₃ T₃ ⟨fun b o hb' e n => f₃.kp b o (fun m => hb' (List.mem_append.mpr (.inr m))) (kp b o (fun e' => hb' (by simp [e'])) e) n,Nat.le_trans hz f₃.sz⟩
  . intro s' Q' E' vals' st' c' t' hF k'
    obtain ⟨hNI,hbI⟩ := hF I (by simp)
    obtain ⟨o,vs,ho,hd,hoc⟩ := W.obj _ _ st'
    refine wp_grows (W.done _ _ _ st' fun h₂ t₂ kp hz => ⟨rfl, ?_⟩)
    exact k' h₂ t₂ (c'.but hz ho hd hbI kp) (T.upd _ _ I o hNI ho (.fields hd hoc) kp hz t') ⟨fun b o hb' e n => kp b o (fun e' => hb' (by simp [e'])) e,hz⟩
theorem LSRC.one (T : TbOk N X Tb) (O : BlkOk N hb env) {iter : Expr} {x : Str} {px : Pos} {i : Nat} {ps : List PV} {P : Nat -> PV} (hps : ∀ (k : Nat) (p : PV),ps[k]? = some p -> p = P k) (hx : Ix ns x i) (hn : NsOk ns)
    (hkx : env.kindOf x = some .local ∨ EnvOk N hb env ∧ env.kindOf x ≠ some .free)
    (src : SRC w N X Tb A env (Cx N X hb env ns vals) iter ps) :
    LSRC w N X Tb A env hb ns vals iter (.Name x px) ps.length (fun k vals => vals.set i (some (P k))) := by
  constructor
  intro s Q E c t k
  refine src.run s _ E c t fun I h₁ t₁ WW hI hI' n₁ T₁ => ?_
  obtain ⟨St,W,st⟩ := WW X fun a ha => .inl ha
  refine k I [I] St h₁ t₁ ⟨?_, ?_, ?_⟩ st (by simpa using hI) n₁ T₁
  . intro i h h' W' st' f hF hN wo
    exact W.fx i h h' W' st' f (hF I (by simp)) (hN I (by simp)) wo
  . intro i' s' Q' E' vals' hlt st' c' t' hF k'
    have hp : ps[i']? = some ps[i'] := List.getElem?_eq_getElem hlt
    obtain ⟨hNI,hbI⟩ := hF I (by simp)
    obtain ⟨o,vs,ho,hd,hoc⟩ := W.obj _ _ st'
    refine wp_grows (W.item i' _ _ _ _ hp st' fun v h₂ t₂ iv st₂ kp hz => ⟨v,rfl, ?_⟩)
    have c₂ := c'.but hz ho hd hbI kp
    have T₂ : Tb h₂ := T.upd _ _ I o hNI ho (.fields hd hoc) kp hz t'
    show wpAny (MM w) A (pure ()) _ _ _
    rw [hps _ _ hp] at iv
    refine wpAny_pure (wpAny_assign_Name (store' T O hx hn.nodup hkx c₂ T₂ iv fun h₃ t₃ f₃ T₃ c₃ => ?_))
    obtain ⟨o3,vs3,ho3,hd3,hoc3⟩ := W.obj _ _ st₂
    have hIW : I ∉ Wr env ns [] := c₂.off ho3 (fun es n e => by rw [hd3] at e; cases e) (fun v e => by rw [hd3] at e; cases e)
    refine k' h₃ t₃ (W.fx _ _ _ _ st₂ f₃ hIW hNI c₂.wok0) c₃ T₃ ⟨fun b o hb' e n => f₃.kp b o (fun m => hb' (List.mem_append.mpr (.inr m))) (kp b o (fun e' => hb' (by simp [e'])) e) n,Nat.le_trans hz f₃.sz⟩
  . intro s' Q' E' vals' st' c' t' hF k'
    obtain ⟨hNI,hbI⟩ := hF I (by simp)
    obtain ⟨o,vs,ho,hd,hoc⟩ := W.obj _ _ st'
    refine wp_grows (W.done _ _ _ st' fun h₂ t₂ kp hz => ⟨rfl, ?_⟩)
    exact k' h₂ t₂ (c'.but hz ho hd hbI kp) (T.upd _ _ I o hNI ho (.fields hd hoc) kp hz t') ⟨fun b o hb' e n => kp b o (fun e' => hb' (by simp [e'])) e,hz⟩
end
end
section
set_option autoImplicit false
noncomputable def hb0 (n : Nat) : Heap := { objs := Array.replicate n ⟨.none,none, .freed, #[]⟩ }
theorem hb0_size (n : Nat) : (hb0 n).objs.size = n := by simp [hb0]
theorem hb0_get (n : Nat) (a : Addr) : (hb0 n).get? a = none := by
  unfold Heap.get? hb0
  by_cases h : a < n
  . have e : (Array.replicate n (⟨.none,none, .freed, #[]⟩ : Obj))[a]? = some ⟨.none,none, .freed, #[]⟩ := by rw [Array.getElem?_replicate,if_pos h]
    rw [e]
  . have e : (Array.replicate n (⟨.none,none, .freed, #[]⟩ : Obj))[a]? = none := by rw [Array.getElem?_replicate,if_neg h]
    rw [e]
theorem hb0_nx {N n : Nat} {h : Heap} (hz : n <= h.objs.size) : Nx N (hb0 n) h := ⟨(fun b o e _ => by rw [hb0_get] at e; cases e),by rw [hb0_size]; exact hz⟩
section
variable {w : World} {N : Nat} {X : List Addr} {Tb Top : Heap -> Prop} {A : Around} {env : Env} {hb : Heap} {C : Heap -> Prop} {ns : List Str} {vals : List (Option PV)}
theorem callCloB (T : TbOk N X Tb) {f : Addr} {fd : FuncData} {body : List Stmt} {d : Nat} {prm loc fr : List Str} {ps fv : List PV} {vs : List Value} {s : Shared} {Q : Value -> Shared -> Prop} {E : Value -> Shared -> Prop} (D : DefAt Tb f fd) (hcd : ∀ h,Tb h -> h.CodeRec fd.code fd.qualname) (hbody : fd.body = .stmts body)
    (hgl : fd.globals = mainGlobals) (hbu : fd.builtins = builtinsNs) (hlen : prm.length = ps.length) (hlf : fr.length = fv.length)
    (hbind : ∀ (A : Around) (s : Shared) (Q : List (Str × Value) -> Shared -> Prop) (E : Value -> Shared -> Prop),Tb s.heap -> Q (prm.zip vs) s -> wpAny (MM w) A (bindArgs fd ⟨vs, []⟩) Q E s) (hn : prm.Nodup)
    (hcell : ∀ x ∈ fd.scope.names,x.2 ≠ .cell)
    (hkind : ∀ x ∈ prm ++ loc,fd.scope.names.lookup x = some .local) (hfr : ∀ x ∈ fr,fd.scope.names.lookup x = some .free)
    (hA : AOk A (d + 1)) (iv : IsL X s.heap vs ps) (t : Tb s.heap) (pre : FrOk N X fd.closure fr fv s.heap)
    (hbd : ∀ A env h₁,AOk A d -> BlkOk N s.heap env -> env.scope = fd.scope -> env.code = fd.code -> env.cells = fd.closure -> Nx N s.heap h₁ -> Tb h₁ ->
      (∀ hb : Heap,hb.objs.size = s.heap.objs.size -> Nx N hb h₁ -> Cx N X hb env (prm ++ (loc ++ fr)) (ps.map some ++ ((loc.map fun _ => none) ++ fv.map some)) h₁) ->
      ∀ (tk₁ : Tok) (Q' : Flow -> Shared -> Prop) (E' : Value -> Shared -> Prop),(∀ fl h' tk',Q (retOf fl) { s with heap := h',toks := tk' } -> Q' fl { s with heap := h',toks := tk' }) -> wpAny (MM w) A (execs body env) Q' E' { s with heap := h₁,toks := tk₁ })
    (hco : fd.scope.isCoroutine = false := by rfl) (hgen : fd.scope.isGenerator = false := by rfl) (hk : fd.scope.kind = .function := by rfl) : wpAny (MM w) A (call (.ref f) vs) Q E s := by
  obtain ⟨o,hdat,ho⟩ := D
  have hvl : vs.length = prm.length := by rw [iv.length,hlen]
  refine wpAny_call (codeAny_call_function (by have := hA.dp; show A.depth < 1000; lia) (ho _ t) hdat hco hgen hbody (hcd _ t) ?_)
  refine hbind _ _ _ _ t (wpAny_newFunctionEnv hcell (fun y hy => hkind y.1 (List.mem_append.mpr (.inl (mem_zip_fst hy)))) (fun h₁ hns hsb => ?_) hk)
  have hz1 : (s.heap.push { cls := .type "frame",data := .dict #[] }).objs.size = s.heap.objs.size + 1 := Heap.size_push ..
  have hsb' : Heap.SameBut s.heap.objs.size (s.heap.push { cls := .type "frame",data := .dict #[] }) h₁ := hsb
  have hz : s.heap.objs.size <= h₁.objs.size := by rw [hsb'.1]; lia
  have keep : ∀ b o,s.heap.get? b = some o -> h₁.get? b = some o := fun b o e => (hsb'.2 b (Nat.ne_of_lt (Heap.lt_size e))).trans (Heap.get?_push_of_some _ e)
  have hN : N <= s.heap.objs.size := T.size _ t
  have t₁ : Tb h₁ := T.keep _ _ keep hz t
  have n₁ : Nx N s.heap h₁ := .of_keep keep hz
  generalize henv : newEnv fd.scope s.heap.objs.size fd.globals fd.closure (fd.qualname ++ ".<locals>.") (some f) fd.code none fd.builtins = env
  have eL : env.locals = s.heap.objs.size := by rw [<- henv]; rfl
  have eS : env.scope = fd.scope := by rw [<- henv]; rfl
  have eC : env.cells = fd.closure := by rw [<- henv]; rfl
  have B : BlkOk N s.heap env := ⟨by rw [eS]; exact hk,by rw [<- henv]; exact hgl,by rw [<- henv]; exact hbu,by rw [eL]; exact Nat.le_refl _,hN⟩
  have hA' : AOk (A.deeper env) d := ⟨hA.hd,by have := hA.dp; show A.depth + 1 + d < 700; lia,by have := hA.un; show A.units + 3 + 100 * d < 5000; lia⟩
  refine ⟨T.limit _ t₁,codeAny_func ?_⟩
  refine hbd _ env h₁ hA' B eS (by rw [<- henv]; rfl) eC n₁ t₁ (fun hb hbz hbn => ⟨hbn,⟨_,eL ▸ hns⟩,fun i y hy => ?_⟩) _ _ _ fun fl h' tk' hr => ?_
  . by_cases hi : i < prm.length
    . have hy' : prm[i]? = some y := by rw [List.getElem?_append_left hi] at hy; exact hy
      have hkl : env.kindOf y = some .local := by rw [Env.kindOf,eS]; exact hkind y (List.mem_append.mpr (.inl (List.mem_of_getElem? hy')))
      refine ⟨_, .inl ⟨hkl, _,eL ▸ hns,rfl⟩,fun p hp => ?_⟩
      rw [List.getElem?_append_left (by rw [List.length_map, <- hlen]; exact hi),List.getElem?_map] at hp
      cases hpi : ps[i]? with
      | none => rw [hpi] at hp; cases hp
      | some q =>
        rw [hpi] at hp; cases hp
        obtain ⟨v,hv,hiv⟩ := iv.get' hpi
        exact ⟨v,zip_lookup _ _ hn hy' hv, .inl (hiv.nx n₁)⟩
    . rw [List.getElem?_append_right (Nat.not_lt.mp hi)] at hy
      have hvals : (ps.map some ++ ((loc.map fun _ => (none : Option PV)) ++ fv.map some))[i]? = ((loc.map fun _ => (none : Option PV)) ++ fv.map some)[i - prm.length]? := by
        rw [List.getElem?_append_right (by rw [List.length_map, <- hlen]; exact Nat.not_lt.mp hi),List.length_map,hlen]
      rw [hvals]
      generalize i - prm.length = j at hy
      by_cases hj : j < loc.length
      . rw [List.getElem?_append_left hj] at hy
        have hkl : env.kindOf y = some .local := by rw [Env.kindOf,eS]; exact hkind y (List.mem_append.mpr (.inr (List.mem_of_getElem? hy)))
        refine ⟨_, .inl ⟨hkl, _,eL ▸ hns,rfl⟩,fun p hp => ?_⟩
        rw [List.getElem?_append_left (by simpa using hj),List.getElem?_map] at hp
        cases hq : loc[j]? with
        | none => rw [hq] at hp; cases hp
        | some z => rw [hq] at hp; cases hp
      . rw [List.getElem?_append_right (Nat.not_lt.mp hj)] at hy
        rw [List.getElem?_append_right (by simpa using Nat.not_lt.mp hj),List.length_map]
        generalize j - loc.length = m at hy
        have hkf : env.kindOf y = some .free := by rw [Env.kindOf,eS]; exact hfr y (List.mem_of_getElem? hy)
        have hm : m < fv.length := by rw [<- hlf]; exact (List.getElem?_eq_some_iff.mp hy).1
        obtain ⟨c,v,hc,hNc,hcv,hiv⟩ := pre m y _ hy (List.getElem?_eq_getElem hm)
        refine ⟨some v, .inr ⟨.inr hkf,c,by rw [eC]; exact hc,hNc,hcv.keeps keep⟩,fun p hp => ?_⟩
        rw [List.getElem?_map,List.getElem?_eq_getElem hm] at hp
        cases hp
        exact ⟨v,rfl, .inl (hiv.nx n₁)⟩
  . cases fl <;> exact hr
theorem callClo (T : TbOk N X Tb) {f : Addr} {fd : FuncData} {body : List Stmt} {d : Nat} {prm loc fr : List Str} {ps fv : List PV} {vs : List Value} {s : Shared} {Q : Value -> Shared -> Prop} {E : Value -> Shared -> Prop} (D : DefAt Tb f fd) (hcd : ∀ h,Tb h -> h.CodeRec fd.code fd.qualname) (hbody : fd.body = .stmts body)
    (hgl : fd.globals = mainGlobals) (hbu : fd.builtins = builtinsNs) (hlen : prm.length = ps.length) (hlf : fr.length = fv.length)
    (hbind : ∀ vs : List Value,vs.length = prm.length -> bindArgs fd ⟨vs, []⟩ = pure (prm.zip vs)) (hn : prm.Nodup)
    (hcell : ∀ x ∈ fd.scope.names,x.2 ≠ .cell)
    (hkind : ∀ x ∈ prm ++ loc,fd.scope.names.lookup x = some .local) (hfr : ∀ x ∈ fr,fd.scope.names.lookup x = some .free)
    (hA : AOk A (d + 1)) (iv : IsL X s.heap vs ps) (t : Tb s.heap) (pre : FrOk N X fd.closure fr fv s.heap)
    (hbd : ∀ A env h₁,AOk A d -> BlkOk N s.heap env -> env.scope = fd.scope -> env.code = fd.code -> env.cells = fd.closure -> Nx N s.heap h₁ -> Tb h₁ ->
      (∀ hb : Heap,hb.objs.size = s.heap.objs.size -> Nx N hb h₁ -> Cx N X hb env (prm ++ (loc ++ fr)) (ps.map some ++ ((loc.map fun _ => none) ++ fv.map some)) h₁) ->
      ∀ (tk₁ : Tok) (Q' : Flow -> Shared -> Prop) (E' : Value -> Shared -> Prop),(∀ fl h' tk',Q (retOf fl) { s with heap := h',toks := tk' } -> Q' fl { s with heap := h',toks := tk' }) -> wpAny (MM w) A (execs body env) Q' E' { s with heap := h₁,toks := tk₁ })
    (hco : fd.scope.isCoroutine = false := by rfl) (hgen : fd.scope.isGenerator = false := by rfl) (hk : fd.scope.kind = .function := by rfl) : wpAny (MM w) A (call (.ref f) vs) Q E s :=
  callCloB T D hcd hbody hgl hbu hlen hlf (fun A s Q E _ h => by rw [hbind vs (by rw [iv.length,hlen])]; exact wpAny_pure h) hn hcell hkind hfr hA iv t pre hbd hco hgen hk
theorem SX.callW {fe : Expr} {pos epos : Pos} {e : Expr} {es : List Expr} {ps : List PV} {f : Addr} {fd : FuncData} {W : List Addr} {C' : Heap -> Prop} (hC : Stb N C) (hname : EV w N Tb A env C fe (IsP X (.raw (.ref f)))) (D : DefAt Tb f fd) (ha : EVs w N X Tb A env C pos (e :: es) ps)
    (F : ∀ vs (s : Shared) (Q E : Value -> Shared -> Prop),C s.heap -> Tb s.heap -> IsL X s.heap vs ps -> (∀ v h' tk,Fx N W s.heap h' -> Tb h' -> C' h' -> Q v { s with heap := h',toks := tk }) -> wpAny (MM w) A (call (.ref f) vs) Q E s)
    (he : starEach (e :: es) env = (false,eval e env) :: starEach es env) (hcall : ∀ (s : Shared) (Q E : Value -> Shared -> Prop),wpAny (MM w) A (eval fe env) (fun v s₁ => wpAny (MM w) A (callWith pos v [] (backTo pos (starEach (e :: es) env)) []) Q E s₁) E s -> wpAny (MM w) A (eval (.Call fe (e :: es) [] pos) env) Q E s)
    (hi : interactive env = false) (hsw : swapsWith (.Call fe (e :: es) [] pos) none epos.line env = pure false) :
    SX w N Tb A env W C (.Expr (.Call fe (e :: es) [] pos) epos) (Nxt C') := by
  constructor
  intro s Q E c t k
  obtain ⟨o,hdat,ho⟩ := D
  refine wpAny_Expr_any (hcall s _ E (hname.run s _ E c t fun v h₁ t₁ n₁ T₁ hv => ?_)) hi hsw
  obtain rfl := Is.raw_inv hv
  rw [he]
  refine callWith_function (o := o) (fd := fd) (evalArgs_plain ?_)
  show wpAny (MM w) A (spliced (backTo pos ((false,eval e env) :: starEach es env))) _ E _
  rw [<- he]
  exact ha.run _ _ E (hC _ _ c n₁) T₁ fun vs h₂ t₂ n₂ T₂ i₂ => ⟨⟨ho _ T₂,hdat⟩,F vs _ _ E (hC _ _ c (n₁.trans n₂)) T₂ i₂ fun v h₃ t₃ f₃ T₃ c₃ => k _ h₃ t₃ ((n₁.trans n₂).fx.trans f₃) T₃ ⟨rfl,c₃⟩⟩
theorem wpAny_set_plainI {l : Addr} {vs : List Value} {k : Int} {t : Tok} {v : Value} {s : Shared} {Q : Unit -> Shared -> Prop} {E : Value -> Shared -> Prop} (hl : s.heap.PlainList l vs.toArray) (h0 : 0 <= k) (hfit : k < 2 ^ 63) (hn : k < vs.length)
    (hQ : ∀ h',h'.PlainList l (vs.set k.toNat v).toArray -> Heap.SameBut l s.heap h' -> Q () { s with heap := h' }) : wpAny (MM w) A (setItem (.ref l) (.int k t) v) Q E s := by
  obtain ⟨n,ho⟩ := id hl
  have hL := hl.isList
  unfold setItem
  try with_reducible refine wpAny_holding ?_
  first | refine wpAny_bind (wpAny_pure ?_) | skip
  refine wpAny_bind (wpAny_sequenceKey hL.typeIs (by decide) ?_)
  refine wpAny_bind (wpAny_callSpecial?_slot (name := Str.ofString "__setitem__") hL.typeIs slot_list_setitem
    (wpAny_call_entry slot_list_setitem hL.typeIs entry_list_setitem ?_ (args_list_setitem _ _ _)))
  show wpAny _ _ (Builtin.List.listSubscript? (.int k t) >>= _) _ _ s
  refine wpAny_bind (wpAny_listSubscript_int (fitsIndex_of h0 hfit) ?_)
  clear hfit
  obtain ⟨j,rfl⟩ := Int.eq_ofNat_of_zero_le h0
  have hk : j < vs.length := by lia
  have hx' : vs.toArray[j]? = some vs[j] := by simp [hk]
  show wpAny _ _ ((seqItemAt l j >>= fun r => pure (r.map (j, ·))) >>= _) _ _ s
  refine wpAny_bind (wpAny_bind (wpAny_seqItemAt ho rfl (wpAny_pure ?_)))
  rw [hx']
  show wpAny _ _ (setSeqItemAt l j v >>= _) _ _ s
  have hfin : (s.heap.update l (Obj.mapSeq (·.setIfInBounds j v))).PlainList l (vs.set j v).toArray := by
    refine ⟨?_, ?_⟩
    rotate_left
    . rw [Heap.get?_update_self _ ho (by simp [Obj.mapSeq,Obj.isFreed])]
      simp only [Obj.mapSeq,List.setIfInBounds_toArray]
      rfl
  refine wpAny_bind (wpAny_setSeqItemAt ho rfl ?_)
  first
    | exact wpAny_bind (wpAny_pure (wpAny_pure ⟨.none,rfl,wpAny_pure (hQ _ hfin (Heap.SameBut.update ..))⟩))
    | exact wpAny_pure ⟨.none,rfl,wpAny_pure (hQ _ hfin (Heap.SameBut.update ..))⟩
theorem wpAny_set_plain {l : Addr} {vs : List Value} {k : Nat} {t : Tok} {v : Value} {s : Shared} {Q : Unit -> Shared -> Prop} {E : Value -> Shared -> Prop} (hl : s.heap.PlainList l vs.toArray) (hk : k < vs.length) (hk2 : k < 2 ^ 62)
    (hQ : ∀ h',h'.PlainList l (vs.set k v).toArray -> Heap.SameBut l s.heap h' -> Q () { s with heap := h' }) : wpAny (MM w) A (setItem (.ref l) (.int (k : Int) t) v) Q E s :=
  wpAny_set_plainI hl (by lia) (by lia) (by lia) hQ
theorem IsL.set {h : Heap} : ∀ {vs : List Value} {xs : List PV} (k : Nat) {v : Value} {p : PV},IsL X h vs xs -> Is X h v p -> IsL X h (vs.set k v) (xs.set k p)
  | _, _, _, _, _, .nil, _ => .nil
  | _, _,0, _, _, .cons a b,i => .cons i b
  | _, _,k + 1, _, _, .cons a b,i => .cons a (b.set k i)
theorem SX.setAt (T : TbOk N X Tb) (O : BlkOk N hb env) {x : Str} {p1 ps' pos : Pos} {idx e : Expr} {i j : Nat} {a : Addr} {xs : List PV} {p : PV} (hn : NsOk ns) (hx : Ix ns x i) (hv : vals[i]? = some (some (.own a xs))) (ho : OthersOk vals i) (hba : hb.get? a = none)
    (h : EV w N Tb A env (Cx N X hb env ns vals) e (IsP X p)) (hi : EV w N Tb A env (Cx N X hb env ns vals) idx (IsP X (.int (j : Nat)))) (hj : j < xs.length) (hj2 : j < 2 ^ 62)
    (hs : swapsWith e (some (.Subscript (.Name x p1) idx ps')) pos.line env = pure false) :
    SX w N Tb A env (Wr env ns X) (Cx N X hb env ns vals) (.Assign [.Subscript (.Name x p1) idx ps'] e pos) (Nxt (Cx N X hb env ns (vals.set i (some (.own a (xs.set j p)))))) := by
  constructor
  intro s Q E c t k
  refine wpAny_Assign_Subscript (h.run s _ E c t fun y h₁ t₁ n₁ T₁ iy => ?_) hs
  have c₁ := Cx.stb O.hL _ _ c n₁
  refine (EV.ownName O.kind hn hx hv).run _ _ E c₁ T₁ fun v h₂ t₂ n₂ T₂ ⟨hv2,c₂⟩ => ?_
  subst hv2
  refine hi.run _ _ E c₂ T₂ fun b h₃ t₃ n₃ T₃ ib => ?_
  obtain ⟨u,rfl⟩ := Is.int_inv ib
  have c₃ := Cx.stb O.hL _ _ c₂ n₃
  obtain ⟨su,haX,hNa,vs,hl,hL⟩ := c₃.ownAt hx.get hv
  refine wpAny_set_plain hl (by rw [hL.length]; exact hj) hj2 fun h₄ hl4 hs4 => ?_
  exact k _ h₄ t₃ (((n₁.trans n₂).trans n₃).fx.trans (Fx.same hs4 (Wr.has haX))) (T.own T₃ hNa hl hs4) ⟨rfl,c₃.ownUpd hx.get hn.nodup hv ho hba hs4 hl4 ((hL.same haX hs4).set j (Is.same haX hs4 (iy.nx (n₂.trans n₃))))⟩
theorem EV.ownLen (O : BlkOk N hb env) {x : Str} {px pf pos : Pos} {i : Nat} {a : Addr} {xs : List PV} (hn : NsOk ns) (hx : Ix ns x i) (hv : vals[i]? = some (some (.own a xs))) (hz : xs.length < 2 ^ 62) (hkl : env.kindOf (Str.ofString "len") = some .globalImplicit) (G : BuiltIs Tb (Str.ofString "len") (.builtin "len"))
    (he : starEach [Expr.Name x px] env = [(false,eval (.Name x px) env)]) : EV w N Tb A env (Cx N X hb env ns vals) (.Call (.Name (Str.ofString "len") pf) [.Name x px] [] pos) (IsP X (.int xs.length)) := by
  constructor
  intro s Q E c t k
  refine Call_ ((EV.built (N := N) (C := Cx N X hb env ns vals) O.kind O.glob O.bui hkl G (by decide)).run s _ E c t fun v h₁ t₁ n₁ T₁ hv1 => ?_)
  subst hv1
  refine PyProof.Rows.callWith_builtin1 ?_ he rfl
  refine args_cons ((EV.ownName O.kind hn hx hv).run _ _ E (Cx.stb O.hL _ _ c n₁) T₁ fun v h₂ t₂ n₂ T₂ ⟨hv2,c₂⟩ => args_nil ?_) he
  subst hv2
  obtain ⟨su,haX,hNa,vs,hl,hL⟩ := c₂.ownAt hx.get hv
  have e : vs.toArray.size = xs.length := by simp [hL.length]
  refine len_list hl.isList (by rw [e]; lia) ?_
  rw [e]
  exact k _ _ _ (n₁.trans n₂) T₂ (.int _ _)
theorem SX.retOwn {W : List Addr} (O : BlkOk N hb env) {x : Str} {px pos : Pos} {i : Nat} {a : Addr} {xs : List PV} (hn : NsOk ns) (hx : Ix ns x i) (hv : vals[i]? = some (some (.own a xs))) (haX : a ∉ X) :
    SX w N Tb A env W (Cx N (a :: X) hb env ns vals) (.Return (some (.Name x px)) pos) (Ret N X hb (.list xs)) :=
  ⟨fun s _ E c t k => wpAny_Return_some ((EV.ownName O.kind hn hx hv).run s _ E c t fun v h' tk n t' ⟨e,c'⟩ => by
    obtain ⟨su, _,hNa,vs,hl,hL⟩ := c'.ownAt hx.get hv
    exact k _ _ _ n.fx t' ⟨v,rfl,by rw [e]; exact .list haX hl (hL.sub fun b hb => List.mem_cons_of_mem _ hb),c'.base⟩)⟩
theorem FL.rep {e r : Expr} {pl pos : Pos} {x : PV} {n : Int} (T : TbOk N X Tb) (hC : Stb N C) (hx : EV w N Tb A env C e (IsP X x)) (hr : EV w N Tb A env C r (IsP X (.int n))) (h0 : 0 <= n) (hn : n <= 2 ^ 24) (he : starEach [e] env = [(false,eval e env)]) :
    FL w N X Tb A env C (.BinOp (.List [e] pl) .Mult r pos) (List.replicate n.toNat x) := by
  constructor
  intro s Q E hc hT k
  refine wpAny_BinOp ((EV.list (ps := [x]) T (EVs.cons hC hx EVs.nil he) (by simp [sizeLine])).run s _ E hc hT fun v h₁ t₁ n₁ T₁ i₁ => ?_)
  refine hr.run _ _ E (hC _ _ hc n₁) T₁ fun u h₂ t₂ n₂ T₂ i₂ => ?_
  obtain ⟨l,vs,rfl,hxa,⟨kk,hl⟩,hL⟩ := (Is.nx n₂ i₁).list_inv
  obtain ⟨u,rfl⟩ := Is.int_inv i₂
  have h1 : vs.length = 1 := hL.length
  have hsz : vs.toArray.size * n.toNat <= 2 ^ 24 := by simp [h1]; lia
  refine wpAny_binaryOp_repeat_ref (T := "list") (U := "int") (by decide) ⟨_,hl,rfl⟩ (fun s' => typeIs_int s' n u) noFill_list_mul F.fills_int_mul F.slot_int_rmul repeat_list F.slot_int_index.lookup
    (call_meets F.slot_int_rmul (typeIs_int _ n u) F.entry_int_rmul (F.args_int_rmul_2 _ _) (int___rmul___int_list n u l vs.toArray kk)
      ⟨hl,rfl,⟨_,hl,rfl⟩,call_meets F.slot_list_mul ⟨_,hl,rfl⟩ F.entry_list_mul (F.args_list_mul_2 _ _)
        (AutoListH.list___mul___list_int_3 l vs.toArray kk n u (by simp [Builtin.List.listFitsIndex]; lia) (by lia) (by simp only [Builtin.List.listTooLong,sizeLine]; simp; lia))
        ⟨hl, ?_⟩⟩)
  have e' : List.replicate n.toNat x = (List.replicate n.toNat [x]).flatten := by simp
  refine k h₂.objs.size (List.replicate n.toNat vs).flatten _ _ (n₁.trans n₂).sz (by rw [Heap.size_push]; exact Nat.lt_succ_self _) ((n₁.trans n₂).trans (.push _ _)) (T.push T₂ _) ⟨0, ?_⟩ ?_
  . rw [Heap.get?_push_size _ rfl,foldl_rep]
    have : vs.toArray.isEmpty = false := by cases vs with
      | nil => simp at h1
      | cons a b => rfl
    rw [this]
    simp
  . rw [e']
    exact ((hL.rep _).grow fun b hb => (List.mem_cons.mp hb).elim (fun e => .inr (by rw [e]; exact Nat.le_refl _)) .inl).nx (.push (N := N) _ _)
end
end
section
set_option autoImplicit false
theorem nat_and_split (k d m v w : Nat) (hd : d < 2 ^ k) (hm : m < 2 ^ k) : (d + v * 2 ^ k) &&& (m + w * 2 ^ k) = (d &&& m) + (v &&& w) * 2 ^ k := by
  have e1 : d + v * 2 ^ k = 2 ^ k * v + d := by rw [Nat.mul_comm,Nat.add_comm]
  have e2 : m + w * 2 ^ k = 2 ^ k * w + m := by rw [Nat.mul_comm,Nat.add_comm]
  have e3 : (d &&& m) + (v &&& w) * 2 ^ k = 2 ^ k * (v &&& w) + (d &&& m) := by rw [Nat.mul_comm,Nat.add_comm]
  rw [e1,e2,e3]
  apply Nat.eq_of_testBit_eq
  intro i
  rw [Nat.testBit_and,Nat.testBit_two_pow_mul_add _ hd,Nat.testBit_two_pow_mul_add _ hm,Nat.testBit_two_pow_mul_add _ (Nat.and_lt_two_pow _ hm)]
  split <;> rw [Nat.testBit_and]
theorem and_nat (a b : Nat) : Builtin.bitAnd (a : Int) (b : Int) = ((a &&& b : Nat) : Int) := by
  rw [bitAnd_pp (by lia) (by lia),Int.toNat_natCast,Int.toNat_natCast]
theorem and_nonneg {x y : Int} (hx : 0 <= x) (hy : 0 <= y) : 0 <= Builtin.bitAnd x y := by rw [bitAnd_pp hx hy]; lia
theorem and_le {x y : Int} (hx : 0 <= x) (hy : 0 <= y) : Builtin.bitAnd x y <= x := by
  rw [bitAnd_pp hx hy]
  have := @Nat.and_le_left x.toNat y.toNat
  lia
theorem and_split (k : Nat) {d m v w : Int} (hd0 : 0 <= d) (hd : d < 2 ^ k) (hm0 : 0 <= m) (hm : m < 2 ^ k) (hv : 0 <= v) (hw : 0 <= w) :
    Builtin.bitAnd (d + v * 2 ^ k) (m + w * 2 ^ k) = Builtin.bitAnd d m + Builtin.bitAnd v w * 2 ^ k := by
  obtain ⟨d,rfl⟩ := Int.eq_ofNat_of_zero_le hd0
  obtain ⟨m,rfl⟩ := Int.eq_ofNat_of_zero_le hm0
  obtain ⟨v,rfl⟩ := Int.eq_ofNat_of_zero_le hv
  obtain ⟨w,rfl⟩ := Int.eq_ofNat_of_zero_le hw
  have e : ∀ a b : Nat,(a : Int) + (b : Int) * 2 ^ k = ((a + b * 2 ^ k : Nat) : Int) := fun a b => by push_cast; rfl
  rw [e,e,and_nat,and_nat,and_nat,e,nat_and_split k d m v w (by exact_mod_cast hd) (by exact_mod_cast hm)]
theorem and_d2i : ∀ xs ys : List Int,Dig xs -> Dig ys -> xs.length = ys.length -> Builtin.bitAnd (d2i xs) (d2i ys) = d2i (List.zipWith Builtin.bitAnd xs ys)
  | [], [], _, _, _ => by rw [d2i,List.zipWith_nil_left,d2i]; decide
  | [], _ :: _, _, _,h => by simp at h
  | _ :: _, [], _, _,h => by simp at h
  | x :: xs,y :: ys,hx,hy,h => by
    have h1 := hx x List.mem_cons_self
    have h2 := hy y List.mem_cons_self
    have hx' : Dig xs := fun d hd => hx d (List.mem_cons_of_mem _ hd)
    have hy' : Dig ys := fun d hd => hy d (List.mem_cons_of_mem _ hd)
    rw [d2i,d2i,List.zipWith_cons_cons,d2i, <- and_d2i xs ys hx' hy' (by simpa using h)]
    exact and_split 16 h1.1 h1.2 h2.1 h2.2 (d2i_bound xs hx').1 (d2i_bound ys hy').1
theorem toldF_and : ∀ (bs cs : List Int) (n m : Int),(∀ b ∈ bs,bt b) -> (∀ c ∈ cs,bt c) -> bs.length = cs.length -> 0 <= n -> 0 <= m ->
    Builtin.bitAnd (toldF n bs) (toldF m cs) = toldF (Builtin.bitAnd n m) (List.zipWith Builtin.bitAnd bs cs)
  | [], [], _, _, _, _, _, _, _ => rfl
  | [], _ :: _, _, _, _, _,h, _, _ => by simp at h
  | _ :: _, [], _, _, _, _,h, _, _ => by simp at h
  | b :: bs,c :: cs,n,m,hb,hc,h,hn,hm => by
    have h1 := hb b List.mem_cons_self
    have h2 := hc c List.mem_cons_self
    have b0 := h1.nn
    have c0 := h2.nn
    have b1 : b < 2 ^ 1 := by rcases h1 with rfl | rfl <;> decide
    have c1 : c < 2 ^ 1 := by rcases h2 with rfl | rfl <;> decide
    have e := and_split 1 b0 b1 c0 c1 hn hm
    have ih := toldF_and bs cs (n * 2 + b) (m * 2 + c) (fun x hx => hb x (List.mem_cons_of_mem _ hx)) (fun x hx => hc x (List.mem_cons_of_mem _ hx)) (by simpa using h) (by lia) (by lia)
    show Builtin.bitAnd (toldF (n * 2 + b) bs) (toldF (m * 2 + c) cs) = toldF (Builtin.bitAnd n m * 2 + Builtin.bitAnd b c) (List.zipWith Builtin.bitAnd bs cs)
    rw [ih]
    congr 1
    rw [show n * 2 + b = b + n * 2 ^ 1 by lia,show m * 2 + c = c + m * 2 ^ 1 by lia,e]
    lia
end
section
set_option autoImplicit false
theorem d2i_map_add (f g : Int -> Int) : ∀ ds : List Int,d2i (ds.map fun t => f t + g t) = d2i (ds.map f) + d2i (ds.map g)
  | [] => rfl
  | t :: ds => by simp only [List.map_cons,d2i,d2i_map_add f g ds]; lia
theorem d2i_map_sub (f g : Int -> Int) : ∀ ds : List Int,d2i (ds.map fun t => f t - g t) = d2i (ds.map f) - d2i (ds.map g)
  | [] => rfl
  | t :: ds => by simp only [List.map_cons,d2i,d2i_map_sub f g ds]; lia
theorem d2i_map_mul (c : Int) (f : Int -> Int) : ∀ ds : List Int,d2i (ds.map fun t => c * f t) = c * d2i (ds.map f)
  | [] => by simp [d2i]
  | t :: ds => by simp only [List.map_cons,d2i,d2i_map_mul c f ds,Int.mul_add,Int.mul_assoc]
theorem d2i_map_const (m : Int) : ∀ ds : List Int,d2i (List.replicate ds.length m) = d2i (ds.map fun _ => m)
  | [] => rfl
  | t :: ds => by simp only [List.map_cons,List.length_cons,List.replicate_succ,d2i,d2i_map_const m ds]
theorem d2i_map_id : ∀ ds : List Int,d2i (ds.map fun t => t) = d2i ds
  | [] => rfl
  | t :: ds => by simp only [List.map_cons,d2i,d2i_map_id ds]
theorem d2i_map_congr {f g : Int -> Int} {ds : List Int} (h : ∀ t ∈ ds,f t = g t) : d2i (ds.map f) = d2i (ds.map g) := by
  rw [List.map_congr_left h]
theorem and_map (f g : Int -> Int) : ∀ ds : List Int,Dig (ds.map f) -> Dig (ds.map g) -> Builtin.bitAnd (d2i (ds.map f)) (d2i (ds.map g)) = d2i (ds.map fun t => Builtin.bitAnd (f t) (g t)) := by
  intro ds hf hg
  rw [and_d2i _ _ hf hg (by simp),List.zipWith_map]
  congr 1
  induction ds with
  | nil => rfl
  | cons t ds ih => simp only [List.zipWith_cons_cons,List.map_cons]; rw [ih (fun d hd => hf d (List.mem_cons_of_mem _ hd)) (fun d hd => hg d (List.mem_cons_of_mem _ hd))]
theorem Dig.map {f : Int -> Int} {ds : List Int} (h : ∀ t ∈ ds,0 <= f t ∧ f t < 65536) : Dig (ds.map f) := fun d hd => by
  obtain ⟨t,ht,rfl⟩ := List.mem_map.mp hd
  exact h t ht
theorem fdiv_map {c : Int} (hc : 0 < c) {f : Int -> Int} {ds : List Int} (h : ∀ t ∈ ds,f t = c * (f t).fdiv c) : (d2i (ds.map f)).fdiv c = d2i (ds.map fun t => (f t).fdiv c) := by
  rw [d2i_map_congr h,d2i_map_mul c fun t => (f t).fdiv c,Int.mul_fdiv_cancel_left _ (by lia)]
theorem and_292 {t : Int} (h : 0 <= t) : Builtin.bitAnd t 292 = 4 * (Builtin.bitAnd t 292).fdiv 4 := by
  have e := and_split 2 (d := t % 4) (m := 0) (v := t / 4) (w := 73) (by lia) (by lia) (by decide) (by decide) (by lia) (by decide)
  rw [show t % 4 + t / 4 * 2 ^ 2 = t by lia,show (0 : Int) + 73 * 2 ^ 2 = 292 by decide,bitAnd_zero] at e
  rw [e]
  generalize Builtin.bitAnd (t / 4) 73 = y
  rw [Int.fdiv_eq_ediv_of_nonneg _ (by decide)]
  lia
theorem and_292' {t : Int} (h : 0 <= t) : Builtin.bitAnd t 292 = 2 * (Builtin.bitAnd t 292).fdiv 2 := by
  have e := and_292 h
  generalize Builtin.bitAnd t 292 = y at *
  rw [Int.fdiv_eq_ediv_of_nonneg _ (by decide)] at *
  lia
theorem and_dig {t m : Int} (h : 0 <= t ∧ t < 65536) (hm : 0 <= m) : 0 <= Builtin.bitAnd t m ∧ Builtin.bitAnd t m < 65536 := ⟨and_nonneg h.1 hm,Int.lt_of_le_of_lt (and_le h.1 hm) h.2⟩
theorem done_d2i (ds : List Int) (hd : Dig ds) (x : Int) : doneOf (fun m => d2i (List.replicate ds.length m)) (d2i ds) x = d2i (ds.map fun t => doneOf (fun m => m) t x) := by
  have hid : Dig (ds.map fun t => t) := by simpa using hd
  have hcon : ∀ m : Int,0 <= m -> m < 65536 -> Dig (ds.map fun _ => m) := fun m h1 h2 => .map fun _ _ => ⟨h1,h2⟩
  have hN : d2i ds = d2i (ds.map fun t => t) := (d2i_map_id ds).symm
  unfold doneOf
  simp only [d2i_map_const]
  rw [hN]
  have hm0 : 0 <= (x.fdiv 4).fmod 4096 := Int.fmod_nonneg_of_pos _ (by decide)
  have hm1 : (x.fdiv 4).fmod 4096 < 65536 := by have := Int.fmod_lt_of_pos (x.fdiv 4) (show (0:Int) < 4096 by decide); lia
  have a292 := and_map (fun t => t) (fun _ => 292) ds hid (hcon 292 (by decide) (by decide))
  have a146 := and_map (fun t => t) (fun _ => 146) ds hid (hcon 146 (by decide) (by decide))
  have d4 : (d2i (ds.map fun t => Builtin.bitAnd t 292)).fdiv 4 = d2i (ds.map fun t => (Builtin.bitAnd t 292).fdiv 4) := fdiv_map (by decide) fun t ht => and_292 (hd t ht).1
  have d2 : (d2i (ds.map fun t => Builtin.bitAnd t 292)).fdiv 2 = d2i (ds.map fun t => (Builtin.bitAnd t 292).fdiv 2) := fdiv_map (by decide) fun t ht => and_292' (hd t ht).1
  have h292 : ∀ t ∈ ds,0 <= Builtin.bitAnd t 292 ∧ Builtin.bitAnd t 292 < 65536 := fun t ht => and_dig (hd t ht) (by decide)
  have h146 : ∀ t ∈ ds,0 <= Builtin.bitAnd t 146 ∧ Builtin.bitAnd t 146 < 65536 := fun t ht => and_dig (hd t ht) (by decide)
  have hq4 : Dig (ds.map fun t => (Builtin.bitAnd t 292).fdiv 4) := .map fun t ht => by
    have := h292 t ht; rw [Int.fdiv_eq_ediv_of_nonneg _ (by decide)]; lia
  have hq2 : Dig (ds.map fun t => (Builtin.bitAnd t 292).fdiv 2) := .map fun t ht => by
    have := h292 t ht; rw [Int.fdiv_eq_ediv_of_nonneg _ (by decide)]; lia
  by_cases h1 : x.fmod 4 < 2
  . simp only [h1,if_true]
    by_cases h2 : x.fmod 4 = 0
    . simp only [h2,if_true,bitOr_and]
      rw [and_map _ _ ds hid (hcon _ hm0 hm1), <- d2i_map_add, <- d2i_map_sub]
    . simp only [h2,if_false]
      rw [and_map _ _ ds hid (hcon _ hm0 hm1), <- d2i_map_sub]
  . simp only [h1,if_false]
    by_cases h2 : x.fmod 4 = 2
    . simp only [h2,if_true,bitOr_and]
      rw [a292,d4,and_map _ _ ds hid hq4, <- d2i_map_add, <- d2i_map_sub]
    . simp only [h2,if_false]
      rw [a292,a146,d2,and_map _ _ ds (.map h146) hq2, <- d2i_map_sub, <- d2i_map_add]
end
section
set_option autoImplicit false
noncomputable def othersB : List (Option PV) -> Nat -> Bool
  | [], _ => true
  | _ :: vs,0 => okF vs
  | v :: vs,i + 1 => (match v with | some p => notOwn p | none => true) && othersB vs i
theorem OthersOk.of : ∀ {vals : List (Option PV)} {i : Nat},othersB vals i = true -> OthersOk vals i
  | [], _, _ => fun j p _ hp => by simp at hp
  | v :: vs,0,h => fun j p hj hp => by
    cases j with
    | zero => exact absurd rfl hj
    | succ j => exact okF.at h (List.mem_of_getElem? (show vs[j]? = some (some p) by simpa using hp))
  | v :: vs,i + 1,h => fun j p hj hp => by
    simp only [othersB,Bool.and_eq_true] at h
    cases j with
    | zero => simp at hp; subst hp; exact h.1
    | succ j => exact OthersOk.of h.2 j p (by lia) (by simpa using hp)
noncomputable def digs : Nat -> Int -> List Int
  | 0, _ => []
  | k + 1,x => x % 65536 :: digs k (x / 65536)
theorem digs_length : ∀ (k : Nat) (x : Int),(digs k x).length = k
  | 0, _ => rfl
  | k + 1,x => by rw [digs,List.length_cons,digs_length]
theorem digs_dig : ∀ (k : Nat) (x : Int),Dig (digs k x)
  | 0, _ => fun d hd => by cases hd
  | k + 1,x => fun d hd => by
    rcases List.mem_cons.mp hd with rfl | hd
    . lia
    . exact digs_dig k _ d hd
theorem digs_split : ∀ (m k : Nat) (x : Int),m <= k -> digs k x = digs m (x % 2 ^ (m * 16)) ++ digs (k - m) (x / 2 ^ (m * 16))
  | 0,k,x, _ => by simp [digs]
  | m + 1,0,x,h => by lia
  | m + 1,k + 1,x,h => by
    rw [digs,digs,digs_split m k _ (by lia),List.cons_append,pow16]
    have hP : (0 : Int) < 2 ^ (m * 16) := Int.pow_pos (by decide)
    generalize (2 : Int) ^ (m * 16) = P at hP
    rw [Nat.add_sub_add_right]
    have e1 : x % 65536 = x % (P * 65536) % 65536 := (Int.emod_emod_of_dvd x ⟨P,Int.mul_comm _ _⟩).symm
    have e2 : x / 65536 % P = x % (P * 65536) / 65536 := by
      have h1 := Int.emod_add_mul_ediv x (P * 65536)
      have h2 : x / 65536 = x % (P * 65536) / 65536 + P * (x / (P * 65536)) := by
        conv => lhs; rw [<- h1]
        rw [Int.mul_assoc,Int.mul_left_comm,Int.add_mul_ediv_left _ _ (by decide)]
      rw [h2,Int.add_mul_emod_self_left]
      refine Int.emod_eq_of_lt (Int.ediv_nonneg (Int.emod_nonneg _ (by lia)) (by decide)) ?_
      have := Int.emod_lt_of_pos x (show 0 < P * 65536 by lia)
      exact Int.ediv_lt_of_lt_mul (by decide) this
    have e3 : x / 65536 / P = x / (P * 65536) := by rw [Int.ediv_ediv_of_nonneg (by decide),Int.mul_comm]
    rw [e1,e2,e3]
theorem digs_one {x : Int} (h0 : 0 <= x) (h1 : x < 65536) : digs 1 x = [x] := by
  rw [digs,digs,Int.emod_eq_of_lt h0 h1]
theorem digs_d2i : ∀ ds : List Int,Dig ds -> digs ds.length (d2i ds) = ds
  | [], _ => rfl
  | d :: ds,h => by
    obtain ⟨h1,h2⟩ := h d List.mem_cons_self
    rw [List.length_cons,digs,d2i]
    have e1 : (d + d2i ds * 65536) % 65536 = d := by lia
    have e2 : (d + d2i ds * 65536) / 65536 = d2i ds := by lia
    rw [e1,e2,digs_d2i ds fun x hx => h x (List.mem_cons_of_mem _ hx)]
theorem nat_and_high (x s : Nat) : x &&& ((x / 2 ^ s) * 2 ^ s) = x / 2 ^ s * 2 ^ s := by
  apply Nat.eq_of_testBit_eq
  intro i
  rw [Nat.testBit_and, <- Nat.shiftRight_eq_div_pow, <- Nat.shiftLeft_eq,Nat.testBit_shiftLeft,Nat.testBit_shiftRight]
  by_cases h : s <= i
  . have e : s + (i - s) = i := by lia
    simp [h,e]
  . simp [h]
theorem xor_low {x : Int} (h0 : 0 <= x) (s : Nat) : Builtin.bitXor x ((x.fdiv (2 ^ s)) * 2 ^ s) = x % 2 ^ s := by
  obtain ⟨n,rfl⟩ := Int.eq_ofNat_of_zero_le h0
  have hp : (2 : Int) ^ s = ((2 ^ s : Nat) : Int) := by push_cast; rfl
  rw [Int.fdiv_eq_ediv_of_nonneg _ (by rw [hp]; exact Int.natCast_nonneg _),hp]
  have e1 : ((n : Int) / ((2 ^ s : Nat) : Int)) * ((2 ^ s : Nat) : Int) = ((n / 2 ^ s * 2 ^ s : Nat) : Int) := by push_cast; rfl
  have e2 : (n : Int) % ((2 ^ s : Nat) : Int) = ((n % 2 ^ s : Nat) : Int) := by push_cast; rfl
  rw [e1,e2,bitXor_and,and_nat,nat_and_high]
  have := Nat.mod_add_div n (2 ^ s)
  rw [Nat.mul_comm] at this
  lia
end
section
set_option autoImplicit false
section
variable {w : World} {N : Nat} {X : List Addr} {Tb : Heap -> Prop} {Top : Heap -> Prop} {A : Around} {env : Env} {hb : Heap} {C : Heap -> Prop}
theorem Cx.ownFx {ns : List Str} {vals : List (Option PV)} {h h' : Heap} {i : Nat} {x : Str} {a : Addr} {xs ys : List PV} {ws : List Value} (c : Cx N X hb env ns vals h) (hx : ns[i]? = some x) (hv : vals[i]? = some (some (.own a xs))) (ho : OthersOk vals i) (hba : hb.get? a = none) (hLn : N <= env.locals)
    (f : Fx N [a] h h') (hl : h'.PlainList a ws.toArray) (hL : IsL X h' ws ys) : Cx N X hb env ns (vals.set i (some (.own a ys))) h' := by
  obtain ⟨su,haX,hNa,vs,hl0,hL0⟩ := c.ownAt hx hv
  obtain ⟨n0,ho0⟩ := hl0
  have wo : WOk X [a] h := fun b hb => by simp only [List.mem_singleton] at hb; subst hb; exact ⟨Heap.lt_size ho0, .inl haX⟩
  have hns : ∀ m,h.Ns env.locals m -> h'.Ns env.locals m := fun m ⟨o,es,ep,ho',hd',r⟩ => ⟨o,es,ep,f.kp _ _ (by simp only [List.mem_singleton]; rintro e; rw [e,ho0] at ho'; cases ho'; cases hd') ho' (.inl hLn),hd',r⟩
  have hsl : ∀ y ov,Slot N env h y ov -> Slot N env h' y ov := by
    intro y ov sy
    rcases sy with ⟨ky,m2,hm2,e2⟩ | ⟨ky,b,hb',hNb,o,ho',hd'⟩
    . exact .inl ⟨ky,m2,hns m2 hm2,e2⟩
    . exact .inr ⟨ky,b,hb',hNb,o,f.kp _ _ (by simp only [List.mem_singleton]; rintro e; rw [e,ho0] at ho'; cases ho'; cases hd') ho' (.inl hNb),hd'⟩
  have hlt : i < vals.length := (List.getElem?_eq_some_iff.mp hv).1
  refine ⟨⟨fun b o e n => f.kp b o (by simp only [List.mem_singleton]; rintro rfl; rw [hba] at e; cases e) (c.base.kp b o e n) n,Nat.le_trans c.base.sz f.sz⟩,let ⟨m,hm⟩ := c.nsx; ⟨m,hns m hm⟩,fun j y hy => ?_⟩
  obtain ⟨u,sy,hu⟩ := c.slot j y hy
  by_cases hij : i = j
  . subst hij
    rw [hx] at hy; cases hy
    refine ⟨_,hsl _ _ su,fun p hp => ?_⟩
    rw [List.getElem?_set_self hlt] at hp
    cases hp
    exact ⟨_,rfl, .inr ⟨a,ws,ys,rfl,rfl,haX,hNa,hl,hL⟩⟩
  . refine ⟨u,hsl _ _ sy,fun p hp => ?_⟩
    rw [List.getElem?_set_ne hij] at hp
    obtain ⟨v,e,iv⟩ := hu p hp
    exact ⟨v,e, .inl ((iv.is (ho j p (fun e => hij e.symm) hp)).fx f wo)⟩
noncomputable def IN4 (w : World) (N : Nat) (ad : Addr) (Tb : Heap -> Prop) (f : Addr) (clos : List (Str × Addr)) (k : Nat) : Prop :=
  ∀ A,AOk A k -> ∀ (x : Int) (L : Nat) (xs : List PV) (vs : List Value) (s : Shared) (Q E : Value -> Shared -> Prop),0 <= x -> x < 2 ^ (k * 16) -> L + k <= xs.length -> xs.length <= 40 -> IsL [ad] s.heap vs [.int x, .int (L : Nat), .int ((L + k : Nat) : Int)] ->
    FrOk N [ad] clos [Str.ofString "a_digits",Str.ofString "inner",Str.ofString "n"] [.raw (.ref ad), .raw (.ref f), .int 16] s.heap -> (∃ us : List Value,s.heap.PlainList ad us.toArray ∧ IsL [ad] s.heap us xs) -> Tb s.heap ->
    (∀ v h' tk,Fx N [ad] s.heap h' -> Tb h' -> (∃ us : List Value,h'.PlainList ad us.toArray ∧ IsL [ad] h' us (xs.take L ++ (digs k x).map PV.int ++ xs.drop (L + k))) -> Q v { s with heap := h',toks := tk }) -> wpAny (MM w) A (call (.ref f) vs) Q E s
noncomputable abbrev in4N : List Str := [Str.ofString "x",Str.ofString "L",Str.ofString "R",Str.ofString "mid",Str.ofString "shift",Str.ofString "upper",Str.ofString "lower",Str.ofString "a_digits",Str.ofString "inner",Str.ofString "n"]
theorem Cx.fr4 {f ad : Addr} {sz : Nat} {clos : List (Str × Addr)} {a b c d e g h' : Option PV} {xs : List PV} {h : Heap} (hs : env.scope = scopeOf (innerOf 4)) (hcells : env.cells = clos) (cx : Cx N [ad] (hb0 sz) env in4N [a,b,c,d,e,g,h',some (.own ad xs),some (.raw (.ref f)),some (.int 16)] h) :
    FrOk N [ad] clos [Str.ofString "a_digits",Str.ofString "inner",Str.ofString "n"] [.raw (.ref ad), .raw (.ref f), .int 16] h ∧ ∃ us : List Value,h.PlainList ad us.toArray ∧ IsL [ad] h us xs := by
  obtain ⟨su,haX,hNa,us,hl,hL⟩ := cx.ownAt (i := 7) (x := Str.ofString "a_digits") rfl rfl
  refine ⟨fun i x p hx hp => ?_,us,hl,hL⟩
  match i,hx,hp with
  | 0,hx,hp =>
    cases hx; cases hp
    rcases su with ⟨kx, _⟩ | ⟨kx,c,hc,hN,hcell⟩
    . rw [Env.kindOf,hs] at kx; exact absurd kx (by decide)
    . exact ⟨c, _,hcells ▸ hc,hN,hcell, .raw _⟩
  | 1,hx,hp =>
    cases hx; cases hp
    obtain ⟨u,su,hu⟩ := cx.slot 8 _ rfl
    obtain ⟨v,rfl,iv⟩ := hu _ rfl
    rcases su with ⟨kx, _⟩ | ⟨kx,c,hc,hN,hcell⟩
    . rw [Env.kindOf,hs] at kx; exact absurd kx (by decide)
    . exact ⟨c, _,hcells ▸ hc,hN,hcell,iv.is rfl⟩
  | 2,hx,hp =>
    cases hx; cases hp
    obtain ⟨u,su,hu⟩ := cx.slot 9 _ rfl
    obtain ⟨v,rfl,iv⟩ := hu _ rfl
    rcases su with ⟨kx, _⟩ | ⟨kx,c,hc,hN,hcell⟩
    . rw [Env.kindOf,hs] at kx; exact absurd kx (by decide)
    . exact ⟨c, _,hcells ▸ hc,hN,hcell,iv.is rfl⟩
  | i + 3,hx,hp => cases hx
theorem SX.retNone {W : List Addr} {pos : Pos} : SX w N Tb A env W C (.Return none pos) (fun f h => f = .ret .none ∧ C h) :=
  ⟨fun s Q E c t k => wpAny_Return_none (k _ s.heap s.toks (.refl _) t ⟨rfl,c⟩)⟩
theorem inner4 {ad : Addr} (T : TbOk N [ad] Tb) (hNad : N <= ad) {f : Addr} {qual : Str} {clos : List (Str × Addr)} {doc pm cv ctv : Value}
    (D : DefAt Tb f (fnX (Str.ofString "inner") qual (paramsOf (innerOf 4)) (bodyOf (innerOf 4)) (scopeOf (innerOf 4)) clos .none .none doc pm none cv ctv)) (hcd : ∀ h,Tb h -> h.CodeRec cv qual) : ∀ k : Nat,0 < k -> k <= 40 -> IN4 w N ad Tb f clos k := by
  intro k
  induction k using Nat.strongRecOn with
  | _ k ih =>
    intro hk hk40 A hA x L xs vs s Q E hx0 hx1 hLk hl40 iv hfr hpl t kQ
    obtain ⟨d,rfl⟩ : ∃ d,k = d + 1 := ⟨k - 1,by lia⟩
    refine callClo (prm := [Str.ofString "x",Str.ofString "L",Str.ofString "R"]) (loc := [Str.ofString "mid",Str.ofString "shift",Str.ofString "upper",Str.ofString "lower"]) (fr := [Str.ofString "a_digits",Str.ofString "inner",Str.ofString "n"]) (fv := [.raw (.ref ad), .raw (.ref f), .int 16]) T D hcd rfl rfl rfl rfl rfl (fun vs h => by obtain ⟨a,b,c,rfl⟩ := of3 h; with_unfolding_all rfl) (by decide) (show ∀ x ∈ (scopeOf (innerOf 4)).names,x.2 ≠ .cell by decide) (show ∀ x ∈ [Str.ofString "x",Str.ofString "L",Str.ofString "R"] ++ [Str.ofString "mid",Str.ofString "shift",Str.ofString "upper",Str.ofString "lower"],(scopeOf (innerOf 4)).names.lookup x = some .local by decide) (show ∀ x ∈ [Str.ofString "a_digits",Str.ofString "inner",Str.ofString "n"],(scopeOf (innerOf 4)).names.lookup x = some .free by decide) hA iv t hfr ?_
    intro A env h₁ hA O hs hcode hcells n₁ t₁ hcx tk₁ Q' E' kQ'
    have hs : env.scope = scopeOf (innerOf 4) := hs
    have hcells : env.cells = clos := hcells
    have hn : NsOk in4N := ⟨by decide,by decide,by decide⟩
    have hkk := O.kind
    have hLL := O.hL
    generalize hsz : s.heap.objs.size = sz at *
    have B0 : BlkOk N (hb0 sz) env := ⟨O.kind,O.glob,O.bui,by rw [hb0_size]; have := O.freshL; lia,by rw [hb0_size]; have := O.base; lia⟩
    have c₀ := hcx (hb0 sz) (hb0_size sz) (hb0_nx (by rw [<- hsz]; exact n₁.sz))
    obtain ⟨us,hl,hL⟩ := hpl
    have c₁ : Cx N [ad] (hb0 sz) env in4N [some (.int x),some (.int (L : Nat)),some (.int ((L + (d + 1) : Nat) : Int)),none,none,none,none,some (.own ad xs),some (.raw (.ref f)),some (.int 16)] h₁ := Cx.setOwn (vals := [some (.int x),some (.int (L : Nat)),some (.int ((L + (d + 1) : Nat) : Int)),none,none,none,none,some (.own ad xs),some (.raw (.ref f)),some (.int 16)]) (i := 7) (x := Str.ofString "a_digits") (by walk_at "m") hn.nodup (by simp) hNad (n₁.isList hl) (hL.nx n₁) c₀
    have hbad : (hb0 sz).get? ad = none := hb0_get sz ad
    have hWad : ∀ b ∈ Wr env in4N [ad],b < sz -> b = ad := fun b hb hlt => by
      rcases List.mem_cons.mp hb with rfl | hb
      . exact absurd hlt (Nat.not_lt.mpr (by have := O.freshL; lia))
      rcases List.mem_append.mp hb with hb | hb
      . obtain ⟨y,hy,hc⟩ := List.mem_filterMap.mp hb
        have hcl : ∀ y ∈ in4N,(scopeOf (innerOf 4)).names.lookup y ≠ some .cell := by decide
        rw [if_neg (by rw [Env.kindOf,hs]; exact hcl y hy)] at hc; cases hc
      . simpa using hb
    have key : ST w N Tb A env (Wr env in4N [ad]) (Cx N [ad] (hb0 sz) env in4N [some (.int x),some (.int (L : Nat)),some (.int ((L + (d + 1) : Nat) : Int)),none,none,none,none,some (.own ad xs),some (.raw (.ref f)),some (.int 16)]) (bodyOf (innerOf 4)) (fun fl h => ∃ us : List Value,h.PlainList ad us.toArray ∧ IsL [ad] h us (xs.take L ++ (digs (d + 1) x).map PV.int ++ xs.drop (L + (d + 1)))) := by
      clear kQ' c₁ c₀ hcx kQ hfr t₁ n₁ t iv
      show ST w N Tb A env (Wr env in4N [ad]) (Cx N [ad] (hb0 sz) env in4N [some (.int x),some (.int (L : Nat)),some (.int ((L + (d + 1) : Nat) : Int)),none,none,none,none,some (.own ad xs),some (.raw (.ref f)),some (.int 16)]) (_ :: _ :: _ :: _ :: _ :: _ :: _ :: []) _
      by_cases h1 : d = 0
      . subst h1
        refine ST.cons (R' := fun fl h => fl = .ret .none ∧ Cx N [ad] (hb0 sz) env in4N [some (.int x),some (.int (L : Nat)),some (.int ((L + (0 + 1) : Nat) : Int)),none,none,none,none,some (.own ad (xs.set L (.int x))),some (.raw (.ref f)),some (.int 16)] h) (SX.iff (c := ((L : Int) + 1 == ((L + (0 + 1) : Nat) : Int))) ?i1 ?i2 (fun _ => ?i3) (fun e => absurd e (by simp))) ⟨fun s Q E c t k => by cases c.1⟩ (fun fl h hne ⟨_,c⟩ => ?i4)
        case i1 => walk_at "m"
        case i2 => walk_at "m"
        case i3 =>
          refine ST.seq (C' := Cx N [ad] (hb0 sz) env in4N [some (.int x),some (.int (L : Nat)),some (.int ((L + (0 + 1) : Nat) : Int)),none,none,none,none,some (.own ad (xs.set L (.int x))),some (.raw (.ref f)),some (.int 16)]) (SX.setAt (ns := in4N) (vals := [some (.int x),some (.int (L : Nat)),some (.int ((L + (0 + 1) : Nat) : Int)),none,none,none,none,some (.own ad xs),some (.raw (.ref f)),some (.int 16)]) (i := 7) (j := L) (p := .int x) T B0 hn ?j1 rfl (OthersOk.of rfl) hbad ?j2 ?j3 (by lia) (by lia) ?j4) (ST.last SX.retNone)
          case j1 => walk_at "m"
          case j2 => walk_at "m"
          case j3 => walk_at "m"
          case j4 => exact swaps_no rfl
        case i4 =>
          obtain ⟨su,haX,hNa,us,hl,hL⟩ := c.ownAt (i := 7) (x := Str.ofString "a_digits") rfl rfl
          refine ⟨us,hl, ?_⟩
          rw [digs_one hx0 (by simpa using hx1)]
          rw [List.set_eq_take_append_cons_drop,if_pos (by lia)] at hL
          simpa using hL
      have hmid : ((L : Int) + ((L + (d + 1) : Nat) : Int)).fdiv (2 ^ (1 : Int).toNat) = ((L + (d + 1) / 2 : Nat) : Int) := by
        show ((L : Int) + ((L + (d + 1) : Nat) : Int)).fdiv 2 = _
        rw [Int.fdiv_eq_ediv_of_nonneg _ (by decide)]; lia
      generalize hm : (d + 1) / 2 = m at hmid
      have m1 : 0 < m := by lia
      have m2 : m < d + 1 := by lia
      have hP : (0 : Int) < 2 ^ (m * 16) := Int.pow_pos (by decide)
      refine ST.seq (C' := Cx N [ad] (hb0 sz) env in4N [some (.int x),some (.int (L : Nat)),some (.int ((L + (d + 1) : Nat) : Int)),none,none,none,none,some (.own ad xs),some (.raw (.ref f)),some (.int 16)]) (SX.iff (c := ((L : Int) + 1 == ((L + (d + 1) : Nat) : Int))) ?i1 ?i2 (fun e => absurd (eq_of_beq e) (by lia)) (fun _ => ST.nilN)) ?_
      case i1 => walk_at "m"
      case i2 => walk_at "m"
      refine ST.seq (C' := Cx N [ad] (hb0 sz) env in4N [some (.int x),some (.int (L : Nat)),some (.int ((L + (d + 1) : Nat) : Int)),some (.int ((L + m : Nat) : Int)),none,none,none,some (.own ad xs),some (.raw (.ref f)),some (.int 16)]) (SX.assignL (ns := in4N) (vals := [some (.int x),some (.int (L : Nat)),some (.int ((L + (d + 1) : Nat) : Int)),none,none,none,none,some (.own ad xs),some (.raw (.ref f)),some (.int 16)]) (i := 3) (p := .int ((L + m : Nat) : Int)) T B0 ?a1 ?a2 hn ?a3 ?a4) ?_
      case a1 =>
        refine EV.conv (p := .int (((L : Int) + ((L + (d + 1) : Nat) : Int)).fdiv (2 ^ (1 : Int).toNat))) ?a5 (by rw [hmid])
        refine EV.bin ?a6 ?a7 EV.cint (OP.shr (by decide))
        case a6 => walk_at "m"
        case a7 => walk_at "m"
      case a2 => walk_at "m"
      case a3 => rw [Env.kindOf,hs]; decide
      case a4 => exact swaps_no rfl
      refine ST.seq (C' := Cx N [ad] (hb0 sz) env in4N [some (.int x),some (.int (L : Nat)),some (.int ((L + (d + 1) : Nat) : Int)),some (.int ((L + m : Nat) : Int)),some (.int ((m * 16 : Nat) : Int)),none,none,some (.own ad xs),some (.raw (.ref f)),some (.int 16)]) (SX.assignL (ns := in4N) (vals := [some (.int x),some (.int (L : Nat)),some (.int ((L + (d + 1) : Nat) : Int)),some (.int ((L + m : Nat) : Int)),none,none,none,some (.own ad xs),some (.raw (.ref f)),some (.int 16)]) (i := 4) (p := .int ((m * 16 : Nat) : Int)) T B0 ?c1 ?c2 hn ?c3 ?c4) ?_
      case c1 =>
        refine EV.conv (p := .int ((((L + m : Nat) : Int) - (L : Int)) * 16)) ?c5 (by congr 1; lia)
        refine EV.bin ?c6 ?c7 ?c8 (OP.mul (IntMulOk.of_right (by decide)))
        case c6 => walk_at "m"
        case c7 => walk_at "m"
        case c8 => walk_at "m"
      case c2 => walk_at "m"
      case c3 => rw [Env.kindOf,hs]; decide
      case c4 => exact swaps_no rfl
      refine ST.seq (C' := Cx N [ad] (hb0 sz) env in4N [some (.int x),some (.int (L : Nat)),some (.int ((L + (d + 1) : Nat) : Int)),some (.int ((L + m : Nat) : Int)),some (.int ((m * 16 : Nat) : Int)),some (.int (x / 2 ^ (m * 16))),none,some (.own ad xs),some (.raw (.ref f)),some (.int 16)]) (SX.assignL (ns := in4N) (vals := [some (.int x),some (.int (L : Nat)),some (.int ((L + (d + 1) : Nat) : Int)),some (.int ((L + m : Nat) : Int)),some (.int ((m * 16 : Nat) : Int)),none,none,some (.own ad xs),some (.raw (.ref f)),some (.int 16)]) (i := 5) (p := .int (x / 2 ^ (m * 16))) T B0 ?e1 ?e2 hn ?e3 ?e4) ?_
      case e1 =>
        refine EV.conv (p := .int (x.fdiv (2 ^ (((m * 16 : Nat) : Int)).toNat))) ?e5 (by rw [Int.toNat_natCast,Int.fdiv_eq_ediv_of_nonneg _ (Int.le_of_lt hP)])
        refine EV.bin ?e6 ?e7 ?e8 (OP.shr (by lia))
        case e6 => walk_at "m"
        case e7 => walk_at "m"
        case e8 => walk_at "m"
      case e2 => walk_at "m"
      case e3 => rw [Env.kindOf,hs]; decide
      case e4 => exact swaps_no rfl
      have hup0 : 0 <= x / 2 ^ (m * 16) := Int.ediv_nonneg hx0 (Int.le_of_lt hP)
      have hpw : (2 : Int) ^ ((d + 1) * 16) = 2 ^ (m * 16) * 2 ^ ((d + 1 - m) * 16) := by rw [<- Int.pow_add]; congr 1; lia
      have hup1 : x / 2 ^ (m * 16) < 2 ^ ((d + 1 - m) * 16) := Int.ediv_lt_of_lt_mul hP (by rw [Int.mul_comm, <- hpw]; exact hx1)
      have hbits := intBits_lt hup0 hup1
      refine ST.seq (C' := Cx N [ad] (hb0 sz) env in4N [some (.int x),some (.int (L : Nat)),some (.int ((L + (d + 1) : Nat) : Int)),some (.int ((L + m : Nat) : Int)),some (.int ((m * 16 : Nat) : Int)),some (.int (x / 2 ^ (m * 16))),some (.int (x % 2 ^ (m * 16))),some (.own ad xs),some (.raw (.ref f)),some (.int 16)]) (SX.assignL (ns := in4N) (vals := [some (.int x),some (.int (L : Nat)),some (.int ((L + (d + 1) : Nat) : Int)),some (.int ((L + m : Nat) : Int)),some (.int ((m * 16 : Nat) : Int)),some (.int (x / 2 ^ (m * 16))),none,some (.own ad xs),some (.raw (.ref f)),some (.int 16)]) (i := 6) (p := .int (x % 2 ^ (m * 16))) T B0 ?g1 ?g2 hn ?g3 ?g4) ?_
      case g1 =>
        refine EV.conv (p := .int (Builtin.bitXor x ((x / 2 ^ (m * 16)) * 2 ^ (((m * 16 : Nat) : Int)).toNat))) ?g5 (by rw [Int.toNat_natCast, <- Int.fdiv_eq_ediv_of_nonneg _ (Int.le_of_lt hP),xor_low hx0])
        refine EV.bin ?g6 ?g7 (EV.bin ?g8 ?g9 ?g10 (OP.shl (by lia) (by lia))) OP.xor
        case g6 => walk_at "m"
        case g7 => walk_at "m"
        case g8 => walk_at "m"
        case g9 => walk_at "m"
        case g10 => walk_at "m"
      case g2 => walk_at "m"
      case g3 => rw [Env.kindOf,hs]; decide
      case g4 => exact swaps_no rfl
      refine ST.seq (C' := Cx N [ad] (hb0 sz) env in4N [some (.int x),some (.int (L : Nat)),some (.int ((L + (d + 1) : Nat) : Int)),some (.int ((L + m : Nat) : Int)),some (.int ((m * 16 : Nat) : Int)),some (.int (x / 2 ^ (m * 16))),some (.int (x % 2 ^ (m * 16))),some (.own ad (xs.take L ++ (digs m (x % 2 ^ (m * 16))).map PV.int ++ xs.drop (L + m))),some (.raw (.ref f)),some (.int 16)]) (SX.callW (X := [ad]) (C := Cx N [ad] (hb0 sz) env in4N [some (.int x),some (.int (L : Nat)),some (.int ((L + (d + 1) : Nat) : Int)),some (.int ((L + m : Nat) : Int)),some (.int ((m * 16 : Nat) : Int)),some (.int (x / 2 ^ (m * 16))),some (.int (x % 2 ^ (m * 16))),some (.own ad xs),some (.raw (.ref f)),some (.int 16)]) (C' := Cx N [ad] (hb0 sz) env in4N [some (.int x),some (.int (L : Nat)),some (.int ((L + (d + 1) : Nat) : Int)),some (.int ((L + m : Nat) : Int)),some (.int ((m * 16 : Nat) : Int)),some (.int (x / 2 ^ (m * 16))),some (.int (x % 2 ^ (m * 16))),some (.own ad (xs.take L ++ (digs m (x % 2 ^ (m * 16))).map PV.int ++ xs.drop (L + m))),some (.raw (.ref f)),some (.int 16)]) (ps := [.int (x % 2 ^ (m * 16)), .int (((L : Nat)) : Int), .int (((L + m : Nat)) : Int)]) ?p1 ?p2 D (EVs.cons ?p3 ?p4 (EVs.cons ?p5 ?p6 (EVs.cons ?p7 ?p8 EVs.nil rfl) rfl) rfl) ?p9 rfl (fun s Q E h => Call_ h) ?p10 rfl) ?_
      case p1 => walk_at "m"
      case p2 => walk_at "m"
      case p3 => walk_at "m"
      case p4 => walk_at "m"
      case p5 => walk_at "m"
      case p6 => walk_at "m"
      case p7 => walk_at "m"
      case p8 =>
        refine EV.conv (p := ?pv) ?pw ?pz
        case pw => walk_at "m"
        case pz => first | rfl | (congr 1; lia)
      case p10 => unfold interactive; rw [O.kind]; rfl
      case p9 =>
        intro vs s Q E c t iv k
        obtain ⟨hf4,hp4⟩ := c.fr4 hs hcells
        refine ih m m2 m1 (by lia) A (hA.less (by lia)) (x % 2 ^ (m * 16)) L xs vs s Q E (Int.emod_nonneg _ (Int.ne_of_gt hP)) (Int.emod_lt_of_pos _ hP) (by lia) hl40 iv hf4 hp4 t ?_
        intro v h' tk fx t' ⟨us,hl,hL⟩
        refine k v h' tk (fx.sub fun b hb => Wr.has hb) t' ?_
        refine Cx.ownFx (vals := [some (.int x),some (.int (L : Nat)),some (.int ((L + (d + 1) : Nat) : Int)),some (.int ((L + m : Nat) : Int)),some (.int ((m * 16 : Nat) : Int)),some (.int (x / 2 ^ (m * 16))),some (.int (x % 2 ^ (m * 16))),some (.own ad xs),some (.raw (.ref f)),some (.int 16)]) (i := 7) (x := Str.ofString "a_digits") c rfl rfl (OthersOk.of rfl) hbad hLL fx hl ?_
        exact hL
      refine ST.seq (C' := Cx N [ad] (hb0 sz) env in4N [some (.int x),some (.int (L : Nat)),some (.int ((L + (d + 1) : Nat) : Int)),some (.int ((L + m : Nat) : Int)),some (.int ((m * 16 : Nat) : Int)),some (.int (x / 2 ^ (m * 16))),some (.int (x % 2 ^ (m * 16))),some (.own ad (xs.take L ++ (digs (d + 1) x).map PV.int ++ xs.drop (L + (d + 1)))),some (.raw (.ref f)),some (.int 16)]) (SX.callW (X := [ad]) (C := Cx N [ad] (hb0 sz) env in4N [some (.int x),some (.int (L : Nat)),some (.int ((L + (d + 1) : Nat) : Int)),some (.int ((L + m : Nat) : Int)),some (.int ((m * 16 : Nat) : Int)),some (.int (x / 2 ^ (m * 16))),some (.int (x % 2 ^ (m * 16))),some (.own ad (xs.take L ++ (digs m (x % 2 ^ (m * 16))).map PV.int ++ xs.drop (L + m))),some (.raw (.ref f)),some (.int 16)]) (C' := Cx N [ad] (hb0 sz) env in4N [some (.int x),some (.int (L : Nat)),some (.int ((L + (d + 1) : Nat) : Int)),some (.int ((L + m : Nat) : Int)),some (.int ((m * 16 : Nat) : Int)),some (.int (x / 2 ^ (m * 16))),some (.int (x % 2 ^ (m * 16))),some (.own ad (xs.take L ++ (digs (d + 1) x).map PV.int ++ xs.drop (L + (d + 1)))),some (.raw (.ref f)),some (.int 16)]) (ps := [.int (x / 2 ^ (m * 16)), .int ((((L + m) : Nat)) : Int), .int ((((L + m) + (d + 1 - m) : Nat)) : Int)]) ?q1 ?q2 D (EVs.cons ?q3 ?q4 (EVs.cons ?q5 ?q6 (EVs.cons ?q7 ?q8 EVs.nil rfl) rfl) rfl) ?q9 rfl (fun s Q E h => Call_ h) ?q10 rfl) ?_
      case q1 => walk_at "m"
      case q2 => walk_at "m"
      case q3 => walk_at "m"
      case q4 => walk_at "m"
      case q5 => walk_at "m"
      case q6 => walk_at "m"
      case q7 => walk_at "m"
      case q8 =>
        refine EV.conv (p := ?qv) ?qw ?qz
        case qw => walk_at "m"
        case qz => first | rfl | (congr 1; lia)
      case q10 => unfold interactive; rw [O.kind]; rfl
      case q9 =>
        intro vs s Q E c t iv k
        obtain ⟨hf4,hp4⟩ := c.fr4 hs hcells
        refine ih (d + 1 - m) (by lia) (by lia) (by lia) A (hA.less (by lia)) (x / 2 ^ (m * 16)) (L + m) _ vs s Q E hup0 hup1 (by simp [digs_length]; lia) (by simp [digs_length]; lia) iv hf4 hp4 t ?_
        intro v h' tk fx t' ⟨us,hl,hL⟩
        refine k v h' tk (fx.sub fun b hb => Wr.has hb) t' ?_
        refine Cx.ownFx (vals := [some (.int x),some (.int (L : Nat)),some (.int ((L + (d + 1) : Nat) : Int)),some (.int ((L + m : Nat) : Int)),some (.int ((m * 16 : Nat) : Int)),some (.int (x / 2 ^ (m * 16))),some (.int (x % 2 ^ (m * 16))),some (.own ad (xs.take L ++ (digs m (x % 2 ^ (m * 16))).map PV.int ++ xs.drop (L + m))),some (.raw (.ref f)),some (.int 16)]) (i := 7) (x := Str.ofString "a_digits") c rfl rfl (OthersOk.of rfl) hbad hLL fx hl ?_
        have hlen : (xs.take L ++ (digs m (x % 2 ^ (m * 16))).map PV.int).length = L + m := by simp [digs_length]; lia
        have e1 : (xs.take L ++ (digs m (x % 2 ^ (m * 16))).map PV.int ++ xs.drop (L + m)).take (L + m) = xs.take L ++ (digs m (x % 2 ^ (m * 16))).map PV.int := List.take_left' hlen
        have e2 : (xs.take L ++ (digs m (x % 2 ^ (m * 16))).map PV.int ++ xs.drop (L + m)).drop (L + m + (d + 1 - m)) = xs.drop (L + (d + 1)) := by
          rw [<- List.drop_drop,List.drop_left' hlen,List.drop_drop]; congr 1; lia
        rw [e1,e2] at hL
        rw [digs_split m (d + 1) x (by lia),List.map_append]
        simpa [List.append_assoc] using hL
      refine ST.nil fun g c _ => ?_
      obtain ⟨su,haX,hNa,us,hl,hL⟩ := c.ownAt (i := 7) (x := Str.ofString "a_digits") rfl rfl
      exact ⟨us,hl,hL⟩
    refine key.run _ _ _ c₁ t₁ fun fl h' tk fx t' hr => kQ' fl h' tk ?_
    refine kQ _ h' tk ⟨fun b o hb e n => fx.kp b o (fun m => hb (by simp [hWad b m (hsz ▸ Heap.lt_size e)])) (n₁.kp b o e n) n,Nat.le_trans n₁.sz fx.sz⟩ t' hr
end
end
section
set_option autoImplicit false
theorem TbOk.sub {N : Nat} {X Y : List Addr} {Tb : Heap -> Prop} (T : TbOk N X Tb) (h : ∀ a ∈ Y,a ∈ X) : TbOk N Y Tb := ⟨T.keep,T.upd,T.size,fun g t x hx => T.low g t x (h x hx),T.limit⟩
section
variable {w : World} {N : Nat} {X : List Addr} {Tb : Heap -> Prop} {Top : Heap -> Prop} {A : Around} {env : Env} {hb : Heap} {C : Heap -> Prop}
theorem FL.conv {e : Expr} {xs ys : List PV} (h : FL w N X Tb A env C e xs) (he : xs = ys) : FL w N X Tb A env C e ys := he ▸ h
noncomputable abbrev i2dN : List Str := [Str.ofString "a",Str.ofString "n",Str.ofString "a_digits",Str.ofString "inner"]
noncomputable def qInner4 : Str := Str.ofString "_int2digits" ++ ".<locals>." ++ Str.ofString "inner"
noncomputable def ndig (a : Int) : Nat := (Builtin.Int.intBits a + 15) / 16
theorem lt_bits {a : Int} (h0 : 0 <= a) : a < 2 ^ (ndig a * 16) := by
  have h1 : a < 2 ^ Builtin.Int.intBits a := by
    unfold Builtin.Int.intBits
    split
    . rename_i h
      have : a = 0 := by simpa using h
      subst this; decide
    . rename_i hne
      have hne' : a.natAbs ≠ 0 := by simpa using hne
      have := Nat.lt_log2_self (n := a.natAbs)
      have e : ((a.natAbs : Nat) : Int) = a := Int.natAbs_of_nonneg h0
      have : ((a.natAbs : Nat) : Int) < ((2 ^ (a.natAbs.log2 + 1) : Nat) : Int) := by exact_mod_cast this
      rw [e] at this
      push_cast at this
      exact this
  refine Int.lt_of_lt_of_le h1 ?_
  have : Builtin.Int.intBits a <= ndig a * 16 := by unfold ndig; lia
  have h2 : (2 : Nat) ^ Builtin.Int.intBits a <= 2 ^ (ndig a * 16) := Nat.pow_le_pow_right (by decide) this
  exact_mod_cast h2
theorem i2d_fn (T : TbOk N [] Top) {f c P : Addr} {cd : Value} (D : DefOkC Top (Str.ofString "_int2digits") 4 f cd) (Ne : Nest N Top cd (posOf (innerOf 4)) qInner4 c P) (bLen : BuiltIs Top (Str.ofString "len") (.builtin "len"))
    (a : Int) (h0 : 0 <= a) (hm40 : ndig a <= 40) : FN w N X (TbX Top X) f (ndig a + 1) [.int a, .int 16] (.list ((digs (ndig a) a).map PV.int)) := by
  have hlt := lt_bits h0
  have hmd : ((Builtin.Int.intBits a : Int) + 16 - 1).fdiv 16 = (ndig a : Nat) := by
    rw [Int.fdiv_eq_ediv_of_nonneg _ (by decide)]; unfold ndig; lia
  have hz : a = 0 -> ndig a = 0 := by rintro rfl; rfl
  generalize ndig a = m at *
  refine FN.defC (d := m) (prm := [Str.ofString "a",Str.ofString "n"]) (loc := [Str.ofString "a_digits",Str.ofString "inner"]) T D rfl (fun pm cd doc vs h => by obtain ⟨a,b,rfl⟩ := of2 h; with_unfolding_all rfl) (by decide) (by decide) fun A env hb hA O hs hc hq => ?_
  have TX := TbX.ok T X
  have hn : NsOk i2dN := ⟨by decide,by decide,by decide⟩
  have hkk := O.kind
  have hL := O.hL
  have hqn : qualnameIn env (Str.ofString "inner") (Str.ofString "inner") = qInner4 := by
    unfold qualnameIn
    rw [if_neg (by rw [Env.kindOf,hs]; decide),hq]; rfl
  show ST w N (TbX Top X) A env (Wr env i2dN X) (Cx N X hb env i2dN [some (.int a),some (.int 16),none,none]) (_ :: _ :: _ :: _ :: []) _
  refine ST.own (ns := i2dN) (vals := [some (.int a),some (.int 16),none,none]) (i := 2) (xs := List.replicate m (.int 0)) T O ?o1 ?o2 hn ?o3 ?o4 ?o5
  case o1 =>
    refine FL.conv (FL.rep (x := .int 0) (n := ((m : Nat) : Int)) TX ?f1 EV.cint ?f2 (by lia) (by lia) rfl) (by rw [Int.toNat_natCast])
    case f1 => walk_at "m"
    case f2 =>
      refine EV.conv (p := .int (((Builtin.Int.intBits a : Int) + 16 - 1).fdiv 16)) (EV.bin ?g1 (EV.bin ?g2 (EV.bin ?g3 (EV.bits ?g4 rfl rfl) ?g5 OP.add) EV.cint OP.sub) ?g6 (OP.div (by decide) (by decide))) (by rw [hmd])
      case g1 => walk_at "m"
      case g2 => walk_at "m"
      case g3 => walk_at "m"
      case g4 => walk_at "m"
      case g5 => walk_at "m"
      case g6 => walk_at "m"
  case o2 => walk_at "m"
  case o3 => rw [Env.kindOf,hs]; decide
  case o4 => exact swaps_no rfl
  case o5 =>
  intro ad hNad hadX hbad
  have TY := TbX.ok T (ad :: X)
  show ST w N (TbX Top (ad :: X)) A env (Wr env i2dN (ad :: X)) (Cx N (ad :: X) hb env i2dN [some (.int a),some (.int 16),some (.own ad (List.replicate m (.int 0))),none]) (_ :: _ :: _ :: []) _
  refine ST.nest (ns := i2dN) (vals := [some (.int a),some (.int 16),some (.own ad (List.replicate m (.int 0))),none]) (i := 3) (c := c) (P := P) (clos := closeOf env (scopeOf (innerOf 4)).names []) TY O ?n1 ?n2 ?n3 ?n4 ?n5 ?n6 hn ?n7 ?n8
  case n1 => rw [hqn,hc]; exact Ne.x (ad :: X)
  case n2 => rfl
  case n3 => rfl
  case n4 => rfl
  case n5 =>
    intro h cx
    refine cx.clos ?_
    show ∀ y ∈ (scopeOf (innerOf 4)).names,y.2 = .free -> _
    intro y hy hf
    have : y.1 = Str.ofString "a_digits" ∨ y.1 = Str.ofString "inner" ∨ y.1 = Str.ofString "n" := by
      revert y
      decide
    rcases this with e | e | e <;> rw [e]
    . exact ⟨2,rfl, .inl (by rw [Env.kindOf,hs]; decide)⟩
    . exact ⟨3,rfl, .inl (by rw [Env.kindOf,hs]; decide)⟩
    . exact ⟨1,rfl, .inl (by rw [Env.kindOf,hs]; decide)⟩
  case n6 => walk_at "m"
  case n7 => rw [Env.kindOf,hs]; decide
  case n8 =>
    intro fi doc pm cv ctv hNf hXf
    rw [hqn]
    have TF := TbF.ok (f := fi) (o := { cls := .type "function",data := .func (fnX (Str.ofString "inner") qInner4 (paramsOf (innerOf 4)) (bodyOf (innerOf 4)) (scopeOf (innerOf 4)) (closeOf env (scopeOf (innerOf 4)).names []) .none .none doc pm none cv ctv) }) (cv := cv) (qual := qInner4) TY rfl
    show ST w N (TbF (TbX Top (ad :: X)) fi { cls := .type "function",data := .func (fnX (Str.ofString "inner") qInner4 (paramsOf (innerOf 4)) (bodyOf (innerOf 4)) (scopeOf (innerOf 4)) (closeOf env (scopeOf (innerOf 4)).names []) .none .none doc pm none cv ctv) } cv qInner4) A env (Wr env i2dN (ad :: X)) (Cx N (ad :: X) hb env i2dN [some (.int a),some (.int 16),some (.own ad (List.replicate m (.int 0))),some (.raw (.ref fi))]) (_ :: _ :: []) _
    generalize hTb : TbF (TbX Top (ad :: X)) fi { cls := .type "function",data := .func (fnX (Str.ofString "inner") qInner4 (paramsOf (innerOf 4)) (bodyOf (innerOf 4)) (scopeOf (innerOf 4)) (closeOf env (scopeOf (innerOf 4)).names []) .none .none doc pm none cv ctv) } cv qInner4 = Tb at TF ⊢
    have DI : DefAt Tb fi (fnX (Str.ofString "inner") qInner4 (paramsOf (innerOf 4)) (bodyOf (innerOf 4)) (scopeOf (innerOf 4)) (closeOf env (scopeOf (innerOf 4)).names []) .none .none doc pm none cv ctv) := ⟨_,rfl,fun h t => by rw [<- hTb] at t; exact t.2.1⟩
    have HC : ∀ h,Tb h -> h.CodeRec cv qInner4 := fun h t => by rw [<- hTb] at t; exact t.2.2
    have BL : BuiltIs Tb (Str.ofString "len") (.builtin "len") := fun h t => by rw [<- hTb] at t; exact bLen h t.1.1
    refine ST.seq (C' := Cx N (ad :: X) hb env i2dN [some (.int a),some (.int 16),some (.own ad ((digs m a).map PV.int)),some (.raw (.ref fi))]) (SX.iff (c := (a != 0)) ?i1 (BV.ofInt (X := ad :: X) ?i2 rfl) (fun hne => ?i3) (fun he => ?i4)) (ST.last (SX.retOwn (ns := i2dN) (vals := [some (.int a),some (.int 16),some (.own ad ((digs m a).map PV.int)),some (.raw (.ref fi))]) (i := 2) O.toBlkOk hn ?i5 rfl hadX))
    case i1 => walk_at "m"
    case i2 => walk_at "m"
    case i5 => walk_at "m"
    case i4 =>
      have ha : a = 0 := by simpa using he
      have hm0 := hz ha
      subst hm0
      exact ST.nilN
    case i3 =>
      have hane : a ≠ 0 := by simpa using hne
      have hm : 0 < m := by
        rcases Nat.eq_zero_or_pos m with e | e
        . subst e; simp at hlt; lia
        . exact e
      have F4 := inner4 (w := w) (TF.sub (Y := [ad]) (by simp)) hNad DI HC m hm hm40
      refine ST.last (SX.callW (X := ad :: X) (C := Cx N (ad :: X) hb env i2dN [some (.int a),some (.int 16),some (.own ad (List.replicate m (.int 0))),some (.raw (.ref fi))]) (C' := Cx N (ad :: X) hb env i2dN [some (.int a),some (.int 16),some (.own ad ((digs m a).map PV.int)),some (.raw (.ref fi))]) (ps := [.int a, .int ((0 : Nat) : Int), .int ((0 + m : Nat) : Int)]) ?p1 ?p2 DI (EVs.cons ?p3 ?p4 (EVs.cons ?p5 EV.cint (EVs.cons ?p7 ?p8 EVs.nil rfl) rfl) rfl) ?p9 rfl (fun s Q E h => Call_ h) ?p10 rfl)
      case p1 => walk_at "m"
      case p2 => walk_at "m"
      case p3 => walk_at "m"
      case p4 => walk_at "m"
      case p5 => walk_at "m"
      case p7 => walk_at "m"
      case p8 =>
        refine EV.conv (p := .int ((List.replicate m (PV.int 0)).length : Int)) (EV.ownLen (ns := i2dN) (vals := [some (.int a),some (.int 16),some (.own ad (List.replicate m (.int 0))),some (.raw (.ref fi))]) (i := 2) O.toBlkOk hn ?q1 rfl (by simp; lia) ?q2 BL rfl) (by simp)
        case q1 => walk_at "m"
        case q2 => rw [Env.kindOf,hs]; decide
      case p10 => unfold interactive; rw [O.kind]; rfl
      case p9 =>
        intro vs s Q E cx t iv k
        obtain ⟨su,haX,hNa,us,hl,hLs⟩ := cx.ownAt (i := 2) (x := Str.ofString "a_digits") rfl rfl
        have hsub : ∀ b ∈ [ad],b ∈ ad :: X := by simp
        refine F4 A hA a 0 (List.replicate m (.int 0)) vs s Q E h0 hlt (by simp) (by simp; exact hm40) (iv.sub hsub) ?_ ⟨us,hl,hLs.sub hsub⟩ t ?_
        . intro i x p hx hp
          match i,hx,hp with
          | 0,hx,hp =>
            cases hx; cases hp
            rcases su with ⟨kx, _⟩ | ⟨kx,c',hc',hN,hcell⟩
            . rw [Env.kindOf,hs] at kx; exact absurd kx (by decide)
            . exact ⟨c', _,closeOf_has hc' _ _ (by decide),hN,hcell, .raw _⟩
          | 1,hx,hp =>
            cases hx; cases hp
            obtain ⟨u,su,hu⟩ := cx.slot 3 _ rfl
            obtain ⟨v,rfl,iv⟩ := hu _ rfl
            rcases su with ⟨kx, _⟩ | ⟨kx,c',hc',hN,hcell⟩
            . rw [Env.kindOf,hs] at kx; exact absurd kx (by decide)
            . exact ⟨c', _,closeOf_has hc' _ _ (by decide),hN,hcell,(iv.is rfl).sub hsub⟩
          | 2,hx,hp =>
            cases hx; cases hp
            obtain ⟨u,su,hu⟩ := cx.slot 1 _ rfl
            obtain ⟨v,rfl,iv⟩ := hu _ rfl
            rcases su with ⟨kx, _⟩ | ⟨kx,c',hc',hN,hcell⟩
            . rw [Env.kindOf,hs] at kx; exact absurd kx (by decide)
            . exact ⟨c', _,closeOf_has hc' _ _ (by decide),hN,hcell,(iv.is rfl).sub hsub⟩
          | i + 3,hx,hp => cases hx
        . intro v h' tk fx t' ⟨us',hl',hL'⟩
          refine k v h' tk (fx.sub fun b hb => Wr.has (hsub b hb)) t' ?_
          refine Cx.ownFx (vals := [some (.int a),some (.int 16),some (.own ad (List.replicate m (.int 0))),some (.raw (.ref fi))]) (i := 2) (x := Str.ofString "a_digits") cx rfl rfl (OthersOk.of rfl) hbad hL fx hl' ?_
          have e : List.take 0 (List.replicate m (PV.int 0)) ++ (digs m a).map PV.int ++ List.drop (0 + m) (List.replicate m (PV.int 0)) = (digs m a).map PV.int := by simp
          rw [e] at hL'
          exact IsL.ofInts hL'.ints
end
end
section
set_option autoImplicit false
theorem reverse_get {α : Type} (l : List α) (i : Nat) (h : i < l.length) : l.reverse[i]? = l[l.length - 1 - i]? := List.getElem?_reverse h
noncomputable def remF (rs : List Int) : Int := rs.foldl (fun r d => (r * 65536 + d) % 65535) 0
noncomputable def quoF (rs : List Int) (i : Nat) : Int := (remF (rs.take i) * 65536 + rs.getD i 0) / 65535
theorem remF_bound (rs : List Int) : 0 <= remF rs ∧ remF rs < 65535 := by
  unfold remF
  rcases List.eq_nil_or_concat rs with rfl | ⟨l,x,rfl⟩
  . decide
  . rw [List.concat_eq_append,List.foldl_append]; simp only [List.foldl_cons,List.foldl_nil]; lia
theorem remF_sum (rs : List Int) : remF rs = rs.sum % 65535 := by
  have key : ∀ (rs : List Int) (r : Int),rs.foldl (fun r d => (r * 65536 + d) % 65535) r % 65535 = (r + rs.sum) % 65535 := by
    intro rs
    induction rs with
    | nil => intro r; simp
    | cons d rs ih => intro r; rw [List.foldl_cons,ih,List.sum_cons]; lia
  have h1 := key rs 0
  have h2 := remF_bound rs
  unfold remF at h2 ⊢
  lia
theorem remF_succ (rs : List Int) (j : Nat) (h : j < rs.length) : remF (rs.take (j + 1)) = (remF (rs.take j) * 65536 + rs.getD j 0) % 65535 := by
  unfold remF
  rw [List.take_add_one,List.getElem?_eq_getElem h,List.foldl_append]
  simp [List.getD_eq_getElem?_getD,h]
theorem quoF_bound (rs : List Int) (hd : Dig rs) (i : Nat) : 0 <= quoF rs i ∧ quoF rs i < 65536 := by
  have h := remF_bound (rs.take i)
  have h2 : 0 <= rs.getD i 0 ∧ rs.getD i 0 < 65536 := by
    rw [List.getD_eq_getElem?_getD]
    by_cases hi : i < rs.length
    . rw [List.getElem?_eq_getElem hi]; exact hd _ (List.getElem_mem hi)
    . rw [List.getElem?_eq_none (by lia)]; decide
  unfold quoF
  lia
section
variable {w : World} {N : Nat} {X : List Addr} {Tb : Heap -> Prop} {Top : Heap -> Prop} {A : Around} {env : Env} {hb : Heap} {C : Heap -> Prop}
theorem Wk.rev (hh : A.handled = none) {I ax : Addr} (hne : ax ≠ I) {vs : List Value} {ps : List PV} :
    Wk w N X A I ps.reverse (fun i h => i <= ps.length ∧ h.IsRevIter I ax ((ps.length : Int) - 1 - (i : Int)) ∧ ax ∉ X ∧ h.PlainList ax vs.toArray ∧ IsL X h vs ps) where
  obj := fun i h st => let ⟨o,ho,hc,hd⟩ := st.2.1; ⟨o, _,ho,hd,by intro x t e; cases e⟩
  cls := fun i h st => let ⟨o,ho,hc,hd⟩ := st.2.1; ⟨o, _,ho,hc,by decide⟩
  fx := fun i h h' W st f hI hN wo => by
    obtain ⟨hi,⟨o,ho,hc,hd⟩,hx,hl,hL⟩ := st
    refine ⟨hi,⟨o,f.kp _ _ hI ho (.inl hN),hc,hd⟩,hx, ?_,hL.fx f wo⟩
    obtain ⟨n,hn⟩ := hl
    refine ⟨n,f.kp _ _ (fun m => ?_) hn (.inr (by intro e; cases e))⟩
    rcases (wo _ m).2 with hq | hq
    . exact hx hq
    . exact hq _ hn _ _ rfl
  item := fun i p s Q E hp st k => by
    obtain ⟨hi,hit,hx,hl,hL⟩ := st
    have hlt : i < ps.length := by have := (List.getElem?_eq_some_iff.mp hp).1; simpa using this
    rw [reverse_get _ _ hlt] at hp
    obtain ⟨v,hv,iv⟩ := hL.get' hp
    have e : (ps.length : Int) - 1 - (i : Int) = ((ps.length - 1 - i : Nat) : Int) := by lia
    rw [e] at hit
    refine wpAny_pyNext_rev_item hit hl.isList (x := v) (by simpa using hv) fun h' hit' hs' => ?_
    have e2 : ((ps.length - 1 - i : Nat) : Int) - 1 = (ps.length : Int) - 1 - ((i + 1 : Nat) : Int) := by lia
    rw [e2] at hit'
    have kp : ∀ b o,b ≠ I -> s.heap.get? b = some o -> h'.get? b = some o := fun b o hb e => (hs'.2 b hb).trans e
    have hq : ∀ o,s.heap.get? I = some o -> ∀ xs n,o.data ≠ .seq xs n := fun o ho xs n e => by
      obtain ⟨o',ho', _,hd⟩ := hit
      rw [ho] at ho'; cases ho'
      rw [hd] at e; cases e
    exact k v h' s.toks (iv.but kp (.inr hq)) ⟨hlt,hit',hx,let ⟨n,hn⟩ := hl; ⟨n,kp _ _ hne hn⟩,hL.but kp (.inr hq)⟩ kp
  done := fun s Q E st k => by
    obtain ⟨hi,hit,hx,hl,hL⟩ := st
    have e : (ps.length : Int) - 1 - ((ps.reverse.length : Nat) : Int) = -1 := by rw [List.length_reverse]; lia
    rw [e] at hit
    exact wpAny_pyNext_rev_end hh hit fun h' he' => k h' s.toks fun b o hb e => he' b o hb e
  self := fun _ _ _ _ st hQ => wpAny_pyIter_revIter st.2.1 hQ
theorem SRC.rev (T : TbOk N X Tb) (hA : A.handled = none) {px pos : Pos} {e : Expr} {ps : List PV} (hC : Stb N C) (hk : env.scope.kind = .function) (hgl : env.globals = mainGlobals) (hbl : env.builtins = builtinsNs)
    (hx : env.kindOf (Str.ofString "reversed") = some .globalImplicit) (G : BuiltIs Tb (Str.ofString "reversed") (.type "reversed")) (h : EV w N Tb A env C e (IsP X (.list ps))) (he : starEach [e] env = [(false,eval e env)]) :
    SRC w N X Tb A env C (.Call (.Name (Str.ofString "reversed") px) [e] [] pos) ps.reverse := by
  constructor
  intro s Q E c t k
  refine Call_ ((EV.built (N := N) (C := C) hk hgl hbl hx G (by decide)).run s _ E c t fun v h₁ t₁ n₁ T₁ hv => ?_)
  subst hv
  refine PyProof.Rows.callWith_type1 ?_ he rfl
  refine args_cons (h.run _ _ E (hC _ _ c n₁) T₁ fun v h₂ t₂ n₂ T₂ i₂ => args_nil ?_) he
  obtain ⟨a,vs,rfl,hxa,hl,hL⟩ := Is.list_inv i₂
  refine call_reversed_list hl.isList ?_
  have hlt : a < h₂.objs.size := let ⟨_,hn⟩ := hl; Heap.lt_size hn
  have hrev : (h₂.push (revObj a ((vs.toArray.size : Int) - 1))).IsRevIter h₂.objs.size a ((ps.length : Int) - 1 - ((0 : Nat) : Int)) := by
    refine ⟨_,Heap.get?_push_size _ rfl,rfl, ?_⟩
    have e : (ps.length : Int) - 1 - ((0 : Nat) : Int) = (vs.toArray.size : Int) - 1 := by simp [hL.length]
    rw [e]; rfl
  refine wpAny_pyIter_revIter hrev ?_
  refine k h₂.objs.size _ t₂ (fun Y hY => ⟨_,Wk.rev (ax := a) (vs := vs) hA (Nat.ne_of_lt hlt),Nat.zero_le _,hrev, ?_, ?_,(hL.nx (.push (N := N) _ _)).grow hY⟩) (n₁.trans n₂).sz (by rw [Heap.size_push]; exact Nat.lt_succ_self _) ((n₁.trans n₂).trans (.push _ _)) (T.push T₂ _)
  . exact fun m => (hY _ m).elim hxa fun q => by rw [Heap.size_push] at q; exact Nat.lt_irrefl _ (Nat.lt_of_lt_of_le hlt (Nat.le_of_succ_le q))
  . exact (Nx.push (N := N) _ _).isList hl
noncomputable abbrev posN : List Str := [Str.ofString "a",Str.ofString "b",Str.ofString "n",Str.ofString "a_digits",Str.ofString "r",Str.ofString "q_digits",Str.ofString "a_digit",Str.ofString "q_digit",Str.ofString "q"]
theorem pos_fn (g : GY N Top) {t : Tok} (G : GlobIs Top (Str.ofString "_DIV_LIMIT") (.int 4000 t)) (bRev : BuiltIs Top (Str.ofString "reversed") (.type "reversed")) {a : Int} {m : Nat} (hm : m <= 40)
    (FI : ∀ Y,FN w N Y (TbX Top Y) g.fDig (m + 1) [.int a, .int 16] (.list ((digs m a).map PV.int))) : ∃ q : Int,FN w N X (TbX Top X) g.fPos (m + 2) [.int a, .int 65535] (.tup [.int q, .int ((digs m a).sum % 65535)]) := by
  have hdd : Dig (digs m a).reverse := fun d hd => digs_dig m a d (List.mem_reverse.mp hd)
  have hrl : (digs m a).reverse.length = m := by rw [List.length_reverse,digs_length]
  generalize hrs : (digs m a).reverse = rs at hdd hrl
  have hds : digs m a = rs.reverse := by rw [<- hrs,List.reverse_reverse]
  have hsum : (digs m a).sum % 65535 = remF rs := by rw [remF_sum,hds]; simp [List.sum_reverse]
  refine ⟨d2i ((List.range m).map (quoF rs)).reverse, ?_⟩
  rw [hsum]
  refine FN.def (d := m + 1) (prm := [Str.ofString "a",Str.ofString "b"]) (loc := [Str.ofString "n",Str.ofString "a_digits",Str.ofString "r",Str.ofString "q_digits",Str.ofString "a_digit",Str.ofString "q_digit",Str.ofString "q"]) g.T g.dPos rfl (fun pm cd doc vs h => by obtain ⟨a,b,rfl⟩ := of2 h; with_unfolding_all rfl) (by decide) (by decide) fun A env hb hA O hs => ?_
  have T := TbX.ok g.T X
  have hn : NsOk posN := ⟨by decide,by decide,by decide⟩
  have hkk := O.kind
  have hL := O.hL
  show ST w N (TbX Top X) A env (Wr env posN X) (Cx N X hb env posN [some (.int a),some (.int 65535),none,none,none,none,none,none,none]) (_ :: _ :: _ :: _ :: _ :: _ :: _ :: _ :: []) _
  refine ST.seq (C' := Cx N X hb env posN [some (.int a),some (.int 65535),some (.int 16),none,none,none,none,none,none]) (SX.assign (ns := posN) (vals := [some (.int a),some (.int 65535),none,none,none,none,none,none,none]) (i := 2) (p := .int 16) T O (EV.conv (EV.bits (a := 65535) ?a1 rfl rfl) rfl) ?a2 hn ?a3 ?a4) ?_
  case a1 => walk_at "m"
  case a2 => walk_at "m"
  case a3 => rw [Env.kindOf,hs]; decide
  case a4 => exact swaps_no rfl
  refine ST.seq (C' := Cx N X hb env posN [some (.int a),some (.int 65535),some (.int 16),some (.list (rs.reverse.map PV.int)),none,none,none,none,none]) (SX.assign (ns := posN) (vals := [some (.int a),some (.int 65535),some (.int 16),none,none,none,none,none,none]) (i := 3) (p := .list (rs.reverse.map PV.int)) T O ?b1 ?b2 hn ?b3 ?b4) ?_
  case b1 =>
    have F := FI X
    rw [hds] at F
    refine EV.callD ?b5 O.kind O.glob ?b6 g.dDig (EVs.cons ?b7 ?b8 (EVs.cons ?b9 ?b10 EVs.nil rfl) rfl) F hA
    case b5 => walk_at "m"
    case b6 => rw [Env.kindOf,hs]; decide
    case b7 => walk_at "m"
    case b8 => walk_at "m"
    case b9 => walk_at "m"
    case b10 => walk_at "m"
  case b2 => walk_at "m"
  case b3 => rw [Env.kindOf,hs]; decide
  case b4 => exact swaps_no rfl
  refine ST.seq (C' := Cx N X hb env posN [some (.int a),some (.int 65535),some (.int 16),some (.list (rs.reverse.map PV.int)),some (.int 0),none,none,none,none]) (SX.assign (ns := posN) (vals := [some (.int a),some (.int 65535),some (.int 16),some (.list (rs.reverse.map PV.int)),none,none,none,none,none]) (i := 4) (p := .int 0) T O EV.cint ?c1 hn ?c2 ?c3) ?_
  case c1 => walk_at "m"
  case c2 => rw [Env.kindOf,hs]; decide
  case c3 => exact swaps_no rfl
  refine ST.own (ns := posN) (vals := [some (.int a),some (.int 65535),some (.int 16),some (.list (rs.reverse.map PV.int)),some (.int 0),none,none,none,none]) (i := 5) (xs := []) g.T O (FL.list T EVs.nil (by decide)) ?d1 hn ?d2 ?d3 ?d4
  case d1 => walk_at "m"
  case d2 => rw [Env.kindOf,hs]; decide
  case d3 => exact swaps_no rfl
  case d4 =>
  intro qa hNq hqX hbq
  have TY := TbX.ok g.T (qa :: X)
  show ST w N (TbX Top (qa :: X)) A env (Wr env posN (qa :: X)) (Cx N (qa :: X) hb env posN [some (.int a),some (.int 65535),some (.int 16),some (.list (rs.reverse.map PV.int)),some (.int 0),some (.own qa []),none,none,none]) (_ :: _ :: _ :: _ :: []) _
  refine ST.seq (C' := Cx N (qa :: X) hb env posN [some (.int a),some (.int 65535),some (.int 16),some (.list (rs.reverse.map PV.int)),some (.int (remF (rs.take m))),some (.own qa (((List.range m).map (quoF rs)).map PV.int)),(if m = 0 then none else some (.int (rs.getD (m - 1) 0))),(if m = 0 then none else some (.int (quoF rs (m - 1)))),none]) (SX.forL (n := ((rs.reverse.map PV.int).reverse).length) (V := fun j => [some (.int a),some (.int 65535),some (.int 16),some (.list (rs.reverse.map PV.int)),some (.int (remF (rs.take j))),some (.own qa (((List.range j).map (quoF rs)).map PV.int)),(if j = 0 then none else some (.int (rs.getD (j - 1) 0))),(if j = 0 then none else some (.int (quoF rs (j - 1)))),none]) (U := fun k vals => vals.set 6 (some (.int (rs.getD k 0)))) TY O.toBlkOk ?e1 (LSRC.one (P := fun k => .int (rs.getD k 0)) TY O.toBlkOk ?e2 ?e3 hn (.inl ?e4) (SRC.rev TY hA.hd ?e5 O.kind O.glob O.bui ?e6 (bRev.x _) ?e7 rfl)) ?e8 ?e9 ?e10) ?_
  case e1 => rfl
  case e2 =>
    intro k p hp
    rw [<- List.map_reverse,List.reverse_reverse,List.getElem?_map] at hp
    rw [List.getD_eq_getElem?_getD]
    cases hq : rs[k]? with
    | none => rw [hq] at hp; cases hp
    | some z => rw [hq] at hp; cases hp; rfl
  case e3 => walk_at "m"
  case e4 => rw [Env.kindOf,hs]; decide
  case e5 => walk_at "m"
  case e6 => rw [Env.kindOf,hs]; decide
  case e7 => walk_at "m"
  case e10 => intro _; rfl
  case e9 =>
    have : ((rs.reverse.map PV.int).reverse).length = m := by simp [hrl]
    rw [this]
    exact ST.nilN
  case e8 =>
    intro j hj
    have hj : j < m := by simpa [hrl] using hj
    have hjr : j < rs.length := by lia
    have hrb := remF_bound (rs.take j)
    have hdb : 0 <= rs.getD j 0 ∧ rs.getD j 0 < 65536 := by
      rw [List.getD_eq_getElem?_getD,List.getElem?_eq_getElem hjr]; exact hdd _ (List.getElem_mem hjr)
    have hbits : Builtin.Int.intBits (remF (rs.take j) * 65536 + rs.getD j 0) <= 32 := intBits_lt (by lia) (by lia)
    have hbr : Builtin.Int.intBits (remF (rs.take j)) <= 16 := intBits_lt (by lia) (by lia)
    refine ST.weak (R := Nxt (Cx N (qa :: X) hb env posN [some (.int a),some (.int 65535),some (.int 16),some (.list (rs.reverse.map PV.int)),some (.int (remF (rs.take (j + 1)))),some (.own qa (((List.range (j + 1)).map (quoF rs)).map PV.int)),(if (j + 1) = 0 then none else some (.int (rs.getD ((j + 1) - 1) 0))),(if (j + 1) = 0 then none else some (.int (quoF rs ((j + 1) - 1)))),none])) ?_ (fun f g h => .inl h)
    show ST w N (TbX Top (qa :: X)) A env (Wr env posN (qa :: X)) (Cx N (qa :: X) hb env posN [some (.int a),some (.int 65535),some (.int 16),some (.list (rs.reverse.map PV.int)),some (.int (remF (rs.take j))),some (.own qa (((List.range j).map (quoF rs)).map PV.int)),some (.int (rs.getD j 0)),(if j = 0 then none else some (.int (quoF rs (j - 1)))),none]) (_ :: _ :: []) _
    refine ST.seq (C' := Cx N (qa :: X) hb env posN [some (.int a),some (.int 65535),some (.int 16),some (.list (rs.reverse.map PV.int)),some (.int (remF (rs.take (j + 1)))),some (.own qa (((List.range j).map (quoF rs)).map PV.int)),some (.int (rs.getD j 0)),some (.int (quoF rs j)),none]) (SX.assign2 (ns := posN) (vals := [some (.int a),some (.int 65535),some (.int 16),some (.list (rs.reverse.map PV.int)),some (.int (remF (rs.take j))),some (.own qa (((List.range j).map (quoF rs)).map PV.int)),some (.int (rs.getD j 0)),(if j = 0 then none else some (.int (quoF rs (j - 1)))),none]) (i := 7) (j := 4) (p := .int (quoF rs j)) (q := .int (remF (rs.take (j + 1)))) TY O.toBlkOk hA.hd ?f1 ?f2 hn (.inl ?f3) (.inl ?f4) ?f5 ?f6 ?f7) ?_
    case f1 => walk_at "m"
    case f2 => walk_at "m"
    case f3 => rw [Env.kindOf,hs]; decide
    case f4 => rw [Env.kindOf,hs]; decide
    case f6 => rfl
    case f7 => rfl
    case f5 =>
      have F := div2_fn (w := w) (X := qa :: X) g.toGX (a := remF (rs.take j) * 65536 + rs.getD j 0) (b := 65535) (n := 16) G (by lia) (by decide) (by decide)
      rw [Int.fdiv_eq_ediv_of_nonneg _ (by decide),Int.fmod_eq_emod_of_nonneg _ (by decide)] at F
      rw [remF_succ rs j hjr]
      refine EV.callD ?g1 O.kind O.glob ?g2 g.dDiv2 (EVs.cons ?g3 (EV.conv (p := .int (remF (rs.take j) * 2 ^ (16 : Int).toNat + rs.getD j 0)) (EV.bin ?g4 (EV.bin ?g5 ?g6 ?g7 (OP.shl (by decide) (by lia))) ?g8 OP.add) rfl) (EVs.cons ?g9 ?g10 (EVs.cons ?g11 ?g12 EVs.nil rfl) rfl) rfl) F (hA.less (by lia))
      case g1 => walk_at "m"
      case g2 => rw [Env.kindOf,hs]; decide
      case g3 => walk_at "m"
      case g4 => walk_at "m"
      case g5 => walk_at "m"
      case g6 => walk_at "m"
      case g7 => walk_at "m"
      case g8 => walk_at "m"
      case g9 => walk_at "m"
      case g10 => walk_at "m"
      case g11 => walk_at "m"
      case g12 => walk_at "m"
    have e1 : ((List.range (j + 1)).map (quoF rs)).map PV.int = ((List.range j).map (quoF rs)).map PV.int ++ [.int (quoF rs j)] := by rw [List.range_succ]; simp
    rw [e1]
    refine ST.last (SX.append (ns := posN) (vals := [some (.int a),some (.int 65535),some (.int 16),some (.list (rs.reverse.map PV.int)),some (.int (remF (rs.take (j + 1)))),some (.own qa (((List.range j).map (quoF rs)).map PV.int)),some (.int (rs.getD j 0)),some (.int (quoF rs j)),none]) (i := 5) TY O.toBlkOk hn ?h1 rfl (OthersOk.of rfl) hbq ?h2 ?h3 ?h4 rfl rfl rfl rfl)
    case h1 => walk_at "m"
    case h2 => walk_at "m"
    case h3 => simp only [sizeLine]; simp; lia
    case h4 => unfold interactive; rw [O.kind]; rfl
  refine ST.seq (C' := Cx N (qa :: X) hb env posN [some (.int a),some (.int 65535),some (.int 16),some (.list (rs.reverse.map PV.int)),some (.int (remF (rs.take m))),some (.own qa (((List.range m).map (quoF rs)).map PV.int).reverse),(if m = 0 then none else some (.int (rs.getD (m - 1) 0))),(if m = 0 then none else some (.int (quoF rs (m - 1)))),none]) (SX.reverse (ns := posN) (vals := [some (.int a),some (.int 65535),some (.int 16),some (.list (rs.reverse.map PV.int)),some (.int (remF (rs.take m))),some (.own qa (((List.range m).map (quoF rs)).map PV.int)),(if m = 0 then none else some (.int (rs.getD (m - 1) 0))),(if m = 0 then none else some (.int (quoF rs (m - 1)))),none]) (i := 5) TY O.toBlkOk hn ?k1 rfl ?k5 hbq ?k2 ?k3 rfl rfl rfl) ?_
  case k1 => walk_at "m"
  case k5 =>
    intro j p hj hp
    match j,hp with
    | 0,hp => cases hp; rfl
    | 1,hp => cases hp; rfl
    | 2,hp => cases hp; rfl
    | 3,hp => cases hp; rfl
    | 4,hp => cases hp; rfl
    | 5,hp => exact absurd rfl hj
    | 6,hp => simp only [List.getElem?_cons_succ,List.getElem?_cons_zero] at hp; split at hp <;> cases hp; rfl
    | 7,hp => simp only [List.getElem?_cons_succ,List.getElem?_cons_zero] at hp; split at hp <;> cases hp; rfl
    | 8,hp => cases hp
    | j + 9,hp => cases hp
  case k2 => simp only [sizeLine]; simp; lia
  case k3 => unfold interactive; rw [O.kind]; rfl
  refine ST.unown (i := 5) (a := qa) (xs := (((List.range m).map (quoF rs)).map PV.int).reverse) (x := Str.ofString "q_digits") rfl hqX ?l1 ?_
  case l1 =>
    intro j p hj hp
    match j,hp with
    | 0,hp => cases hp; rfl
    | 1,hp => cases hp; rfl
    | 2,hp => cases hp; rfl
    | 3,hp => cases hp; rfl
    | 4,hp => cases hp; rfl
    | 5,hp => exact absurd rfl hj
    | 6,hp => simp only [List.getElem?_cons_succ,List.getElem?_cons_zero] at hp; split at hp <;> cases hp; rfl
    | 7,hp => simp only [List.getElem?_cons_succ,List.getElem?_cons_zero] at hp; split at hp <;> cases hp; rfl
    | 8,hp => cases hp
    | j + 9,hp => cases hp
  rw [<- List.map_reverse]
  show ST w N (TbX Top X) A env (Wr env posN X) (Cx N X hb env posN [some (.int a),some (.int 65535),some (.int 16),some (.list (rs.reverse.map PV.int)),some (.int (remF (rs.take m))),some (.list (((List.range m).map (quoF rs)).reverse.map PV.int)),(if m = 0 then none else some (.int (rs.getD (m - 1) 0))),(if m = 0 then none else some (.int (quoF rs (m - 1)))),none]) (_ :: _ :: []) _
  have hqd : Dig ((List.range m).map (quoF rs)).reverse := fun d hd => by
    obtain ⟨i, _,rfl⟩ := List.mem_map.mp (List.mem_reverse.mp hd)
    exact quoF_bound rs hdd i
  have hql : ((List.range m).map (quoF rs)).reverse.length = m := by simp
  refine ST.seq (C' := Cx N X hb env posN [some (.int a),some (.int 65535),some (.int 16),some (.list (rs.reverse.map PV.int)),some (.int (remF (rs.take m))),some (.list (((List.range m).map (quoF rs)).reverse.map PV.int)),(if m = 0 then none else some (.int (rs.getD (m - 1) 0))),(if m = 0 then none else some (.int (quoF rs (m - 1)))),some (.int (d2i ((List.range m).map (quoF rs)).reverse))]) (SX.assign (ns := posN) (vals := [some (.int a),some (.int 65535),some (.int 16),some (.list (rs.reverse.map PV.int)),some (.int (remF (rs.take m))),some (.list (((List.range m).map (quoF rs)).reverse.map PV.int)),(if m = 0 then none else some (.int (rs.getD (m - 1) 0))),(if m = 0 then none else some (.int (quoF rs (m - 1)))),none]) (i := 8) (p := .int (d2i ((List.range m).map (quoF rs)).reverse)) T O ?m1 ?m2 hn ?m3 ?m4) ?_
  case m1 =>
    have F := d2i_y (w := w) (X := X) g hqd (by lia)
    refine EV.callD ?m5 O.kind O.glob ?m6 g.dInt (EVs.cons ?m7 ?m8 (EVs.cons ?m9 ?m10 EVs.nil rfl) rfl) F (hA.less (by lia))
    case m5 => walk_at "m"
    case m6 => rw [Env.kindOf,hs]; decide
    case m7 => walk_at "m"
    case m8 => walk_at "m"
    case m9 => walk_at "m"
    case m10 => walk_at "m"
  case m2 => walk_at "m"
  case m3 => rw [Env.kindOf,hs]; decide
  case m4 => exact swaps_no rfl
  have hrm : remF (rs.take m) = remF rs := by rw [List.take_of_length_le (by lia)]
  rw [hrm]
  refine ST.last (SX.ret (fun h c => c.base) (EV.tup T (EVs.cons ?p1 ?p2 (EVs.cons ?p3 ?p4 EVs.nil rfl) rfl) (by walk_at "m")))
  case p1 => walk_at "m"
  case p2 => walk_at "m"
  case p3 => walk_at "m"
  case p4 => walk_at "m"
end
end
section
open PySem.AutoSeq1 (wpAny_loadPart')
set_option autoImplicit false
section
variable {w : World} {A : Around} {E : Value -> Shared -> Prop} {s : Shared}
theorem nextOf_tuple_item {it t : Addr} {i : Nat} {items : Array Value} {x : Value} {Q : Value -> Shared -> Prop} (hit : IsTupIter s.heap it t i) (ht : IsTup s.heap t items) (hx : items[i]? = some x)
    (hQ : ∀ h',IsTupIter h' it t (i + 1) -> Heap.SameBut it s.heap h' -> Q x { s with heap := h' }) : wpAny (MM w) A (Builtin.SmallTypes.nextOf (.ref it)) Q E s := by
  obtain ⟨o,ho,hc,hd⟩ := id hit
  obtain ⟨ol,hol, _,nl,hdl⟩ := ht
  unfold Builtin.SmallTypes.nextOf
  refine wpAny_bind (wpAny_callSpecial?_slot (name := Str.ofString "__next__") hit.typeIs slot_tupleiter_next
    (wpAny_call_entry slot_tupleiter_next hit.typeIs entry_tupleiter_next ?_ (args_tupleiter_next _)))
  show wpAny _ _ (field (.ref it) 0 >>= _) _ _ s
  refine wpAny_bind (wpAny_field ho hd (x := .ref t) rfl ?_)
  show wpAny _ _ (if (Value.ref t == Value.none) = true then _ else _) _ _ s
  rw [if_neg (show ¬ ((Value.ref t == Value.none) = true) from Bool.false_ne_true)]
  show wpAny _ _ (field (.ref it) 1 >>= _) _ _ s
  refine wpAny_bind (wpAny_field ho hd (x := .int i 0) rfl ?_)
  show wpAny _ _ (seqItems? (.ref t) >>= _) _ _ s
  refine wpAny_bind (wpAny_seqItems hol hdl ?_)
  simp only [Int.toNat_natCast,hx]
  refine wpAny_bind (wpAny_setField ho hd (by simp) (wpAny_pure ⟨x,rfl,wpAny_pure (hQ _ ?_ (Heap.SameBut.update ..))⟩))
  exact ⟨_,Heap.get?_update_self _ ho (Obj.isFreed_of_fields (Obj.data_mapFields hd _)),(Obj.cls_mapFields ..).trans hc,by
    rw [Obj.data_mapFields hd]; simp [rawInt]⟩
theorem nextOf_tuple_end {it t : Addr} {i : Nat} {items : Array Value} {Q : Value -> Shared -> Prop} (hh : A.handled = none) (hit : IsTupIter s.heap it t i) (ht : IsTup s.heap t items) (hx : items[i]? = none)
    (hE : ∀ h' e,Heap.ExtBut it s.heap h' -> (∃ o,h'.get? e = some o ∧ o.cls = .type "StopIteration") -> E (.ref e) { s with heap := h' }) : wpAny (MM w) A (Builtin.SmallTypes.nextOf (.ref it)) Q E s := by
  obtain ⟨o,ho,hc,hd⟩ := id hit
  obtain ⟨ol,hol, _,nl,hdl⟩ := ht
  unfold Builtin.SmallTypes.nextOf
  refine wpAny_bind (wpAny_callSpecial?_slot (name := Str.ofString "__next__") hit.typeIs slot_tupleiter_next
    (wpAny_call_entry slot_tupleiter_next hit.typeIs entry_tupleiter_next ?_ (args_tupleiter_next _)))
  show wpAny _ _ (field (.ref it) 0 >>= _) _ _ s
  refine wpAny_bind (wpAny_field ho hd (x := .ref t) rfl ?_)
  show wpAny _ _ (if (Value.ref t == Value.none) = true then _ else _) _ _ s
  rw [if_neg (show ¬ ((Value.ref t == Value.none) = true) from Bool.false_ne_true)]
  show wpAny _ _ (field (.ref it) 1 >>= _) _ _ s
  refine wpAny_bind (wpAny_field ho hd (x := .int i 0) rfl ?_)
  show wpAny _ _ (seqItems? (.ref t) >>= _) _ _ s
  refine wpAny_bind (wpAny_seqItems hol hdl ?_)
  simp only [Int.toNat_natCast,hx]
  refine wpAny_bind (wpAny_rule (wpAny_bind (wpAny_setField ho hd (by simp) ?_)))
  show wpAny _ _ (newExc (.type "StopIteration") [] >>= _) _ _ _
  refine wpAny_bind ?_
  simp only [newExc,newTuple]
  refine wpAny_bind (wpAny_newObj_type ?_ (by size_fits))
  refine wpAny_bind (m := firstArgMember _ _) (wpAny_of_eq (a := Value.none) (by first | rfl | (simp only [firstArgMember]; rfl)) ?_)
  refine wpAny_newObj_type ?_ (by size_fits)
  simp only [raiseNew]
  refine wpAny_bind (wpAny_handled ?_)
  first | rw [show A.in1.handled = none from hh] | rw [hh]
  refine wpAny_bind (wpAny_pure (wpAny_throw ?_))
  exact hE _ _ (((Heap.SameBut.update ..).extBut.push _).push _) ⟨_,Heap.get?_push_size _ rfl,rfl⟩
theorem Draws.tuple (hh : A.handled = none) (it l : Addr) (hne : l ≠ it) (items : Array Value) :
    Draws PP w A it [it,l] items.size (fun i v => items[i]? = some v) (fun i h => IsTupIter h it l i ∧ IsTup h l items) where
  live := fun _ _ st => let ⟨o,ho, _⟩ := st.1; ⟨o,ho⟩
  frame := fun _ _ _ st hk => ⟨let ⟨o,ho,r⟩ := st.1; ⟨o,hk it (by simp) o ho,r⟩,let ⟨o,ho,r⟩ := st.2; ⟨o,hk l (by simp) o ho,r⟩⟩
  item := fun i s Q E hi st hQ => by
    refine nextOf_tuple_item st.1 st.2 (x := items[i]) (by simp [hi]) fun h' hit' hs' => ?_
    exact hQ _ h' s.toks (by simp [hi]) ⟨hit',st.2.extBut hs'.extBut hne⟩ hs'
  done := fun s Q E st hE => nextOf_tuple_end hh st.1 st.2 (by simp) hE
theorem meets_enumerate_newT (l : Addr) (items : Array Value) (o : Obj) (hc : o.cls = .type "tuple") (n : Nat) (hd : o.data = .seq items n) :
    Meets (Builtin.«enumerate.__new__» ⟨[.type "enumerate", .ref l], []⟩) (fun _ R s => s.heap.get? l = some o ∧
      R (.ok (.ret (.ref (s.heap.push { cls := .type "tuple_iterator",data := .fields #[.ref l, .int 0 0] }).objs.size)))
        { s with heap := (s.heap.push { cls := .type "tuple_iterator",data := .fields #[.ref l, .int 0 0] }).push { cls := .type "enumerate",data := .fields #[.none, .bool false, .ref s.heap.objs.size,rawInt 0, .none, .none] } }) :=
  .of_wp fun prog w A R s h => by
    obtain ⟨hp,g,d,tk,os⟩ := s; obtain ⟨hl,h⟩ := h
    have hsub := sub_enumerate
    have hL : IsTup (Shared.heap ⟨hp,g,d,tk,os⟩) l items := ⟨_,hl,hc,n,hd⟩
    wp_walk using wpAny_loadPart' hl
    refine wpAny_stack_any fun st => wpAny_pure ?_
    split
    . rename_i c _ _ _ _ _
      cases (c == Value.type "enumerate")
      . wp_walk using wpAny_loadPart' hl,iter_tuple hL
        exact ⟨_,rfl,h⟩
      . wp_walk using wpAny_loadPart' hl,iter_tuple hL
        exact ⟨_,rfl,h⟩
    . wp_walk using wpAny_loadPart' hl,iter_tuple hL
      exact ⟨_,rfl,h⟩
theorem call_enumerateT {l : Addr} {items : Array Value} {Q : Value -> Shared -> Prop} (hl : IsTup s.heap l items)
    (h : ∀ h',IsEnum h' (s.heap.objs.size + 1) s.heap.objs.size 0 .none -> IsTupIter h' s.heap.objs.size l 0 -> h'.objs.size = s.heap.objs.size + 2 ->
      (∀ b o,s.heap.get? b = some o -> h'.get? b = some o) -> Q (.ref (s.heap.objs.size + 1)) { s with heap := h' }) :
    wpAny (MM w) A (call (.type "enumerate") [.ref l]) Q E s := by
  obtain ⟨o,ho,hc,n,hd⟩ := hl
  refine callType_new F.called_enumerate (by decide) (F.typeCall_enumerate_1 _) (F.newCall_enumerate_1 _) (fun obj => F.args_object_init_2 obj _) F.entry_enumerate_new
    (meets_enumerate_newT l items o hc n hd) ⟨ho, ?_⟩
  have hz : (s.heap.push { cls := .type "tuple_iterator",data := .fields #[.ref l, .int 0 0] }).objs.size = s.heap.objs.size + 1 := Heap.size_push ..
  show _ ∧ _
  rw [hz]
  have he : IsEnum ((s.heap.push { cls := .type "tuple_iterator",data := .fields #[.ref l, .int 0 0] }).push
      { cls := .type "enumerate",data := .fields #[.none, .bool false, .ref s.heap.objs.size,rawInt 0, .none, .none] }) (s.heap.objs.size + 1) s.heap.objs.size 0 .none := by
    have := Heap.get?_push_size (s.heap.push { cls := .type "tuple_iterator",data := .fields #[.ref l, .int 0 0] })
      (o := { cls := .type "enumerate",data := .fields #[.none, .bool false, .ref s.heap.objs.size,rawInt 0, .none, .none] }) rfl
    rw [hz] at this; exact this
  refine ⟨⟨_,he,rfl⟩,h _ he ⟨_,Heap.get?_push_of_some _ (Heap.get?_push_size _ rfl),rfl,rfl⟩ (by rw [Heap.size_push,hz]) fun b o x => Heap.get?_push_of_some _ (Heap.get?_push_of_some _ x)⟩
end
end
section
set_option autoImplicit false
section
variable {w : World} {N : Nat} {X : List Addr} {Tb Top : Heap -> Prop} {A : Around} {env : Env} {hb : Heap} {C : Heap -> Prop} {ns : List Str} {vals : List (Option PV)}
theorem TbOk.upd2 (T : TbOk N X Tb) {h h' : Heap} {a b : Addr} {oa ob oa' : Obj} (hNa : N <= a) (hNb : N <= b) (ha : h.get? a = some oa) (hb : h.get? b = some ob) (hne : a ≠ b) (ca : NotCode oa) (cb : NotCode ob) (ha' : h'.get? a = some oa') (hf : oa'.isFreed = false)
    (kp : ∀ c x,c ≠ a -> c ≠ b -> h.get? c = some x -> h'.get? c = some x) (hz : h.objs.size <= h'.objs.size) (t : Tb h) : Tb h' := by
  have hs : Heap.SameBut a h (h.update a fun _ => oa') := Heap.SameBut.update ..
  have g1 : (h.update a fun _ => oa').get? a = some oa' := Heap.get?_update_self _ ha hf
  have t1 : Tb (h.update a fun _ => oa') := T.upd _ _ a oa hNa ha ca (fun c x hc e => (hs.2 c hc).trans e) (by rw [hs.1]; exact Nat.le_refl _) t
  refine T.upd _ _ b ob hNb ((hs.2 b (Ne.symm hne)).trans hb) cb (fun c x hc e => ?_) (by rw [hs.1]; exact hz) t1
  by_cases hca : c = a
  . subst hca; rw [g1] at e; cases e; exact ha'
  . rw [hs.2 c hca] at e; exact kp c x hca hc e
theorem Cx.buts {h h' : Heap} {F : List Addr} (c : Cx N X hb env ns vals h) (hz : h.objs.size <= h'.objs.size) (hF : ∀ a ∈ F, ∃ o vs,h.get? a = some o ∧ o.data = .fields vs) (hbF : ∀ a ∈ F,hb.objs.size <= a) (hL : N <= env.locals)
    (kp : ∀ b x,b ∉ F -> h.get? b = some x -> h'.get? b = some x) : Cx N X hb env ns vals h' := by
  have f : Fx N F h h' := ⟨fun b o hb e _ => kp b o hb e,hz⟩
  have wo : WOk X F h := fun b hb => by
    obtain ⟨o,vs,ho,hd⟩ := hF b hb
    exact ⟨Heap.lt_size ho, .inr fun o' ho' xs n e => by rw [ho] at ho'; cases ho'; rw [hd] at e; cases e⟩
  have off : ∀ {b : Addr} {o : Obj},h.get? b = some o -> (∀ vs,o.data ≠ .fields vs) -> b ∉ F := fun hb hd m => by
    obtain ⟨o',vs,ho',hd'⟩ := hF _ m
    rw [hb] at ho'; cases ho'; exact hd _ hd'
  have hns : ∀ m,h.Ns env.locals m -> h'.Ns env.locals m := fun m ⟨x,es,ep,hx,hdx,r⟩ => ⟨x,es,ep,kp _ _ (off hx (fun vs e => by rw [hdx] at e; cases e)) hx,hdx,r⟩
  refine ⟨⟨fun b x e n => kp b x (fun m => Nat.lt_irrefl _ (Nat.lt_of_lt_of_le (Heap.lt_size e) (hbF b m))) (c.base.kp b x e n),Nat.le_trans c.base.sz hz⟩,let ⟨m,hm⟩ := c.nsx; ⟨m,hns m hm⟩,fun i y hy => ?_⟩
  obtain ⟨u,su,hu⟩ := c.slot i y hy
  refine ⟨u, ?_,fun p hp => ?_⟩
  . rcases su with ⟨k,m,hm,e⟩ | ⟨k,a,ha,hN,x,hx,hdx⟩
    . exact .inl ⟨k,m,hns m hm,e⟩
    . exact .inr ⟨k,a,ha,hN,x,kp _ _ (off hx (fun vs e => by rw [hdx] at e; cases e)) hx,hdx⟩
  . obtain ⟨v,e,iv⟩ := hu p hp
    refine ⟨v,e, ?_⟩
    rcases iv with iv | ⟨b,vs,xs,e1,e2,e3,e4,⟨n,e5⟩,e6⟩
    . exact .inl (iv.fx f wo)
    . exact .inr ⟨b,vs,xs,e1,e2,e3,e4,⟨n,kp _ _ (off e5 (fun vs e => by cases e)) e5⟩,e6.fx f wo⟩
structure EnumI (X : List Addr) (it l : Addr) (vs : List Value) (ps : List PV) (e : Addr) (i : Nat) (h : Heap) : Prop where
  en : ∃ old,IsEnum h e it ((i : Nat) : Int) old
  ti : IsTupIter h it l i
  lx : l ∉ X
  tp : IsTup h l vs.toArray
  ls : IsL X h vs ps
theorem LSRC.enum (T : TbOk N X Tb) (O : BlkOk N hb env) (hh : A.handled = none) {e : Expr} {x y : Str} {pf px py tp pos : Pos} {kk : Nat} {i j : Nat} {ps : List PV} (hx : Ix ns x i) (hy : Ix ns y j) (hn : NsOk ns)
    (hkx : env.kindOf x = some .local ∨ EnvOk N hb env ∧ env.kindOf x ≠ some .free) (hky : env.kindOf y = some .local ∨ EnvOk N hb env ∧ env.kindOf y ≠ some .free)
    (hke : env.kindOf (Str.ofString "enumerate") = some .globalImplicit) (G : BuiltIs Tb (Str.ofString "enumerate") (.type "enumerate")) (h : EV w N Tb A env (Cx N X hb env ns vals) e (IsP X (.tup ps))) (he : starEach [e] env = [(false,eval e env)]) :
    LSRC w N X Tb A env hb ns vals (.Call (.Name (Str.ofString "enumerate") pf) [e] [] pos) (.Tuple [.Name x px, .Name y py] kk tp) ps.length (fun k vals => (vals.set i (some (.int (k : Nat)))).set j (some (ps.getD k .none))) := by
  constructor
  intro s Q E c t k
  refine Call_ ((EV.built (N := N) (C := Cx N X hb env ns vals) O.kind O.glob O.bui hke G (by decide)).run s _ E c t fun v h₁ t₁ n₁ T₁ hv => ?_)
  subst hv
  refine PyProof.Rows.callWith_type1 ?_ he rfl
  refine args_cons (h.run _ _ E (Cx.stb O.hL _ _ c n₁) T₁ fun v h₂ t₂ n₂ T₂ i₂ => args_nil ?_) he
  obtain ⟨l,vs,rfl,hxl,hl,hLs⟩ := Is.tup_inv i₂
  have hll : l < h₂.objs.size := let ⟨_,hn, _⟩ := hl; Heap.lt_size hn
  refine call_enumerateT hl fun h₃ hen hti hz3 hk3 => ?_
  dsimp only at hen hti hz3 hk3 ⊢
  refine wpAny_pyIter_enum hen ?_
  obtain ⟨it,hit⟩ : ∃ it : Nat,it = h₂.objs.size := ⟨_,rfl⟩
  rw [<- hit] at hen hti hz3 ⊢
  have n₃ : Nx N h₂ h₃ := .of_keep hk3 (by lia)
  have hlit : l ≠ it := by rw [hit]; exact Nat.ne_of_lt hll
  have hle : l ≠ it + 1 := by rw [hit]; exact Nat.ne_of_lt (Nat.lt_succ_of_lt hll)
  have hs2 : s.heap.objs.size <= h₂.objs.size := (n₁.trans n₂).sz
  have hvl : vs.toArray.size = ps.length := by simp [hLs.length]
  refine k (it + 1) [it + 1,it] (EnumI X it l vs ps (it + 1)) h₃ t₂ ⟨?_, ?_, ?_⟩ ⟨⟨_,hen⟩,hti,hxl,n₃.isTuple hl,hLs.nx n₃⟩ ?_ ((n₁.trans n₂).trans n₃) (T.keep _ _ hk3 (by lia) T₂)
  . rintro i h h' W ⟨⟨old,he'⟩,⟨o,ho,hc,hd⟩,hx',hl',hL'⟩ f hF hNF wo
    refine ⟨⟨old,f.kp _ _ (hF _ (by simp)) he' (.inl (hNF _ (by simp)))⟩,⟨o,f.kp _ _ (hF _ (by simp)) ho (.inl (hNF _ (by simp))),hc,hd⟩,hx', ?_,hL'.fx f wo⟩
    obtain ⟨o2,ho2,hc2,n,hd2⟩ := hl'
    refine ⟨o2,f.kp _ _ (fun m => ?_) ho2 (.inr (by rw [hc2]; intro e; cases e)),hc2,n,hd2⟩
    rcases (wo _ m).2 with hq | hq
    . exact hx' hq
    . exact hq _ ho2 _ _ hd2
  . rintro k' s' Q' E' vals' hlt ⟨⟨old,he'⟩,hti',hx',hl',hL'⟩ c' t' hF k''
    obtain ⟨oi,hoi,hci,hdi⟩ := id hti'
    have D := Draws.tuple (w := w) (A := A.in1) (show A.in1.handled = none from hh) it l hlit vs.toArray
    have hein : it + 1 ∉ [it,l] := by simp; exact Ne.symm hle
    refine wpAny_pyNext_enum_itemD D he' ⟨hti',hl'⟩ (by rw [hvl]; exact hlt) (Nat.succ_ne_self it) hein fun x₀ h₄ tk₄ hP heo hst₄ hT₄ hz₄ hk₄ => ⟨_,rfl, ?_⟩
    have hp : ps[k']? = some (ps.getD k' .none) := by rw [List.getD_eq_getElem?_getD,List.getElem?_eq_getElem hlt]; rfl
    obtain ⟨v',hv',iv'⟩ := hL'.get' hp
    have hxv : x₀ = v' := by
      have e1 : vs[k']? = some x₀ := by simpa using hP
      rw [e1] at hv'; exact Option.some.inj hv'
    subst hxv
    have kp₄ : ∀ b o,b ∉ [it + 1,it] -> s'.heap.get? b = some o -> h₄.get? b = some o := fun b o hb e => by simp at hb; exact hk₄ b o hb.1 hb.2 e
    have hFo : ∀ a ∈ [it + 1,it], ∃ o vs,s'.heap.get? a = some o ∧ o.data = .fields vs := by
      intro a ha
      simp only [List.mem_cons,List.not_mem_nil,or_false] at ha
      rcases ha with rfl | rfl
      . exact ⟨_, _,he',rfl⟩
      . exact ⟨_, _,hoi,hdi⟩
    have c₄ := c'.buts (by lia) hFo (fun a ha => (hF a ha).2) O.hL kp₄
    have f₄ : Fx N [it + 1,it] s'.heap h₄ := ⟨fun b o hb e _ => kp₄ b o hb e,by lia⟩
    have wo₄ : WOk X [it + 1,it] s'.heap := fun b hb => by
      obtain ⟨o,vs,ho,hd⟩ := hFo b hb
      exact ⟨Heap.lt_size ho, .inr fun o' ho' xs n e => by rw [ho] at ho'; cases ho'; rw [hd] at e; cases e⟩
    have T₄ : Tb h₄ := T.upd2 (hF _ (by simp)).1 (hF _ (by simp)).1 he' hoi (Nat.succ_ne_self it) (.fields rfl (by intro x t e; cases e)) (.fields hdi (by intro x t e; cases e)) heo rfl (fun c x h1 h2 e => hk₄ c x h1 h2 e) (by lia) t'
    refine wpAny_letOwnedTupleGo_enum heo fun h₅ he₅ hs₅ => ?_
    have kp₅ : ∀ b o,b ≠ it + 1 -> h₄.get? b = some o -> h₅.get? b = some o := fun b o hb e => (hs₅.2 b hb).trans e
    have hz₅ : h₄.objs.size <= h₅.objs.size := by rw [hs₅.1]; exact Nat.le_refl _
    have c₅ := c₄.but hz₅ heo rfl (hF (it + 1) (by simp)).2 kp₅
    have T₅ : Tb h₅ := T.upd _ _ (it + 1) _ (hF _ (by simp)).1 heo (.fields rfl (by intro x t e; cases e)) kp₅ hz₅ T₄
    have hel : it + 1 < s'.heap.objs.size := Heap.lt_size he'
    have hT₅ : h₅.get? s'.heap.objs.size = some { cls := .type "tuple",data := .seq #[.int (k' : Nat) tk₄,x₀] } := kp₅ _ _ (Nat.ne_of_gt hel) hT₄
    have ix₅ : Is X h₅ x₀ (ps.getD k' .none) := (iv'.fx f₄ wo₄).but kp₅ (.inr fun o ho xs n e => by rw [heo] at ho; cases ho; cases e)
    refine Mine.assign2 T O hh hx hy hn.nodup hkx hky c₅ T₅ (p := .int (k' : Nat)) (q := ps.getD k' .none) (.tup (vs := [.int (k' : Nat) tk₄,x₀]) (T.fresh t') ⟨_,hT₅,rfl, _,rfl⟩ (.cons (.int _ _) (.cons ix₅ .nil))) fun h₆ t₆ f₆ T₆ c₆ => ?_
    have hoff : ∀ a ∈ [it + 1,it],a ∉ Wr env ns [] := by
      intro a ha
      simp only [List.mem_cons,List.not_mem_nil,or_false] at ha
      rcases ha with rfl | rfl
      . exact c₅.off he₅ (fun es n e => by cases e) (fun v e => by cases e)
      . obtain ⟨⟨o,ho,hc,hd⟩, _⟩ := hst₄
        exact c₅.off (kp₅ _ _ (Nat.ne_of_lt (Nat.lt_succ_self _)) ho) (fun es n e => by rw [hd] at e; cases e) (fun v e => by rw [hd] at e; cases e)
    have e1 : ((k' : Nat) : Int) + 1 = ((k' + 1 : Nat) : Int) := by lia
    rw [e1] at he₅
    have hti₅ : IsTupIter h₅ it l (k' + 1) := let ⟨o,ho,r⟩ := hst₄.1; ⟨o,kp₅ _ _ (Nat.ne_of_lt (Nat.lt_succ_self _)) ho,r⟩
    have hl₅ : IsTup h₅ l vs.toArray := let ⟨o,ho,r⟩ := hst₄.2; ⟨o,kp₅ _ _ hle ho,r⟩
    have hL₅ : IsL X h₅ vs ps := (hL'.fx f₄ wo₄).but kp₅ (.inr fun o ho xs n e => by rw [heo] at ho; cases ho; cases e)
    have wo₅ := c₅.wok0
    refine k'' h₆ t₆ ⟨⟨_,f₆.kp _ _ (hoff _ (by simp)) he₅ (.inl (hF _ (by simp)).1)⟩, ?_,hx', ?_,hL₅.fx f₆ wo₅⟩ c₆ T₆ ?_
    . obtain ⟨o,ho,r⟩ := hti₅
      exact ⟨o,f₆.kp _ _ (hoff _ (by simp)) ho (.inl (hF _ (by simp)).1),r⟩
    . obtain ⟨o2,ho2,hc2,n,hd2⟩ := hl₅
      refine ⟨o2,f₆.kp _ _ (fun m => ?_) ho2 (.inr (by rw [hc2]; intro e; cases e)),hc2,n,hd2⟩
      rcases (wo₅ _ m).2 with hq | hq
      . exact hx' hq
      . exact hq _ ho2 _ _ hd2
    . refine ⟨fun b o hb' e n => f₆.kp b o (fun m => hb' (List.mem_append.mpr (.inr m))) (kp₅ b o (fun e' => hb' (by simp [e'])) (kp₄ b o (fun m => hb' (List.mem_append.mpr (.inl m))) e)) n,Nat.le_trans (Nat.le_trans (by lia) hz₅) f₆.sz⟩
  . rintro s' Q' E' vals' ⟨⟨old,he'⟩,hti',hx',hl',hL'⟩ c' t' hF k''
    obtain ⟨oi,hoi,hci,hdi⟩ := id hti'
    have D := Draws.tuple (w := w) (A := A.in1) (show A.in1.handled = none from hh) it l hlit vs.toArray
    rw [<- hvl] at hti'
    refine wp_grows (wpAny_pyNext_enum_endD D he' ⟨hti',hl'⟩ fun h₄ hk₄ hz₄ => ⟨rfl, ?_⟩)
    have kp₄ : ∀ b o,b ≠ it -> s'.heap.get? b = some o -> h₄.get? b = some o := fun b o hb e => hk₄ b o hb e
    exact k'' h₄ s'.toks (c'.but hz₄ hoi hdi (hF it (by simp)).2 kp₄) (T.upd _ _ it _ (hF _ (by simp)).1 hoi (.fields hdi (by intro x t e; cases e)) kp₄ hz₄ t') ⟨fun b o hb' e n => kp₄ b o (fun e' => hb' (by simp [e'])) e,hz₄⟩
  . intro a ha
    simp only [List.mem_cons,List.not_mem_nil,or_false] at ha
    rcases ha with rfl | rfl
    . rw [hit]; show s.heap.objs.size <= h₂.objs.size + 1; lia
    . rw [hit]; exact hs2
end
end
section
set_option autoImplicit false
noncomputable def fmTab : List (List (Int × Nat)) := [[(40960,108),(49152,115),(32768,45),(24576,98),(16384,100),(8192,99),(4096,112)], [(256,114)], [(128,119)], [(2112,115),(2048,83),(64,120)], [(32,114)], [(16,119)], [(1032,115),(1024,83),(8,120)], [(4,114)], [(2,119)], [(513,116),(512,84),(1,120)]]
noncomputable def chP (c : Nat) : PV := .str ⟨#[c]⟩
noncomputable def pairP (p : Int × Nat) : PV := .tup [.int p.1,chP p.2]
noncomputable def rowP (t : List (Int × Nat)) : PV := .tup (t.map pairP)
noncomputable def tabP : PV := .tup (fmTab.map rowP)
noncomputable def hit (mode : Int) (k : Nat) (p : Int × Nat) : Bool := if k = 0 then Builtin.bitAnd mode 61440 == p.1 else Builtin.bitAnd mode p.1 == p.1
noncomputable def pickC (mode : Int) (k : Nat) (t : List (Int × Nat)) : Nat := ((t.find? (hit mode k)).map (·.2)).getD (if k = 0 then 63 else 45)
noncomputable def fileOf (mode : Int) : List Nat := fmTab.mapIdx fun k t => pickC mode k t
section
variable {w : World} {N : Nat} {X : List Addr} {Tb : Heap -> Prop} {Top : Heap -> Prop} {A : Around} {env : Env} {hb : Heap} {C : Heap -> Prop}
theorem SX.brk {W : List Addr} {pos : Pos} : SX w N Tb A env W C (.Break pos) (fun f h => f = .brk ∧ C h) :=
  ⟨fun s Q E c t k => wpAny_Break (k _ s.heap s.toks (.refl _) t ⟨rfl,c⟩)⟩
theorem SX.forP {ns : List Str} {vals : List (Option PV)} (T : TbOk N X Tb) (O : BlkOk N hb env) {iter tg : Expr} {pos : Pos} {body orelse : List Stmt} {n : Nat} {U : Nat -> List (Option PV) -> List (Option PV)} {V : Nat -> List (Option PV)} {VF : List (Option PV)} (P : Nat -> Prop) (hP : P 0) (hV : V 0 = vals)
    (src : LSRC w N X Tb A env hb ns vals iter tg n U)
    (hbody : ∀ j,j < n -> P j -> ST w N Tb A env (Wr env ns X) (Cx N X hb env ns (U j (V j))) body (fun f h => (f = .next ∧ P (j + 1) ∧ Cx N X hb env ns (V (j + 1)) h) ∨ (f = .brk ∧ Cx N X hb env ns VF h)))
    (helse : P n -> ST w N Tb A env (Wr env ns X) (Cx N X hb env ns (V n)) orelse (Nxt (Cx N X hb env ns VF)))
    (hs : ∀ x,foldedSetIterable iter env x = pure x) :
    SX w N Tb A env (Wr env ns X) (Cx N X hb env ns vals) (.For tg iter body orelse pos) (Nxt (Cx N X hb env ns VF)) := by
  constructor
  intro s Q E c t k
  refine wpAny_For (src.run s _ E c t fun I F St h₁ t₁ L st hF n₁ T₁ => ?_) hs
  have c₁ := Cx.stb O.hL _ _ c n₁
  have hFN : ∀ a ∈ F,N <= a ∧ hb.objs.size <= a := fun a ha => ⟨Nat.le_trans (T.size _ t) (hF a ha),Nat.le_trans c.base.sz (hF a ha)⟩
  have hFW : ∀ a ∈ F,a ∉ Wr env ns X := fun a ha m => Nat.lt_irrefl _ (Nat.lt_of_lt_of_le (Cx.wok T c t a m).1 (hF a ha))
  have hoff : ∀ {g g' : Heap} {W : List Addr},(∀ a ∈ W,a ∈ F ∨ a ∈ Wr env ns X) -> Fx N (Wr env ns X) s.heap g -> Fx N W g g' -> Fx N (Wr env ns X) s.heap g' := fun hW f q =>
    ⟨fun b o hb' e n => q.kp b o (fun m => (hW b m).elim (fun h => Nat.lt_irrefl _ (Nat.lt_of_lt_of_le (Heap.lt_size e) (hF b h))) hb') (f.kp b o hb' e n) n,Nat.le_trans f.sz q.sz⟩
  refine codeAny_forLoop_any (I := LoopI N X hb env ns V (fun j h => P j ∧ St j h) Tb s n) ?_ (n + 1)
    ⟨0,h₁,t₁,rfl,rfl,Nat.zero_le _,⟨hP,st⟩,hV ▸ c₁,T₁,n₁.fx⟩
  rintro m s' ⟨j,h',tk,rfl,rfl,hj,⟨pj,stj⟩,cj,tj,fj⟩
  by_cases hlt : j < n
  . refine wpAny_mono (L.turn j _ (fun s₃ => wpAny (MM w) A (execs body env) _ _ s₃) _ _ hlt stj cj tj hFN fun h₂ t₂ st₂ c₂ T₂ f₂ => ?_) (fun r s₁ h' => by obtain ⟨v,e,h⟩ := h'; subst e; exact h) fun _ _ e => e
    have f₂' := hoff (fun a ha => (List.mem_append.mp ha).imp id (Wr.mono a)) fj f₂
    refine (hbody j hlt pj).run _ _ _ c₂ T₂ fun f h₄ t₄ f₄ T₄ r => ?_
    have f₄' := f₂'.trans f₄
    rcases r with ⟨rfl,p₄,c₄⟩ | ⟨rfl,c₄⟩
    . exact ⟨n + 1 - (j + 1),by lia,j + 1,h₄,t₄,rfl,rfl,hlt,⟨p₄,L.fx _ _ _ _ st₂ f₄ hFW (fun a ha => (hFN a ha).1) (Cx.wok T c₂ T₂)⟩,c₄,T₄,f₄'⟩
    . exact k .next h₄ t₄ f₄' T₄ ⟨rfl,c₄⟩
  . have hje : j = n := by lia
    subst hje
    refine wpAny_mono (L.done _ (fun s₃ => wpAny (MM w) A (execs orelse env) _ _ s₃) _ _ stj cj tj hFN fun h₂ t₂ c₂ T₂ f₂ => ?_) (fun r s₁ h' => by obtain ⟨e,h⟩ := h'; subst e; exact h) fun _ _ e => e
    refine (helse pj).run _ _ _ c₂ T₂ fun f h₄ t₄ f₄ T₄ r => ?_
    exact k f h₄ t₄ ((hoff (fun a ha => .inl ha) fj f₂).trans f₄) T₄ r
theorem IsL.strs {h : Heap} : ∀ {vs : List Value} {cs : List Nat},IsL X h vs (cs.map chP) -> StrsAre vs (cs.map fun c => (⟨#[c]⟩ : Str))
  | _, [], .nil => .nil
  | v :: vs,c :: cs,x => by
    have x' : IsL X h (v :: vs) (chP c :: cs.map chP) := x
    cases x' with
    | cons a b =>
      obtain ⟨t,rfl⟩ := Is.str_inv (show Is X h v (.str ⟨#[c]⟩) from a)
      exact .cons _ t b.strs
theorem glued_nil (cs : List Nat) : Txt.join (Str.ofString "") (cs.map fun c => (⟨#[c]⟩ : Str)) = ⟨cs.toArray⟩ := by
  have e0 : (Str.ofString "").cps = #[] := by rfl
  have key : ∀ (cs acc : List Nat),(cs.map fun c => (⟨#[c]⟩ : Str)).foldl (fun acc p => acc ++ (Str.ofString "").cps ++ p.cps) acc.toArray = (acc ++ cs).toArray := by
    intro cs
    induction cs with
    | nil => intro acc; simp
    | cons c cs ih =>
      intro acc
      rw [List.map_cons,List.foldl_cons,e0]
      have e : acc.toArray ++ #[] ++ (⟨#[c]⟩ : Str).cps = (acc ++ [c]).toArray := by simp
      rw [e, <- e0,ih]
      simp
  unfold Txt.join Builtin.Str.glued
  cases cs with
  | nil => rfl
  | cons c cs =>
    have := key cs [c]
    simp only [List.map_cons,List.drop_succ_cons,List.drop_zero,List.headD_cons]
    exact congrArg Str.mk this
theorem ones_sum : ∀ cs : List Nat,((cs.map fun c => (⟨#[c]⟩ : Str)).map (·.length)).sum = cs.length
  | [] => rfl
  | c :: cs => by rw [List.map_cons,List.map_cons,List.sum_cons,ones_sum cs,List.length_cons]; show 1 + cs.length = _; lia
theorem EV.join {o e : Expr} {ap pos : Pos} {cs : List Nat} (hC : Stb N C) (ho : EV w N Tb A env C o (IsP X (.str (Str.ofString "")))) (h : EV w N Tb A env C e (IsP X (.list (cs.map chP)))) (hz : cs.length <= 1000)
    (hbase : attributeBase o (Str.ofString "join") env (eval o env) = eval o env) (hline : (ap.endLine == pos.line) = true) (he : starEach [e] env = [(false,eval e env)]) :
    EV w N Tb A env C (.Call (.Attribute o (Str.ofString "join") ap) [e] [] pos) (IsP X (.str ⟨cs.toArray⟩)) := by
  constructor
  intro s Q E hc hT k
  refine Call_method1 hbase he hline (ho.run s _ E hc hT fun v h₁ t₁ n₁ T₁ i₁ => ?_)
  obtain ⟨t,rfl⟩ := Is.str_inv i₁
  refine ⟨"str", "str.join",F.plainAttrs_str,PySem.F.slot_str_join,PySem.F.type_str_join,typeIs_str _ _ _,(fun _ e => nomatch e), ?_⟩
  show wpAny _ _ (callWith pos _ _ (backTo pos [(false,eval e env)]) []) _ _ _
  rw [<- he]
  refine callWith_method1 (env := env) (rest := []) ?_ he rfl
  refine args_cons (h.run _ _ E (hC _ _ hc n₁) T₁ fun u h₂ t₂ n₂ T₂ i₂ => args_nil ?_) he
  obtain ⟨a,us,rfl,hxa,hl,hL⟩ := Is.list_inv i₂
  refine join_listW hl.isList (by simpa using hL.strs) (by decide) (by rw [ones_sum,List.length_map]; lia) fun t' k' => ?_
  rw [glued_nil]
  exact k _ _ _ (n₁.trans n₂) T₂ (.str _ _)
noncomputable abbrev fileN : List Str := [Str.ofString "mode",Str.ofString "perm",Str.ofString "index",Str.ofString "table",Str.ofString "bit",Str.ofString "char"]
theorem file_fn (g : GX N Top) {tb : Addr} (GT : GlobIs Top (Str.ofString "_filemode_table") (.ref tb)) (HT : ∀ Y h,(∀ y ∈ Y,N <= y) -> Top h -> Is Y h (.ref tb) tabP) (bEn : BuiltIs Top (Str.ofString "enumerate") (.type "enumerate")) (hX : ∀ x ∈ X,N <= x) (mode : Int) :
    FN w N X (TbX Top X) g.fFile 2 [.int mode] (.str ⟨(fileOf mode).toArray⟩) := by
  refine FN.def (d := 1) (prm := [Str.ofString "mode"]) (loc := [Str.ofString "perm",Str.ofString "index",Str.ofString "table",Str.ofString "bit",Str.ofString "char"]) g.T g.dFile rfl (fun pm cd doc vs h => by obtain ⟨a,rfl⟩ := of1 h; with_unfolding_all rfl) (by decide) (by decide) fun A env hb hA O hs => ?_
  have T := TbX.ok g.T X
  have hn : NsOk fileN := ⟨by decide,by decide,by decide⟩
  have hkk := O.kind
  have hL := O.hL
  have hint : interactive env = false := by unfold interactive; rw [O.kind]; rfl
  show ST w N (TbX Top X) A env (Wr env fileN X) (Cx N X hb env fileN [some (.int mode),none,none,none,none,none]) (_ :: _ :: _ :: []) _
  refine ST.own (ns := fileN) (vals := [some (.int mode),none,none,none,none,none]) (i := 1) (xs := []) g.T O (FL.list T EVs.nil (by decide)) ?d1 hn ?d2 ?d3 ?d4
  case d1 => walk_at "m"
  case d2 => rw [Env.kindOf,hs]; decide
  case d3 => exact swaps_no rfl
  case d4 =>
  intro pa hNp hpX hbp
  have TY := TbX.ok g.T (pa :: X)
  have hY : ∀ y ∈ pa :: X,N <= y := fun y hy => (List.mem_cons.mp hy).elim (fun e => e ▸ hNp) (hX y)
  have hfl : (fileOf mode).length = 10 := rfl
  show ST w N (TbX Top (pa :: X)) A env (Wr env fileN (pa :: X)) (Cx N (pa :: X) hb env fileN [some (.int mode),some (.own pa (((fileOf mode).take 0).map chP)),none,none,none,none]) (_ :: _ :: []) _
  refine ST.seq (C' := Cx N (pa :: X) hb env fileN [some (.int mode),some (.own pa (((fileOf mode).take 10).map chP)),none,none,none,none]) (SX.forL (n := (fmTab.map rowP).length) (V := fun j => [some (.int mode),some (.own pa (((fileOf mode).take j).map chP)),none,none,none,none]) (U := fun k vals => (vals.set 2 (some (.int (k : Nat)))).set 3 (some ((fmTab.map rowP).getD k .none))) TY O.toBlkOk rfl (LSRC.enum TY O.toBlkOk hA.hd ?e1 ?e2 hn (.inl ?e3) (.inl ?e4) ?e5 (bEn.x _) ?e6 rfl) ?e7 ?e8 ?e9) ?_
  case e1 => walk_at "m"
  case e2 => walk_at "m"
  case e3 => rw [Env.kindOf,hs]; decide
  case e4 => rw [Env.kindOf,hs]; decide
  case e5 => rw [Env.kindOf,hs]; decide
  case e9 => intro _; rfl
  case e8 => exact ST.nilN
  case e6 =>
    refine GV.imp (EV.glob O.kind O.glob ?f1 (GT.x _) (by decide)) (fun _ _ c => c) fun h v t e => ?_
    case f1 => rw [Env.kindOf,hs]; decide
    rw [e]; exact HT _ h hY t.1
  case e7 =>
    intro k hk
    have hk : k < fmTab.length := by simpa using hk
    have hrow : (fmTab.map rowP).getD k .none = rowP (fmTab.getD k []) := by rw [List.getD_eq_getElem?_getD,List.getElem?_map,List.getD_eq_getElem?_getD,List.getElem?_eq_getElem hk]; rfl
    have hfk : (fileOf mode).take (k + 1) = (fileOf mode).take k ++ [pickC mode k (fmTab.getD k [])] := by
      have e : (fileOf mode)[k]? = some (pickC mode k (fmTab.getD k [])) := by
        unfold fileOf
        rw [List.getElem?_mapIdx,List.getD_eq_getElem?_getD,List.getElem?_eq_getElem hk]; rfl
      rw [List.take_add_one,e]; rfl
    have hkz : (((k : Nat) : Int) == 0) = decide (k = 0) := by cases k <;> rfl
    have hlen10 : ((fileOf mode).take k).length <= 10 := by rw [List.length_take,hfl]; lia
    show ST w N (TbX Top (pa :: X)) A env (Wr env fileN (pa :: X)) (Cx N (pa :: X) hb env fileN [some (.int mode),some (.own pa (((fileOf mode).take k).map chP)),some (.int (k : Nat)),some ((fmTab.map rowP).getD k .none),none,none]) (_ :: []) _
    rw [hrow]
    generalize ht : fmTab.getD k [] = tt at *
    refine ST.weak (R := Nxt (Cx N (pa :: X) hb env fileN [some (.int mode),some (.own pa (((fileOf mode).take (k + 1)).map chP)),some (.int (k : Nat)),some (rowP tt),none,none])) ?_ (fun f g h => .inl ⟨h.1,h.2.less fun i p hp => ?_⟩)
    rotate_left
    . match i,hp with
      | 0,hp => exact hp
      | 1,hp => exact hp
      | 2,hp => cases hp
      | 3,hp => cases hp
      | 4,hp => cases hp
      | 5,hp => cases hp
      | i + 6,hp => cases hp
    rw [hfk]
    refine ST.last (SX.forP (n := (tt.map pairP).length) (U := fun i vals => (vals.set 4 (some (.int (tt.getD i (0,0)).1))).set 5 (some (chP (tt.getD i (0,0)).2))) (V := fun _ => [some (.int mode),some (.own pa (((fileOf mode).take k).map chP)),some (.int (k : Nat)),some (rowP tt),none,none]) TY O.toBlkOk (fun i => ∀ j,j < i -> hit mode k (tt.getD j (0,0)) = false) (fun j h => absurd h (Nat.not_lt_zero j)) rfl (LSRC.pairs TY O.toBlkOk hA.hd (ps := tt.map pairP) (P := fun i => .int (tt.getD i (0,0)).1) (R := fun i => chP (tt.getD i (0,0)).2) ?g1 ?g2 ?g3 hn (.inl ?g4) (.inl ?g5) (SRC.tuple TY hA.hd ?g6)) ?g7 ?g8 ?g9)
    case g1 =>
      intro i p hp
      rw [List.getElem?_map] at hp
      rw [List.getD_eq_getElem?_getD]
      cases hq : tt[i]? with
      | none => rw [hq] at hp; cases hp
      | some z => rw [hq] at hp; cases hp; rfl
    case g2 => walk_at "m"
    case g3 => walk_at "m"
    case g4 => rw [Env.kindOf,hs]; decide
    case g5 => rw [Env.kindOf,hs]; decide
    case g6 => exact EV.name hkk hn (i := 3) (by walk_at "m") rfl
    case g9 => intro _; rfl
    case g7 =>
      intro i hi hPi
      have hi : i < tt.length := by simpa using hi
      show ST w N (TbX Top (pa :: X)) A env (Wr env fileN (pa :: X)) (Cx N (pa :: X) hb env fileN [some (.int mode),some (.own pa (((fileOf mode).take k).map chP)),some (.int (k : Nat)),some (rowP tt),some (.int (tt.getD i (0,0)).1),some (chP (tt.getD i (0,0)).2)]) (_ :: []) _
      generalize hbc : tt.getD i (0,0) = bc at *
      obtain ⟨b,ch⟩ := bc
      have hti : tt[i]? = some (b,ch) := by rw [List.getD_eq_getElem?_getD,List.getElem?_eq_getElem hi] at hbc; rw [List.getElem?_eq_getElem hi]; exact congrArg some hbc
      have found : hit mode k (b,ch) = true -> pickC mode k tt = ch := by
        intro hh
        have : tt.find? (hit mode k) = some (b,ch) := by
          rw [List.find?_eq_some_iff_getElem]
          refine ⟨hh,i,hi, ?_,fun j hj => ?_⟩
          . rw [List.getElem?_eq_getElem hi] at hti; exact Option.some.inj hti
          . have := hPi j hj
            rw [List.getD_eq_getElem?_getD,List.getElem?_eq_getElem (by lia)] at this
            simpa using this
        unfold pickC; rw [this]; rfl
      have goOn : hit mode k (b,ch) = false -> ∀ j,j < i + 1 -> hit mode k (tt.getD j (0,0)) = false := by
        intro hh j hj
        rcases Nat.lt_or_ge j i with h | h
        . exact hPi j h
        . have : j = i := by lia
          subst this; rw [hbc]; exact hh
      have yes : hit mode k (b,ch) = true -> ∀ (p1 p2 p3 p4 p5 p6 : Pos),(p2.endLine == p3.line) = true -> ST w N (TbX Top (pa :: X)) A env (Wr env fileN (pa :: X)) (Cx N (pa :: X) hb env fileN [some (.int mode),some (.own pa (((fileOf mode).take k).map chP)),some (.int (k : Nat)),some (rowP tt),some (.int b),some (chP ch)]) [.Expr (.Call (.Attribute (.Name (Str.ofString "perm") p1) (Str.ofString "append") p2) [.Name (Str.ofString "char") p5] [] p3) p4, .Break p6]
          (fun f h => (f = .next ∧ (∀ j,j < i + 1 -> hit mode k (tt.getD j (0,0)) = false) ∧ Cx N (pa :: X) hb env fileN [some (.int mode),some (.own pa (((fileOf mode).take k).map chP)),some (.int (k : Nat)),some (rowP tt),none,none] h) ∨ (f = .brk ∧ Cx N (pa :: X) hb env fileN [some (.int mode),some (.own pa (((fileOf mode).take k ++ [pickC mode k tt]).map chP)),some (.int (k : Nat)),some (rowP tt),none,none] h)) := by
        intro hh p1 p2 p3 p4 p5 p6 hl
        rw [found hh]
        refine ST.seq (C' := Cx N (pa :: X) hb env fileN [some (.int mode),some (.own pa (((fileOf mode).take k ++ [ch]).map chP)),some (.int (k : Nat)),some (rowP tt),some (.int b),some (chP ch)]) ?_ (ST.weak (ST.last SX.brk) fun f g h => .inr ⟨h.1,h.2.less fun i p hp => ?_⟩)
        . rw [List.map_append]
          refine SX.append (ns := fileN) (vals := [some (.int mode),some (.own pa (((fileOf mode).take k).map chP)),some (.int (k : Nat)),some (rowP tt),some (.int b),some (chP ch)]) (i := 1) TY O.toBlkOk hn ?h1 rfl (OthersOk.of rfl) hbp ?h2 ?h3 hint rfl rfl hl rfl
          case h1 => walk_at "m"
          case h2 => exact EV.name hkk hn (i := 5) (by walk_at "m") rfl
          case h3 => rw [List.length_map]; simp only [sizeLine]; lia
        . match i,hp with
          | 0,hp => exact hp
          | 1,hp => exact hp
          | 2,hp => exact hp
          | 3,hp => exact hp
          | 4,hp => cases hp
          | 5,hp => cases hp
          | i + 6,hp => cases hp
      have no : hit mode k (b,ch) = false -> ST w N (TbX Top (pa :: X)) A env (Wr env fileN (pa :: X)) (Cx N (pa :: X) hb env fileN [some (.int mode),some (.own pa (((fileOf mode).take k).map chP)),some (.int (k : Nat)),some (rowP tt),some (.int b),some (chP ch)]) []
          (fun f h => (f = .next ∧ (∀ j,j < i + 1 -> hit mode k (tt.getD j (0,0)) = false) ∧ Cx N (pa :: X) hb env fileN [some (.int mode),some (.own pa (((fileOf mode).take k).map chP)),some (.int (k : Nat)),some (rowP tt),none,none] h) ∨ (f = .brk ∧ Cx N (pa :: X) hb env fileN [some (.int mode),some (.own pa (((fileOf mode).take k ++ [pickC mode k tt]).map chP)),some (.int (k : Nat)),some (rowP tt),none,none] h)) := by
        intro hh
        refine ST.nil fun g c _ => .inl ⟨rfl,goOn hh,c.less fun i p hp => ?_⟩
        match i,hp with
        | 0,hp => exact hp
        | 1,hp => exact hp
        | 2,hp => exact hp
        | 3,hp => exact hp
        | 4,hp => cases hp
        | 5,hp => cases hp
        | i + 6,hp => cases hp
      clear hfk hrow hPi found goOn
      refine ST.last (SX.iff (c := (((k : Nat) : Int) == 0)) ?i1 ?i2 (fun h0 => ?i3) (fun h0 => ?i4))
      case i1 => walk_at "m"
      case i2 => walk_at "m"
      case i3 =>
        have hk0 : k = 0 := by rw [hkz] at h0; exact of_decide_eq_true h0
        have hh : hit mode k (b,ch) = (Builtin.bitAnd mode 61440 == b) := by unfold hit; rw [if_pos hk0]
        refine ST.last (SX.iff (c := (Builtin.bitAnd mode 61440 == b)) ?j1 ?j2 (fun h1 => yes (hh.trans h1) _ _ _ _ _ _ rfl) (fun h1 => no (hh.trans h1)))
        case j1 => walk_at "m"
        case j2 =>
          refine BV.cmp (X := pa :: X) ?k1 (EV.callD ?k2 O.kind O.glob ?k3 g.dFmt (EVs.cons ?k4 ?k5 EVs.nil rfl) (fmt_fn g mode) (hA.less (by decide))) ?k6 CP.eq rfl
          case k1 => walk_at "m"
          case k2 => walk_at "m"
          case k3 => rw [Env.kindOf,hs]; decide
          case k4 => walk_at "m"
          case k5 => walk_at "m"
          case k6 => walk_at "m"
      case i4 =>
        have hk0 : ¬ k = 0 := by rw [hkz] at h0; exact of_decide_eq_false h0
        have hh : hit mode k (b,ch) = (Builtin.bitAnd mode b == b) := by unfold hit; rw [if_neg hk0]
        refine ST.last (SX.iff (c := (Builtin.bitAnd mode b == b)) ?l1 ?l2 (fun h1 => yes (hh.trans h1) _ _ _ _ _ _ rfl) (fun h1 => no (hh.trans h1)))
        case l1 => walk_at "m"
        case l2 => walk_at "m"
    case g8 =>
      intro hPn
      have hnone : tt.find? (hit mode k) = none := by
        rw [List.find?_eq_none]
        intro x hx
        obtain ⟨j,hj⟩ := List.mem_iff_getElem?.mp hx
        obtain ⟨hjl, _⟩ := List.getElem?_eq_some_iff.mp hj
        have := hPn j (by simpa using hjl)
        rw [List.getD_eq_getElem?_getD,hj] at this
        simpa using this
      have hpick : pickC mode k tt = if k = 0 then 63 else 45 := by unfold pickC; rw [hnone]; rfl
      rw [hpick,List.map_append]
      refine ST.last (SX.iff (c := (((k : Nat) : Int) == 0)) ?m1 ?m2 (fun h0 => ?m3) (fun h0 => ?m4))
      case m1 => walk_at "m"
      case m2 => walk_at "m"
      case m3 =>
        have hk0 : k = 0 := by rw [hkz] at h0; exact of_decide_eq_true h0
        rw [if_pos hk0]
        refine ST.last (SX.append (ns := fileN) (vals := [some (.int mode),some (.own pa (((fileOf mode).take k).map chP)),some (.int (k : Nat)),some (rowP tt),none,none]) (i := 1) (p := chP 63) TY O.toBlkOk hn ?n1 rfl (OthersOk.of rfl) hbp EV.cstr ?n3 hint rfl rfl rfl rfl)
        case n1 => walk_at "m"
        case n3 => rw [List.length_map]; simp only [sizeLine]; lia
      case m4 =>
        have hk0 : ¬ k = 0 := by rw [hkz] at h0; exact of_decide_eq_false h0
        rw [if_neg hk0]
        refine ST.last (SX.append (ns := fileN) (vals := [some (.int mode),some (.own pa (((fileOf mode).take k).map chP)),some (.int (k : Nat)),some (rowP tt),none,none]) (i := 1) (p := chP 45) TY O.toBlkOk hn ?o1 rfl (OthersOk.of rfl) hbp EV.cstr ?o3 hint rfl rfl rfl rfl)
        case o1 => walk_at "m"
        case o3 => rw [List.length_map]; simp only [sizeLine]; lia
  have ht10 : (fileOf mode).take 10 = fileOf mode := List.take_of_length_le (by rw [hfl]; exact Nat.le_refl _)
  rw [ht10]
  refine ST.unown (i := 1) (a := pa) (xs := (fileOf mode).map chP) (x := Str.ofString "perm") rfl hpX (OthersOk.of rfl) ?_
  show ST w N (TbX Top X) A env (Wr env fileN X) (Cx N X hb env fileN [some (.int mode),some (.list ((fileOf mode).map chP)),none,none,none,none]) (_ :: []) _
  refine ST.last (SX.ret (fun h c => c.base) (EV.join ?p1 EV.cstr ?p2 (by rw [hfl]; decide) rfl rfl rfl))
  case p1 => walk_at "m"
  case p2 => exact EV.name hkk hn (i := 1) (by walk_at "m") rfl
end
end
section
set_option autoImplicit false
section
variable {w : World} {N : Nat} {X : List Addr} {Tb : Heap -> Prop} {Top : Heap -> Prop} {A : Around} {env : Env} {hb : Heap} {C : Heap -> Prop}
theorem call_iter {a : Addr} {items : Array Value} {s : Shared} {Q E : Value -> Shared -> Prop} (hl : s.heap.IsList a items) (h : Q (.ref s.heap.objs.size) { s with heap := s.heap.push { cls := .type "list_iterator",data := .fields #[.ref a, .int 0 0] } }) :
    wpAny (MM w) A (call (.builtin "iter") [.ref a]) Q E s := by
  refine call_function_entry (by decide +kernel) (by decide +kernel) kdk_entry_iter (kdk_args_iter _) ?_
  unfold Builtin.«iter»
  refine wpAny_bind (m := someArgs "iter" 1 2 _) (wpAny_of_eq (a := [Value.ref a]) (by first | rfl | kernel_rfl) ?_)
  show wpAny _ _ (pyIter (.ref a) >>= _) _ _ _
  refine wpAny_bind (wpAny_pyIter_list hl ?_)
  exact wpAny_pure ⟨_,rfl,h⟩
theorem ST.iterFor {ns : List Str} {vals : List (Option PV)} (T : TbOk N X Tb) (O : BlkOk N hb env) (hh : A.handled = none) {itn x : Str} {pf pi pi2 px pc pos pos2 : Pos} {e : Expr} {st : Stmt} {body rest : List Stmt} {R : Flow -> Heap -> Prop} {ps : List PV} {i j : Nat} {V : Addr -> Nat -> List (Option PV)}
    (hk : env.kindOf (Str.ofString "iter") = some .globalImplicit) (G : BuiltIs Tb (Str.ofString "iter") (.builtin "iter")) (h : EV w N Tb A env (Cx N X hb env ns vals) e (IsP X (.list ps))) (he : starEach [e] env = [(false,eval e env)])
    (hi : Ix ns itn i) (hx : Ix ns x j) (hn : NsOk ns) (hki : env.kindOf itn = some .local) (hkx : env.kindOf x = some .local)
    (hst : ∀ I,SX w N Tb A env (Wr env ns X) (Cx N X hb env ns (vals.set i (some (.raw (.ref I))))) st (Nxt (Cx N X hb env ns (V I 0))))
    (hV : ∀ I,(V I 0)[i]? = some (some (.raw (.ref I))))
    (hbody : ∀ I k p,ps[k]? = some p -> ST w N Tb A env (Wr env ns X) (Cx N X hb env ns ((V I k).set j (some p))) body (Nxt (Cx N X hb env ns (V I (k + 1)))))
    (hrest : ∀ I,ST w N Tb A env (Wr env ns X) (Cx N X hb env ns (V I ps.length)) rest R)
    (hsw : swapsWith (.Call (.Name (Str.ofString "iter") pf) [e] [] pc) (some (.Name itn pi)) pos.line env = pure false) (hs : ∀ x,foldedSetIterable (.Name itn pi2) env x = pure x) :
    ST w N Tb A env (Wr env ns X) (Cx N X hb env ns vals) (.Assign [.Name itn pi] (.Call (.Name (Str.ofString "iter") pf) [e] [] pc) pos :: st :: .For (.Name x px) (.Name itn pi2) body [] pos2 :: rest) R := by
  constructor
  intro s Q E c t k
  refine wpAny_execs_cons (wpAny_Assign_Name ?_ hsw)
  refine Call_ ((EV.built (N := N) (C := Cx N X hb env ns vals) O.kind O.glob O.bui hk G (by decide)).run s _ E c t fun v h₁ t₁ n₁ T₁ hv => ?_)
  subst hv
  refine PyProof.Rows.callWith_builtin1 ?_ he rfl
  refine args_cons (h.run _ _ E (Cx.stb O.hL _ _ c n₁) T₁ fun v h₂ t₂ n₂ T₂ i₂ => args_nil ?_) he
  obtain ⟨a,vs,rfl,hxa,hl,hL⟩ := Is.list_inv i₂
  have hlt : a < h₂.objs.size := let ⟨_,hn⟩ := hl; Heap.lt_size hn
  refine call_iter hl.isList ?_
  dsimp only
  have n₃ : Nx N s.heap (h₂.push { cls := .type "list_iterator",data := .fields #[.ref a, .int 0 0] }) := (n₁.trans n₂).trans (.push _ _)
  have c₃ := Cx.stb O.hL _ _ c n₃
  have T₃ : Tb (h₂.push { cls := .type "list_iterator",data := .fields #[.ref a, .int 0 0] }) := T.push T₂ _
  have W := Wk.list (w := w) (N := N) (X := X) (A := A) (I := h₂.objs.size) (ax := a) (vs := vs) (ps := ps) hh (Nat.ne_of_lt hlt)
  have st₃ : (h₂.push { cls := .type "list_iterator",data := .fields #[.ref a, .int 0 0] }).IsListIter h₂.objs.size a 0 ∧ a ∉ X ∧ (h₂.push { cls := .type "list_iterator",data := .fields #[.ref a, .int 0 0] }).PlainList a vs.toArray ∧ IsL X (h₂.push { cls := .type "list_iterator",data := .fields #[.ref a, .int 0 0] }) vs ps :=
    ⟨⟨_,Heap.get?_push_size _ rfl,rfl,rfl⟩,hxa,(Nx.push (N := N) _ _).isList hl,hL.nx (.push (N := N) _ _)⟩
  obtain ⟨I,hI⟩ : ∃ I : Nat,I = h₂.objs.size := ⟨_,rfl⟩
  rw [<- hI] at W st₃ ⊢
  have hsI : s.heap.objs.size <= I := by rw [hI]; exact (n₁.trans n₂).sz
  have hNI : N <= I := Nat.le_trans (T.size _ t) hsI
  have hbI : hb.objs.size <= I := Nat.le_trans c.base.sz hsI
  have hIW : I ∉ Wr env ns X := fun m => Nat.lt_irrefl _ (Nat.lt_of_lt_of_le (Cx.wok T c t I m).1 hsI)
  generalize hH : h₂.push { cls := .type "list_iterator",data := .fields #[.ref a, .int 0 0] } = h₃ at n₃ c₃ T₃ st₃ ⊢
  refine store' T O hi hn.nodup (.inl hki) c₃ T₃ (.raw (.ref I)) fun h₄ t₄ f₄ T₄ c₄ => ?_
  have st₄ := W.fx _ _ _ _ st₃ (f₄.sub Wr.mono) hIW hNI (Cx.wok T c₃ T₃)
  refine wpAny_execs_cons ((hst I).run _ _ E c₄ T₄ fun f h₅ t₅ f₅ T₅ r => ?_)
  obtain ⟨rfl,c₅⟩ := r
  have st₅ := W.fx _ _ _ _ st₄ f₅ hIW hNI (Cx.wok T c₄ T₄)
  have f₀₅ : Fx N (Wr env ns X) s.heap h₅ := n₃.fx.trans ((f₄.sub Wr.mono).trans f₅)
  refine wpAny_execs_cons (wpAny_For ((EV.name (X := X) (p := .raw (.ref I)) O.kind hn hi (hV I) rfl).run _ _ E c₅ T₅ fun v h₆ t₆ n₆ T₆ hv => ?_) hs)
  obtain rfl := Is.raw_inv hv
  have c₆ := Cx.stb O.hL _ _ c₅ n₆
  have st₆ := W.fx _ _ _ [] st₅ n₆.fx (by simp) hNI (by intro b hb; simp at hb)
  refine W.self 0 _ _ _ st₆ ?_
  refine codeAny_forLoop_any (I := LoopI N X hb env ns (V I) (fun j h' => h'.IsListIter I a j ∧ a ∉ X ∧ h'.PlainList a vs.toArray ∧ IsL X h' vs ps) Tb s ps.length) ?_ (ps.length + 1)
    ⟨0,h₆,t₆,rfl,rfl,Nat.zero_le _,st₆,c₆,T₆,f₀₅.trans n₆.fx⟩
  rintro n s' ⟨m,h',tk,rfl,rfl,hj,stj,cj,tj,fj⟩
  obtain ⟨o,vs',ho,hd,hoc⟩ := W.obj _ _ stj
  by_cases hlt' : m < ps.length
  . have hp : ps[m]? = some ps[m] := List.getElem?_eq_getElem hlt'
    refine wp_grows (W.item m _ _ _ _ hp stj fun v h₂ t₂ iv st₂ kp hz => ?_)
    have c₂ := cj.but hz ho hd hbI kp
    have T₂ : Tb h₂ := T.upd _ _ I o hNI ho (.fields hd hoc) kp hz tj
    have hoff : ∀ {g g' : Heap},Fx N (Wr env ns X) s.heap g -> g.objs.size <= g'.objs.size -> (∀ b o,b ≠ I -> g.get? b = some o -> g'.get? b = some o) -> Fx N (Wr env ns X) s.heap g' := fun f z q =>
      ⟨fun b o hb' e n => q b o (Nat.ne_of_lt (Nat.lt_of_lt_of_le (Heap.lt_size e) hsI)) (f.kp b o hb' e n),Nat.le_trans f.sz z⟩
    have f₂ := hoff fj hz kp
    show wpAny (MM w) A (pure ()) _ _ _
    refine wpAny_pure (wpAny_assign_Name (store' T O hx hn.nodup (.inl hkx) c₂ T₂ iv fun h₃ t₃ f₃ T₃ c₃ => ?_))
    refine (hbody I m _ hp).run _ _ _ c₃ T₃ fun f h₄ t₄ f₄ T₄ r => ?_
    obtain ⟨rfl,c₄⟩ := r
    have f₃₄ := (f₃.sub Wr.mono).trans f₄
    exact ⟨ps.length + 1 - (m + 1),by lia,m + 1,h₄,t₄,rfl,rfl,hlt',W.fx _ _ _ _ st₂ f₃₄ hIW hNI (Cx.wok T c₂ T₂),c₄,T₄,f₂.trans f₃₄⟩
  . have hje : m = ps.length := by lia
    subst hje
    refine wp_grows (W.done _ _ _ stj fun h₂ t₂ kp hz => ?_)
    refine wpAny_execs_nil ?_
    have f₂ : Fx N (Wr env ns X) s.heap h₂ := ⟨fun b o hb' e n => kp b o (Nat.ne_of_lt (Nat.lt_of_lt_of_le (Heap.lt_size e) hsI)) (fj.kp b o hb' e n),Nat.le_trans fj.sz hz⟩
    exact (hrest I).run _ _ E (cj.but hz ho hd hbI kp) (T.upd _ _ I o hNI ho (.fields hd hoc) kp hz tj) fun f h₃ t₃ f₃ T₃ r => k f h₃ t₃ (f₂.trans f₃) T₃ r
theorem CP.isRef {v : Int} {a : Addr} : CP w N X Tb A .Is (.int v) (.raw (.ref a)) false := .mk fun v u s Q E i j k => by
  obtain ⟨t,rfl⟩ := i.int_inv
  obtain rfl := j.raw_inv
  exact wpAny_is_other rfl (by intro e; cases e) (k s.toks)
noncomputable def fdRed (pm cd doc : Value) (td : Addr) : FuncData := { docDef (Str.ofString "reduce") (paramsOf (stmtAt 11)) (bodyOf (stmtAt 11)) (scopeOf (stmtAt 11)) pm cd doc with defaults := .ref td }
noncomputable abbrev redN : List Str := [Str.ofString "function",Str.ofString "sequence",Str.ofString "initial",Str.ofString "it",Str.ofString "value",Str.ofString "element"]
theorem reduce_fn (T : TbOk N X Tb) {f fl im td : Addr} {pm cd doc : Value} {fdl : FuncData} {Pre : Heap -> Prop} (hPre : Stb N Pre) (D : DefAt Tb f (fdRed pm cd doc td)) (hcd : ∀ h,Tb h -> h.CodeRec cd (Str.ofString "reduce")) (hdef : ∀ h,Tb h -> IsTup h td #[.ref im]) (GI : GlobIs Tb (Str.ofString "_initial_missing") (.ref im)) (bIter : BuiltIs Tb (Str.ofString "iter") (.builtin "iter"))
    (DL : DefAt Tb fl fdl) {step : Int -> Int -> Int} {d : Nat} (xs : List Int) (v0 : Int) (FL : ∀ n x,FNP w N X Tb fl d Pre [.int n, .int x] (.int (step n x))) : FNP w N X Tb f (d + 1) Pre [.raw (.ref fl), .list (xs.map PV.int), .int v0] (.int (xs.foldl step v0)) := by
  intro A hA vs
  constructor
  intro s Q E ⟨iv,pre⟩ t k
  refine callCloB (prm := [Str.ofString "function",Str.ofString "sequence",Str.ofString "initial"]) (loc := [Str.ofString "it",Str.ofString "value",Str.ofString "element"]) (fr := []) (fv := []) T D hcd rfl rfl rfl rfl rfl ?b1 (by decide) (show ∀ x ∈ (scopeOf (stmtAt 11)).names,x.2 ≠ .cell by decide) (show ∀ x ∈ [Str.ofString "function",Str.ofString "sequence",Str.ofString "initial"] ++ [Str.ofString "it",Str.ofString "value",Str.ofString "element"],(scopeOf (stmtAt 11)).names.lookup x = some .local by decide) (by intro x hx; cases hx) hA iv t (by intro i x p hx; cases hx) ?b2
  case b1 =>
    intro A' s' Q' E' t' h'
    obtain ⟨a,b,c,rfl⟩ := of3 iv.length
    obtain ⟨o,ho,hc,n,hd⟩ := hdef _ t'
    show wpAny (MM w) A' (seqItems? (.ref td) >>= _) Q' E' s'
    refine wpAny_bind (wpAny_seqItems ho hd ?_)
    exact wpAny_pure h'
  case b2 =>
  intro A env h₁ hA O hs hcode hcells n₁ t₁ hcx tk₁ Q' E' kQ'
  have hs : env.scope = scopeOf (stmtAt 11) := hs
  have c₁ := hcx s.heap rfl n₁
  generalize s.heap = hb at *
  have hn : NsOk redN := ⟨by decide,by decide,by decide⟩
  have hkk := O.kind
  have hL := O.hL
  have key : ST w N Tb A env (Wr env redN X) (Cx N X hb env redN [some (.raw (.ref fl)),some (.list (xs.map PV.int)),some (.int v0),none,none,none]) (bodyOf (stmtAt 11)) (Ret N X hb (.int (xs.foldl step v0))) := by
    show ST w N Tb A env (Wr env redN X) (Cx N X hb env redN [some (.raw (.ref fl)),some (.list (xs.map PV.int)),some (.int v0),none,none,none]) (_ :: _ :: _ :: _ :: []) _
    refine ST.iterFor (ns := redN) (vals := [some (.raw (.ref fl)),some (.list (xs.map PV.int)),some (.int v0),none,none,none]) (i := 3) (j := 5) (ps := xs.map PV.int) (V := fun I k => [some (.raw (.ref fl)),some (.list (xs.map PV.int)),some (.int v0),some (.raw (.ref I)),some (.int ((xs.take k).foldl step v0)),(if k = 0 then none else some (.int (xs.getD (k - 1) 0)))]) T O hA.hd ?a1 bIter ?a2 rfl ?a3 ?a4 hn ?a5 ?a6 ?a7 (fun _ => rfl) ?a8 ?a9 rfl (fun _ => rfl)
    case a1 => rw [Env.kindOf,hs]; decide
    case a2 => walk_at "m"
    case a3 => walk_at "m"
    case a4 => walk_at "m"
    case a5 => rw [Env.kindOf,hs]; decide
    case a6 => rw [Env.kindOf,hs]; decide
    case a7 =>
      intro I
      refine SX.iff (C := Cx N X hb env redN [some (.raw (.ref fl)),some (.list (xs.map PV.int)),some (.int v0),some (.raw (.ref I)),none,none]) (c := false) ?c1 ?c2 (fun e => by cases e) (fun _ => ?c3)
      case c1 => walk_at "m"
      case c2 =>
        refine BV.cmp (X := X) (p := .int v0) (q := .raw (.ref im)) ?d1 ?d2 (GV.imp (EV.glob O.kind O.glob ?d3 GI (by decide)) (fun _ _ c => c) fun h v _ e => by rw [e]; exact .raw _) CP.isRef rfl
        case d1 => walk_at "m"
        case d2 => walk_at "m"
        case d3 => rw [Env.kindOf,hs]; decide
      case c3 =>
        refine ST.last (SX.assignL (ns := redN) (vals := [some (.raw (.ref fl)),some (.list (xs.map PV.int)),some (.int v0),some (.raw (.ref I)),none,none]) (i := 4) (p := .int v0) T O ?e1 ?e2 hn ?e3 (swaps_no rfl))
        case e1 => walk_at "m"
        case e2 => walk_at "m"
        case e3 => rw [Env.kindOf,hs]; decide
    case a8 =>
      intro I m p hp
      rw [List.getElem?_map] at hp
      cases hq : xs[m]? with
      | none => rw [hq] at hp; cases hp
      | some z =>
        rw [hq] at hp; cases hp
        have hm : m < xs.length := (List.getElem?_eq_some_iff.mp hq).1
        have e1 : (xs.take (m + 1)).foldl step v0 = step ((xs.take m).foldl step v0) z := by rw [List.take_add_one,hq,List.foldl_append]; rfl
        have e2 : xs.getD (m + 1 - 1) 0 = z := by rw [Nat.add_sub_cancel,List.getD_eq_getElem?_getD,hq]; rfl
        have e3 : (if m + 1 = 0 then none else some (PV.int z)) = some (PV.int z) := if_neg (Nat.succ_ne_zero m)
        rw [e1,e2,e3]
        show ST w N Tb A env (Wr env redN X) (Cx N X hb env redN [some (.raw (.ref fl)),some (.list (xs.map PV.int)),some (.int v0),some (.raw (.ref I)),some (.int ((xs.take m).foldl step v0)),some (.int z)]) (_ :: []) _
        refine ST.last (SX.assignL (ns := redN) (vals := [some (.raw (.ref fl)),some (.list (xs.map PV.int)),some (.int v0),some (.raw (.ref I)),some (.int ((xs.take m).foldl step v0)),some (.int z)]) (i := 4) (p := .int (step ((xs.take m).foldl step v0) z)) T O ?f1 ?f2 hn ?f3 (swaps_no rfl))
        case f1 =>
          refine EV.callP ?g1 ?g2 DL (EVs.cons ?g3 ?g4 (EVs.cons ?g5 ?g6 EVs.nil rfl) rfl) (FL _ _) (fun h c => hPre _ _ pre c.base) hA rfl fun s Q E h => Call_ h
          case g1 => walk_at "m"
          case g2 => walk_at "m"
          case g3 => walk_at "m"
          case g4 => walk_at "m"
          case g5 => walk_at "m"
          case g6 => walk_at "m"
        case f2 => walk_at "m"
        case f3 => rw [Env.kindOf,hs]; decide
    case a9 =>
      intro I
      have e : (xs.take (xs.map PV.int).length).foldl step v0 = xs.foldl step v0 := by rw [List.length_map,List.take_length]
      rw [e]
      exact ST.last (SX.ret (fun h c => c.base) (EV.name hkk hn (i := 4) (by walk_at "m") rfl))
  refine key.run _ _ _ c₁ t₁ fun fl h' tk fx t' ⟨v,e,hi,hx⟩ => kQ' fl h' tk ?_
  rw [e]
  exact k v h' tk hx t' hi
end
end
section
set_option autoImplicit false
theorem toldF12 (n b0 b1 b2 b3 b4 b5 b6 b7 b8 b9 b10 b11 : Int) : toldF n [b0,b1,b2,b3,b4,b5,b6,b7,b8,b9,b10,b11] = n * 4096 + b0 * 2048 + b1 * 1024 + b2 * 512 + b3 * 256 + b4 * 128 + b5 * 64 + b6 * 32 + b7 * 16 + b8 * 8 + b9 * 4 + b10 * 2 + b11 := by
  simp only [toldF,List.foldl_cons,List.foldl_nil]; lia
theorem half (y : Int) {k m : Int} (hk : 0 <= k) (hm : k * 2 = m) : y / k = 2 * (y / m) + y / k % 2 := by
  rw [<- hm, <- Int.ediv_ediv_of_nonneg hk]
  exact (Int.mul_ediv_add_emod (y / k) 2).symm
theorem bits_of (y : Int) : y.fmod 4096 = toldF 0 [(y.fdiv 2048).fmod 2,(y.fdiv 1024).fmod 2,(y.fdiv 512).fmod 2,(y.fdiv 256).fmod 2,(y.fdiv 128).fmod 2,(y.fdiv 64).fmod 2,(y.fdiv 32).fmod 2,(y.fdiv 16).fmod 2,(y.fdiv 8).fmod 2,(y.fdiv 4).fmod 2,(y.fdiv 2).fmod 2,(y.fdiv 1).fmod 2] := by
  rw [toldF12]
  simp only [Int.fmod_eq_emod_of_nonneg _ (show (0 : Int) <= 4096 by decide),Int.fmod_eq_emod_of_nonneg _ (show (0 : Int) <= 2 by decide),Int.fdiv_eq_ediv_of_nonneg _ (show (0 : Int) <= 2048 by decide),Int.fdiv_eq_ediv_of_nonneg _ (show (0 : Int) <= 1024 by decide),Int.fdiv_eq_ediv_of_nonneg _ (show (0 : Int) <= 512 by decide),Int.fdiv_eq_ediv_of_nonneg _ (show (0 : Int) <= 256 by decide),Int.fdiv_eq_ediv_of_nonneg _ (show (0 : Int) <= 128 by decide),Int.fdiv_eq_ediv_of_nonneg _ (show (0 : Int) <= 64 by decide),Int.fdiv_eq_ediv_of_nonneg _ (show (0 : Int) <= 32 by decide),Int.fdiv_eq_ediv_of_nonneg _ (show (0 : Int) <= 16 by decide),Int.fdiv_eq_ediv_of_nonneg _ (show (0 : Int) <= 8 by decide),Int.fdiv_eq_ediv_of_nonneg _ (show (0 : Int) <= 4 by decide),Int.fdiv_eq_ediv_of_nonneg _ (show (0 : Int) <= 2 by decide),Int.fdiv_eq_ediv_of_nonneg _ (show (0 : Int) <= 1 by decide)]
  rw [Int.ediv_one]
  have e0 : y = 2 * (y / 2) + y % 2 := by lia
  have l0 := Int.emod_nonneg (y) (show (2 : Int) ≠ 0 by decide)
  have u0 := Int.emod_lt_of_pos (y) (show (0 : Int) < 2 by decide)
  have e1 : y / 2 = 2 * (y / 4) + y / 2 % 2 := half y (k := 2) (by decide) (by decide)
  have l1 := Int.emod_nonneg (y / 2) (show (2 : Int) ≠ 0 by decide)
  have u1 := Int.emod_lt_of_pos (y / 2) (show (0 : Int) < 2 by decide)
  have e2 : y / 4 = 2 * (y / 8) + y / 4 % 2 := half y (k := 4) (by decide) (by decide)
  have l2 := Int.emod_nonneg (y / 4) (show (2 : Int) ≠ 0 by decide)
  have u2 := Int.emod_lt_of_pos (y / 4) (show (0 : Int) < 2 by decide)
  have e3 : y / 8 = 2 * (y / 16) + y / 8 % 2 := half y (k := 8) (by decide) (by decide)
  have l3 := Int.emod_nonneg (y / 8) (show (2 : Int) ≠ 0 by decide)
  have u3 := Int.emod_lt_of_pos (y / 8) (show (0 : Int) < 2 by decide)
  have e4 : y / 16 = 2 * (y / 32) + y / 16 % 2 := half y (k := 16) (by decide) (by decide)
  have l4 := Int.emod_nonneg (y / 16) (show (2 : Int) ≠ 0 by decide)
  have u4 := Int.emod_lt_of_pos (y / 16) (show (0 : Int) < 2 by decide)
  have e5 : y / 32 = 2 * (y / 64) + y / 32 % 2 := half y (k := 32) (by decide) (by decide)
  have l5 := Int.emod_nonneg (y / 32) (show (2 : Int) ≠ 0 by decide)
  have u5 := Int.emod_lt_of_pos (y / 32) (show (0 : Int) < 2 by decide)
  have e6 : y / 64 = 2 * (y / 128) + y / 64 % 2 := half y (k := 64) (by decide) (by decide)
  have l6 := Int.emod_nonneg (y / 64) (show (2 : Int) ≠ 0 by decide)
  have u6 := Int.emod_lt_of_pos (y / 64) (show (0 : Int) < 2 by decide)
  have e7 : y / 128 = 2 * (y / 256) + y / 128 % 2 := half y (k := 128) (by decide) (by decide)
  have l7 := Int.emod_nonneg (y / 128) (show (2 : Int) ≠ 0 by decide)
  have u7 := Int.emod_lt_of_pos (y / 128) (show (0 : Int) < 2 by decide)
  have e8 : y / 256 = 2 * (y / 512) + y / 256 % 2 := half y (k := 256) (by decide) (by decide)
  have l8 := Int.emod_nonneg (y / 256) (show (2 : Int) ≠ 0 by decide)
  have u8 := Int.emod_lt_of_pos (y / 256) (show (0 : Int) < 2 by decide)
  have e9 : y / 512 = 2 * (y / 1024) + y / 512 % 2 := half y (k := 512) (by decide) (by decide)
  have l9 := Int.emod_nonneg (y / 512) (show (2 : Int) ≠ 0 by decide)
  have u9 := Int.emod_lt_of_pos (y / 512) (show (0 : Int) < 2 by decide)
  have e10 : y / 1024 = 2 * (y / 2048) + y / 1024 % 2 := half y (k := 1024) (by decide) (by decide)
  have l10 := Int.emod_nonneg (y / 1024) (show (2 : Int) ≠ 0 by decide)
  have u10 := Int.emod_lt_of_pos (y / 1024) (show (0 : Int) < 2 by decide)
  have e11 : y / 2048 = 2 * (y / 4096) + y / 2048 % 2 := half y (k := 2048) (by decide) (by decide)
  have l11 := Int.emod_nonneg (y / 2048) (show (2 : Int) ≠ 0 by decide)
  have u11 := Int.emod_lt_of_pos (y / 2048) (show (0 : Int) < 2 by decide)
  have z : y % 4096 + 4096 * (y / 4096) = y := by lia
  have z0 := Int.emod_nonneg y (show (4096 : Int) ≠ 0 by decide)
  have z1 := Int.emod_lt_of_pos y (show (0 : Int) < 4096 by decide)
  generalize y % 4096 = R at *
  generalize y % 2 = r0 at *
  generalize y / 2 % 2 = r1 at *
  generalize y / 4 % 2 = r2 at *
  generalize y / 8 % 2 = r3 at *
  generalize y / 16 % 2 = r4 at *
  generalize y / 32 % 2 = r5 at *
  generalize y / 64 % 2 = r6 at *
  generalize y / 128 % 2 = r7 at *
  generalize y / 256 % 2 = r8 at *
  generalize y / 512 % 2 = r9 at *
  generalize y / 1024 % 2 = r10 at *
  generalize y / 2048 % 2 = r11 at *
  generalize y / 2 = q1 at *
  generalize y / 4 = q2 at *
  generalize y / 8 = q3 at *
  generalize y / 16 = q4 at *
  generalize y / 32 = q5 at *
  generalize y / 64 = q6 at *
  generalize y / 128 = q7 at *
  generalize y / 256 = q8 at *
  generalize y / 512 = q9 at *
  generalize y / 1024 = q10 at *
  generalize y / 2048 = q11 at *
  generalize y / 4096 = q12 at *
  lia
theorem mask_bits (x : Int) : (x.fdiv 4).fmod 4096 = toldF 0 [bitOf x 0,bitOf x 1,bitOf x 2,bitOf x 3,bitOf x 4,bitOf x 5,bitOf x 6,bitOf x 7,bitOf x 8,bitOf x 9,bitOf x 10,bitOf x 11] := by
  rw [bits_of]; rfl
theorem bt.and {b c : Int} (h : bt b) (h' : bt c) : Builtin.bitAnd b c = if c = 1 then b else 0 := by rcases h with rfl | rfl <;> rcases h' with rfl | rfl <;> decide
theorem dA_zero {x b : Int} {i : Nat} (hc : x.fmod 4 = 0) (h : bt b) : dA x b i = b + bitOf x i - Builtin.bitAnd b (bitOf x i) := by
  have hb := bitOf_bt x i
  rw [h.and hb]
  unfold dA
  rw [hc]
  rcases hb with e | e <;> rw [e] <;> simp
  rcases h with rfl | rfl <;> decide
theorem dA_one {x b : Int} {i : Nat} (hc : x.fmod 4 = 1) (h : bt b) : dA x b i = b - Builtin.bitAnd b (bitOf x i) := by
  have hb := bitOf_bt x i
  rw [h.and hb]
  unfold dA
  rw [hc]
  rcases hb with e | e <;> rw [e] <;> simp
theorem kn_pos (k : Nat) : 2 <= kn k ∧ kn k <= 10 := by unfold kn; constructor <;> (repeat' split) <;> decide
theorem told_and (n b0 b1 b2 b3 b4 b5 b6 b7 b8 b9 b10 b11 : Int) (hn : 0 <= n) (h0 : bt b0) (h1 : bt b1) (h2 : bt b2) (h3 : bt b3) (h4 : bt b4) (h5 : bt b5) (h6 : bt b6) (h7 : bt b7) (h8 : bt b8) (h9 : bt b9) (h10 : bt b10) (h11 : bt b11) (c0 c1 c2 c3 c4 c5 c6 c7 c8 c9 c10 c11 : Int) (g0 : bt c0) (g1 : bt c1) (g2 : bt c2) (g3 : bt c3) (g4 : bt c4) (g5 : bt c5) (g6 : bt c6) (g7 : bt c7) (g8 : bt c8) (g9 : bt c9) (g10 : bt c10) (g11 : bt c11) :
    Builtin.bitAnd (toldF n [b0,b1,b2,b3,b4,b5,b6,b7,b8,b9,b10,b11]) (toldF 0 [c0,c1,c2,c3,c4,c5,c6,c7,c8,c9,c10,c11]) = toldF 0 [Builtin.bitAnd b0 c0,Builtin.bitAnd b1 c1,Builtin.bitAnd b2 c2,Builtin.bitAnd b3 c3,Builtin.bitAnd b4 c4,Builtin.bitAnd b5 c5,Builtin.bitAnd b6 c6,Builtin.bitAnd b7 c7,Builtin.bitAnd b8 c8,Builtin.bitAnd b9 c9,Builtin.bitAnd b10 c10,Builtin.bitAnd b11 c11] := by
  rw [toldF_and [b0,b1,b2,b3,b4,b5,b6,b7,b8,b9,b10,b11] [c0,c1,c2,c3,c4,c5,c6,c7,c8,c9,c10,c11] n 0 (by simp only [List.mem_cons,List.not_mem_nil,or_false]; rintro b (rfl | rfl | rfl | rfl | rfl | rfl | rfl | rfl | rfl | rfl | rfl | rfl) <;> assumption) (by simp only [List.mem_cons,List.not_mem_nil,or_false]; rintro b (rfl | rfl | rfl | rfl | rfl | rfl | rfl | rfl | rfl | rfl | rfl | rfl) <;> assumption) rfl hn (by decide),bitAnd_zero]
  rfl
end
section
set_option autoImplicit false
theorem told_doneA {k : Nat} {x : Int} (hc : x.fmod 4 < 2) {b0 b1 b2 b3 b4 b5 b6 b7 b8 b9 b10 b11 : Int} (h0 : bt b0) (h1 : bt b1) (h2 : bt b2) (h3 : bt b3) (h4 : bt b4) (h5 : bt b5) (h6 : bt b6) (h7 : bt b7) (h8 : bt b8) (h9 : bt b9) (h10 : bt b10) (h11 : bt b11) : told k (dA x b0 0) (dA x b1 1) (dA x b2 2) (dA x b3 3) (dA x b4 4) (dA x b5 5) (dA x b6 6) (dA x b7 7) (dA x b8 8) (dA x b9 9) (dA x b10 10) (dA x b11 11) = doneOf (fun m => m) (told k b0 b1 b2 b3 b4 b5 b6 b7 b8 b9 b10 b11) x := by
  have hk := kn_pos k
  have hnn := Int.fmod_nonneg_of_pos x (show (0:Int) < 4 by decide)
  unfold doneOf
  rw [if_pos hc]
  dsimp only
  have ha := told_and (kn k) b0 b1 b2 b3 b4 b5 b6 b7 b8 b9 b10 b11 (by lia) h0 h1 h2 h3 h4 h5 h6 h7 h8 h9 h10 h11 (bitOf x 0) (bitOf x 1) (bitOf x 2) (bitOf x 3) (bitOf x 4) (bitOf x 5) (bitOf x 6) (bitOf x 7) (bitOf x 8) (bitOf x 9) (bitOf x 10) (bitOf x 11) (bitOf_bt x 0) (bitOf_bt x 1) (bitOf_bt x 2) (bitOf_bt x 3) (bitOf_bt x 4) (bitOf_bt x 5) (bitOf_bt x 6) (bitOf_bt x 7) (bitOf_bt x 8) (bitOf_bt x 9) (bitOf_bt x 10) (bitOf_bt x 11)
  by_cases h : x.fmod 4 = 0
  . rw [if_pos h,bitOr_and,mask_bits]
    unfold told
    rw [ha,dA_zero h h0,dA_zero h h1,dA_zero h h2,dA_zero h h3,dA_zero h h4,dA_zero h h5,dA_zero h h6,dA_zero h h7,dA_zero h h8,dA_zero h h9,dA_zero h h10,dA_zero h h11,toldF12,toldF12,toldF12,toldF12]
    generalize kn k = n
    generalize Builtin.bitAnd b0 (bitOf x 0) = e0
    generalize bitOf x 0 = m0
    generalize Builtin.bitAnd b1 (bitOf x 1) = e1
    generalize bitOf x 1 = m1
    generalize Builtin.bitAnd b2 (bitOf x 2) = e2
    generalize bitOf x 2 = m2
    generalize Builtin.bitAnd b3 (bitOf x 3) = e3
    generalize bitOf x 3 = m3
    generalize Builtin.bitAnd b4 (bitOf x 4) = e4
    generalize bitOf x 4 = m4
    generalize Builtin.bitAnd b5 (bitOf x 5) = e5
    generalize bitOf x 5 = m5
    generalize Builtin.bitAnd b6 (bitOf x 6) = e6
    generalize bitOf x 6 = m6
    generalize Builtin.bitAnd b7 (bitOf x 7) = e7
    generalize bitOf x 7 = m7
    generalize Builtin.bitAnd b8 (bitOf x 8) = e8
    generalize bitOf x 8 = m8
    generalize Builtin.bitAnd b9 (bitOf x 9) = e9
    generalize bitOf x 9 = m9
    generalize Builtin.bitAnd b10 (bitOf x 10) = e10
    generalize bitOf x 10 = m10
    generalize Builtin.bitAnd b11 (bitOf x 11) = e11
    generalize bitOf x 11 = m11
    lia
  . have h' : x.fmod 4 = 1 := by lia
    rw [if_neg h,mask_bits]
    unfold told
    rw [ha,dA_one h' h0,dA_one h' h1,dA_one h' h2,dA_one h' h3,dA_one h' h4,dA_one h' h5,dA_one h' h6,dA_one h' h7,dA_one h' h8,dA_one h' h9,dA_one h' h10,dA_one h' h11,toldF12,toldF12,toldF12]
    generalize kn k = n
    generalize Builtin.bitAnd b0 (bitOf x 0) = e0
    generalize Builtin.bitAnd b1 (bitOf x 1) = e1
    generalize Builtin.bitAnd b2 (bitOf x 2) = e2
    generalize Builtin.bitAnd b3 (bitOf x 3) = e3
    generalize Builtin.bitAnd b4 (bitOf x 4) = e4
    generalize Builtin.bitAnd b5 (bitOf x 5) = e5
    generalize Builtin.bitAnd b6 (bitOf x 6) = e6
    generalize Builtin.bitAnd b7 (bitOf x 7) = e7
    generalize Builtin.bitAnd b8 (bitOf x 8) = e8
    generalize Builtin.bitAnd b9 (bitOf x 9) = e9
    generalize Builtin.bitAnd b10 (bitOf x 10) = e10
    generalize Builtin.bitAnd b11 (bitOf x 11) = e11
    lia
theorem sX_two {x r y : Int} (hc : x.fmod 4 = 2) (h : bt r) (h' : bt y) : sX x r y = y + r - Builtin.bitAnd y r := by
  unfold sX; rw [hc]; rcases h with rfl | rfl <;> rcases h' with rfl | rfl <;> decide
theorem sW_two {x r y : Int} (hc : x.fmod 4 = 2) : sW x r y = y := by unfold sW; rw [hc]; rfl
theorem sX_three {x r y : Int} (hc : x.fmod 4 = 3) : sX x r y = y := by unfold sX; rw [hc]; rfl
theorem sW_three {x r y : Int} (hc : x.fmod 4 = 3) (h : bt r) (h' : bt y) : sW x r y = Builtin.bitAnd y r := by
  unfold sW; rw [hc]; rcases h with rfl | rfl <;> rcases h' with rfl | rfl <;> decide
theorem bt.zero : bt 0 := .inl rfl
theorem bt.one : bt 1 := .inr rfl
theorem and_one {b : Int} (h : bt b) : Builtin.bitAnd b 1 = b := by rcases h with rfl | rfl <;> decide
theorem and_zero' (b : Int) : Builtin.bitAnd b 0 = 0 := bitAnd_zero b
theorem told_doneB {k : Nat} {x : Int} (hc : ¬ x.fmod 4 < 2) {b0 b1 b2 b3 b4 b5 b6 b7 b8 b9 b10 b11 : Int} (h0 : bt b0) (h1 : bt b1) (h2 : bt b2) (h3 : bt b3) (h4 : bt b4) (h5 : bt b5) (h6 : bt b6) (h7 : bt b7) (h8 : bt b8) (h9 : bt b9) (h10 : bt b10) (h11 : bt b11) : told k b0 b1 b2 b3 (sW x b3 b4) (sX x b3 b5) b6 (sW x b6 b7) (sX x b6 b8) b9 (sW x b9 b10) (sX x b9 b11) = doneOf (fun m => m) (told k b0 b1 b2 b3 b4 b5 b6 b7 b8 b9 b10 b11) x := by
  have hk := kn_pos k
  have hlt := Int.fmod_lt_of_pos x (show (0:Int) < 4 by decide)
  unfold doneOf told
  rw [if_neg hc]
  dsimp only
  have z := bt.zero
  have u := bt.one
  have e292 : (292 : Int) = toldF 0 [0,0,0,1,0,0,1,0,0,1,0,0] := by decide
  have e146 : (146 : Int) = toldF 0 [0,0,0,0,1,0,0,1,0,0,1,0] := by decide
  have a292 := told_and (kn k) b0 b1 b2 b3 b4 b5 b6 b7 b8 b9 b10 b11 (by lia) h0 h1 h2 h3 h4 h5 h6 h7 h8 h9 h10 h11 0 0 0 1 0 0 1 0 0 1 0 0 z z z u z z u z z u z z
  have a146 := told_and (kn k) b0 b1 b2 b3 b4 b5 b6 b7 b8 b9 b10 b11 (by lia) h0 h1 h2 h3 h4 h5 h6 h7 h8 h9 h10 h11 0 0 0 0 1 0 0 1 0 0 1 0 z z z z u z z u z z u z
  rw [and_zero',and_zero',and_zero',and_one h3,and_zero',and_zero',and_one h6,and_zero',and_zero',and_one h9,and_zero',and_zero'] at a292
  rw [and_zero',and_zero',and_zero',and_zero',and_one h4,and_zero',and_zero',and_one h7,and_zero',and_zero',and_one h10,and_zero'] at a146
  have q4 : (toldF 0 [0,0,0,b3,0,0,b6,0,0,b9,0,0]).fdiv 4 = toldF 0 [0,0,0,0,0,b3,0,0,b6,0,0,b9] := by
    rw [Int.fdiv_eq_ediv_of_nonneg _ (by decide),toldF12,toldF12]; lia
  have q2 : (toldF 0 [0,0,0,b3,0,0,b6,0,0,b9,0,0]).fdiv 2 = toldF 0 [0,0,0,0,b3,0,0,b6,0,0,b9,0] := by
    rw [Int.fdiv_eq_ediv_of_nonneg _ (by decide),toldF12,toldF12]; lia
  by_cases h : x.fmod 4 = 2
  . rw [if_pos h,bitOr_and,e292,a292,q4,told_and (kn k) b0 b1 b2 b3 b4 b5 b6 b7 b8 b9 b10 b11 (by lia) h0 h1 h2 h3 h4 h5 h6 h7 h8 h9 h10 h11 0 0 0 0 0 b3 0 0 b6 0 0 b9 z z z z z h3 z z h6 z z h9]
    simp only [and_zero']
    rw [sX_two h h3 h5,sX_two h h6 h8,sX_two h h9 h11,sW_two h,sW_two h,sW_two h,toldF12,toldF12,toldF12,toldF12]
    generalize kn k = n
    generalize Builtin.bitAnd b5 b3 = e1
    generalize Builtin.bitAnd b8 b6 = e2
    generalize Builtin.bitAnd b11 b9 = e3
    lia
  . have h' : x.fmod 4 = 3 := by lia
    rw [if_neg h,e292,a292,e146,a146,q2,told_and 0 0 0 0 0 b4 0 0 b7 0 0 b10 0 (by decide) z z z z h4 z z h7 z z h10 z 0 0 0 0 b3 0 0 b6 0 0 b9 0 z z z z h3 z z h6 z z h9 z]
    simp only [and_zero']
    rw [sX_three h',sX_three h',sX_three h',sW_three h' h3 h4,sW_three h' h6 h7,sW_three h' h9 h10,toldF12,toldF12,toldF12,toldF12]
    generalize kn k = n
    generalize Builtin.bitAnd b4 b3 = e1
    generalize Builtin.bitAnd b7 b6 = e2
    generalize Builtin.bitAnd b10 b9 = e3
    lia
end
section
set_option autoImplicit false
theorem toldF_split : ∀ (n : Int) (bs : List Int),toldF n bs = n * 2 ^ bs.length + toldF 0 bs
  | n, [] => by simp [toldF]
  | n,b :: bs => by
    show toldF (n * 2 + b) bs = n * 2 ^ (bs.length + 1) + toldF (0 * 2 + b) bs
    rw [toldF_split (n * 2 + b),toldF_split (0 * 2 + b),Int.pow_succ]
    grind
theorem toldF_low : ∀ bs : List Int,(∀ b ∈ bs,bt b) -> 0 <= toldF 0 bs ∧ toldF 0 bs < 2 ^ bs.length
  | [], _ => by simp [toldF]
  | b :: bs,h => by
    obtain ⟨h1,h2⟩ := toldF_low bs fun b hb => h b (List.mem_cons_of_mem _ hb)
    show 0 <= toldF (0 * 2 + b) bs ∧ toldF (0 * 2 + b) bs < 2 ^ (bs.length + 1)
    rw [toldF_split,Int.pow_succ]
    generalize (2 : Int) ^ bs.length = M at *
    rcases h b List.mem_cons_self with rfl | rfl <;> lia
theorem bit_at (n : Int) (as : List Int) {b : Int} (hb : bt b) (bs : List Int) (h : ∀ b ∈ bs,bt b) : toldF n (as ++ b :: bs) / 2 ^ bs.length % 2 = b := by
  have e : toldF n (as ++ b :: bs) = toldF (toldF n as * 2 + b) bs := List.foldl_append
  obtain ⟨h1,h2⟩ := toldF_low bs h
  rw [e,toldF_split,Int.add_comm,Int.add_mul_ediv_right _ _ (Int.ne_of_gt (Int.lt_of_le_of_lt h1 h2)),Int.ediv_eq_zero_of_lt h1 h2]
  rcases hb with rfl | rfl <;> lia
structure Row where
  k : Nat
  b0 : Int
  b1 : Int
  b2 : Int
  b3 : Int
  b4 : Int
  b5 : Int
  b6 : Int
  b7 : Int
  b8 : Int
  b9 : Int
  b10 : Int
  b11 : Int
  hk : ks k
  h0 : bt b0
  h1 : bt b1
  h2 : bt b2
  h3 : bt b3
  h4 : bt b4
  h5 : bt b5
  h6 : bt b6
  h7 : bt b7
  h8 : bt b8
  h9 : bt b9
  h10 : bt b10
  h11 : bt b11
namespace Row
noncomputable def str (r : Row) : Str := rowOf r.k r.b0 r.b1 r.b2 r.b3 r.b4 r.b5 r.b6 r.b7 r.b8 r.b9 r.b10 r.b11
noncomputable def num (r : Row) : Int := told r.k r.b0 r.b1 r.b2 r.b3 r.b4 r.b5 r.b6 r.b7 r.b8 r.b9 r.b10 r.b11
noncomputable def bits (r : Row) : List Int := [r.b0,r.b1,r.b2,r.b3,r.b4,r.b5,r.b6,r.b7,r.b8,r.b9,r.b10,r.b11]
noncomputable def deed (x : Int) (r : Row) : Row := if hc : x.fmod 4 < 2 then
    ⟨r.k,dA x r.b0 0,dA x r.b1 1,dA x r.b2 2,dA x r.b3 3,dA x r.b4 4,dA x r.b5 5,dA x r.b6 6,dA x r.b7 7,dA x r.b8 8,dA x r.b9 9,dA x r.b10 10,dA x r.b11 11,r.hk,
      dA_bt r.h0 hc,dA_bt r.h1 hc,dA_bt r.h2 hc,dA_bt r.h3 hc,dA_bt r.h4 hc,dA_bt r.h5 hc,dA_bt r.h6 hc,dA_bt r.h7 hc,dA_bt r.h8 hc,dA_bt r.h9 hc,dA_bt r.h10 hc,dA_bt r.h11 hc⟩
  else ⟨r.k,r.b0,r.b1,r.b2,r.b3,sW x r.b3 r.b4,sX x r.b3 r.b5,r.b6,sW x r.b6 r.b7,sX x r.b6 r.b8,r.b9,sW x r.b9 r.b10,sX x r.b9 r.b11,r.hk,
      r.h0,r.h1,r.h2,r.h3,sW_bt r.h3 r.h4,sX_bt r.h3 r.h5,r.h6,sW_bt r.h6 r.h7,sX_bt r.h6 r.h8,r.h9,sW_bt r.h9 r.h10,sX_bt r.h9 r.h11⟩
theorem kd_ks (x : Int) : ks (kd x) := by
  unfold kd ks
  repeat' split
  . exact .inl rfl
  . exact .inr (.inl rfl)
  . exact .inr (.inr (.inl rfl))
  . exact .inr (.inr (.inr rfl))
noncomputable def draw (x : Int) : Row := ⟨kd (x.fmod 4),bitOf x 0,bitOf x 1,bitOf x 2,bitOf x 3,bitOf x 4,bitOf x 5,bitOf x 6,bitOf x 7,bitOf x 8,bitOf x 9,bitOf x 10,bitOf x 11,kd_ks _,
  bitOf_bt x 0,bitOf_bt x 1,bitOf_bt x 2,bitOf_bt x 3,bitOf_bt x 4,bitOf_bt x 5,bitOf_bt x 6,bitOf_bt x 7,bitOf_bt x 8,bitOf_bt x 9,bitOf_bt x 10,bitOf_bt x 11⟩
theorem num_deed (x : Int) (r : Row) : (r.deed x).num = doneOf (fun m => m) r.num x := by
  unfold deed
  split
  . rename_i hc
    exact told_doneA hc r.h0 r.h1 r.h2 r.h3 r.h4 r.h5 r.h6 r.h7 r.h8 r.h9 r.h10 r.h11
  . rename_i hc
    exact told_doneB hc r.h0 r.h1 r.h2 r.h3 r.h4 r.h5 r.h6 r.h7 r.h8 r.h9 r.h10 r.h11
theorem bt_range {b : Int} (h : bt b) : 0 <= b ∧ b <= 1 := by rcases h with rfl | rfl <;> decide
theorem bits_bt (r : Row) : ∀ b ∈ r.bits,bt b := by
  have n : ∀ b ∈ ([] : List Int),bt b := fun b h => absurd h List.not_mem_nil
  exact List.forall_mem_cons.mpr ⟨r.h0,List.forall_mem_cons.mpr ⟨r.h1,List.forall_mem_cons.mpr ⟨r.h2,List.forall_mem_cons.mpr ⟨r.h3,List.forall_mem_cons.mpr ⟨r.h4,List.forall_mem_cons.mpr ⟨r.h5,List.forall_mem_cons.mpr ⟨r.h6,List.forall_mem_cons.mpr ⟨r.h7,List.forall_mem_cons.mpr ⟨r.h8,List.forall_mem_cons.mpr ⟨r.h9,List.forall_mem_cons.mpr ⟨r.h10,List.forall_mem_cons.mpr ⟨r.h11,n⟩⟩⟩⟩⟩⟩⟩⟩⟩⟩⟩⟩
theorem num_hi (r : Row) : ∃ l : Int,toldF 0 r.bits = l ∧ r.num = kn r.k * 4096 + l ∧ 0 <= l ∧ l < 4096 := by
  have e := toldF_split (kn r.k) r.bits
  have l := toldF_low r.bits r.bits_bt
  have p : (2 : Int) ^ r.bits.length = 4096 := show (2 : Int) ^ 12 = 4096 by decide
  rw [p] at e l
  exact ⟨_,rfl,e,l⟩
theorem num_range (r : Row) : 8192 <= r.num ∧ r.num < 65536 := by
  obtain ⟨k1,k2⟩ := kn_pos r.k
  obtain ⟨l, _,e,h1,h2⟩ := r.num_hi
  lia
end Row
noncomputable abbrev rowsP (rs : List Row) : PV := .list (rs.map fun r => .str r.str)
noncomputable abbrev intsP (xs : List Int) : PV := .list (xs.map .int)
noncomputable def nums (rs : List Row) : List Int := rs.map Row.num
theorem nums_dig (rs : List Row) : Dig (nums rs) := fun d hd => by
  obtain ⟨r, _,rfl⟩ := List.mem_map.mp hd
  have := r.num_range
  lia
noncomputable def numb (rs : List Row) : Int := d2i (nums rs)
noncomputable def after (ds : List Int) (rs : List Row) : List Row := ds.foldl (fun rs x => rs.map (Row.deed x)) rs
theorem after_snoc (ds : List Int) (x : Int) (rs : List Row) : after (ds ++ [x]) rs = (after ds rs).map (Row.deed x) := by simp [after]
theorem after_length : ∀ (ds : List Int) (rs : List Row),(after ds rs).length = rs.length
  | [], _ => rfl
  | x :: ds,rs => by show (after ds (rs.map _)).length = _; rw [after_length ds]; simp
theorem numb_deed (x : Int) (rs : List Row) : numb (rs.map (Row.deed x)) = doneOf (fun m => d2i (List.replicate rs.length m)) (numb rs) x := by
  have h := done_d2i (nums rs) (nums_dig rs) x
  have hl : (nums rs).length = rs.length := by simp [nums]
  rw [hl] at h
  unfold numb
  rw [h]
  congr 1
  unfold nums
  rw [List.map_map,List.map_map]
  exact List.map_congr_left fun r _ => r.num_deed x
theorem numb_fold (n : Nat) : ∀ (ds : List Int) (rs : List Row),rs.length = n -> ds.foldl (fun n' x => doneOf (fun m => d2i (List.replicate n m)) n' x) (numb rs) = numb (after ds rs)
  | [], _, _ => rfl
  | x :: ds,rs,h => by
    rw [List.foldl_cons, <- h, <- numb_deed,h]
    exact numb_fold n ds (rs.map _) (by simpa using h)
theorem numb_nonneg (rs : List Row) : 0 <= numb rs := (d2i_bound _ (nums_dig rs)).1
theorem bits_ge {x : Int} {k : Nat} (h : (2 : Int) ^ k <= x) : k + 1 <= Builtin.Int.intBits x := by
  have hp : (0 : Int) < 2 ^ k := Int.pow_pos (by decide)
  unfold Builtin.Int.intBits
  have hne : x.natAbs ≠ 0 := by lia
  rw [if_neg (by simpa using hne)]
  have : 2 ^ k <= x.natAbs := by
    have e : ((x.natAbs : Nat) : Int) = x := Int.natAbs_of_nonneg (by lia)
    have : ((2 ^ k : Nat) : Int) <= ((x.natAbs : Nat) : Int) := by rw [e]; push_cast; exact h
    exact_mod_cast this
  have h2 : k <= x.natAbs.log2 := (Nat.le_log2 hne).mpr this
  lia
theorem d2i_low : ∀ (ds : List Int) (d : Int),Dig ds -> 0 < d -> (2 : Int) ^ (ds.length * 16) <= d2i (ds ++ [d])
  | ds,d,h,h1 => by
    rw [d2i_append]
    have e : d2i [d] = d := by simp [d2i]
    rw [e]
    have := (d2i_bound ds h).1
    have hp : (0 : Int) < 2 ^ (ds.length * 16) := Int.pow_pos (by decide)
    generalize (2 : Int) ^ (ds.length * 16) = P at *
    have : P * 1 <= P * d := Int.mul_le_mul_of_nonneg_left (by lia) (by lia)
    rw [Int.mul_comm d P]
    lia
theorem ndig_numb (rs : List Row) : ndig (numb rs) = rs.length := by
  rcases List.eq_nil_or_concat rs with rfl | ⟨rs,r,rfl⟩
  . decide
  . rw [List.concat_eq_append]
    have hd := nums_dig (rs ++ [r])
    have e : nums (rs ++ [r]) = nums rs ++ [r.num] := by simp [nums]
    have hr := r.num_range
    have hlo := d2i_low (nums rs) r.num (nums_dig rs) (by lia)
    have hb := d2i_bound _ hd
    unfold numb ndig
    rw [e] at hb ⊢
    have h1 := bits_ge hlo
    have h2 := intBits_lt hb.1 hb.2
    have e1 : (nums rs).length = rs.length := by simp [nums]
    have e2 : (nums rs ++ [r.num]).length = rs.length + 1 := by simp [nums]
    have e3 : (rs ++ [r]).length = rs.length + 1 := by simp
    rw [e1] at h1
    rw [e2] at h2
    rw [e3]
    lia
theorem digs_numb (rs : List Row) : digs (ndig (numb rs)) (numb rs) = nums rs := by
  have h := digs_d2i (nums rs) (nums_dig rs)
  rw [ndig_numb]
  have hl : (nums rs).length = rs.length := by simp [nums]
  rw [hl] at h
  exact h
section
variable {w : World} {N : Nat} {X : List Addr} {Top : Heap -> Prop}
theorem row_told (g : GX N Top) (r : Row) : FN w N X (TbX Top X) g.fTold 3 [.str r.str] (.int r.num) := told_fn g r.hk r.h0 r.h1 r.h2 r.h3 r.h4 r.h5 r.h6 r.h7 r.h8 r.h9 r.h10 r.h11
theorem row_deed (g : GX N Top) (r : Row) (x : Int) : FN w N X (TbX Top X) g.fSigned 3 [.str r.str, .int x] (.str (r.deed x).str) := by
  unfold Row.deed
  split
  . rename_i hc
    exact signed_fnA g hc r.h0 r.h1 r.h2 r.h3 r.h4 r.h5 r.h6 r.h7 r.h8 r.h9 r.h10 r.h11
  . rename_i hc
    exact signed_fnB g hc r.h0 r.h1 r.h2 r.h3 r.h4 r.h5 r.h6 r.h7 r.h8 r.h9 r.h10 r.h11
theorem row_bits (g : GX N Top) (r : Row) : FN w N X (TbX Top X) g.fBits 2 [.str r.str] (intsP r.bits) := bits_fn g r.k r.h0 r.h1 r.h2 r.h3 r.h4 r.h5 r.h6 r.h7 r.h8 r.h9 r.h10 r.h11
theorem row_draw (g : GX N Top) (x : Int) : FN w N X (TbX Top X) g.fDrawn 2 [.int x] (.str (Row.draw x).str) := drawn_fn g x
theorem row_done (g : GY N Top) (rs : List Row) (hl : rs.length <= 40) (x : Int) : FN w N X (TbX Top X) g.fDone (rs.length + 3) [.int (numb rs), .int x, .int (rs.length : Nat)] (.int (numb (rs.map (Row.deed x)))) := by
  rw [numb_deed]
  exact done_fn g.toGX fun m h0 h1 => all_fn g h0 (by lia) hl
theorem row_num (g : GY N Top) (rs : List Row) (hl : rs.length <= 40) : FN w N X (TbX Top X) g.fInt (rs.length + 1) [intsP (nums rs), .int 16] (.int (numb rs)) := by
  have h := d2i_y (w := w) (X := X) g (nums_dig rs) (by simpa [nums] using hl)
  have hlen : (nums rs).length = rs.length := by simp [nums]
  rw [hlen] at h
  exact h
end
end
section
set_option autoImplicit false
noncomputable abbrev lawN : List Str := [Str.ofString "script",Str.ofString "x",Str.ofString "rows",Str.ofString "weighed",Str.ofString "deeds",Str.ofString "first",Str.ofString "states",Str.ofString "numbers",Str.ofString "counts",Str.ofString "laid",Str.ofString "digits",Str.ofString "many"]
noncomputable def nthS : List Stmt -> Nat -> Stmt
  | s :: _,0 => s
  | _ :: r,n + 1 => nthS r n
  | [], _ => default
theorem kind_in {scope : Scope} {env cenv : Env} {y : Str} (hsc : cenv.scope = relabel scope env) (h : scope.names.lookup y = some .globalImplicit) : cenv.kindOf y = some .globalImplicit := by
  rw [Env.kindOf,hsc]
  exact relabel_other (by decide) h
noncomputable def pickI (ns : List Int) (k : Nat) : List Int :=
  (sliceRange (sliceBounds (some (k : Int)) none (some 2) ns.length).1 (sliceBounds (some (k : Int)) none (some 2) ns.length).2.1 (sliceBounds (some (k : Int)) none (some 2) ns.length).2.2).filterMap (ns[·]?)
theorem pickP_ints (ns : List Int) (k : Nat) : pickP (ns.map .int) (some (k : Int)) none (some 2) = (pickI ns k).map .int := by
  unfold pickP pickI
  rw [List.length_map,List.map_filterMap]
  congr 1
  funext i
  rw [List.getElem?_map]
noncomputable def two (ns : List Int) : Nat := (ns.take 2).length
theorem two_le (ns : List Int) : two ns <= 2 := by unfold two; rw [List.length_take]; lia
noncomputable def startRows (ns : List Int) : List Row := (List.range (two ns)).map (fun k => Row.draw (pickI ns k).sum) ++ [1680,2037,14582,1680].map Row.draw
noncomputable def weigh (ns : List Int) : List Int := (List.range ns.length).map fun (k : Nat) => ((k : Int).fdiv 2 + 1) * ns.getD k 0
noncomputable def deedsL (ns : List Int) : List Int := [8200,2,1025,3,2112,8225] ++ (List.range (two ns)).map fun k => (pickI (weigh ns) k).sum
theorem mapIdx_range (n : Nat) (f : Nat -> PV -> PV) : (rangeP n).mapIdx f = (List.range n).map fun (k : Nat) => f k (.int (k : Int)) := by
  apply List.ext_getElem?
  intro i
  rw [List.getElem?_mapIdx,List.getElem?_map]
  unfold rangeP
  rw [List.getElem?_map]
  by_cases h : i < n
  . rw [List.getElem?_range h]; rfl
  . rw [List.getElem?_eq_none (by simpa using h)]; rfl
theorem weigh_length (ns : List Int) : (weigh ns).length = ns.length := by simp [weigh]
section
variable {w : World} {N : Nat} {X : List Addr} {Tb : Heap -> Prop} {Top : Heap -> Prop} {A : Around} {env : Env} {hb : Heap} {C : Heap -> Prop}
theorem EV.sum2 (T : TbOk N X Tb) (hh : A.handled = none) {v l s2 : Expr} {p ps' pc px : Pos} {ns : List Int} {k : Nat} (hC : Stb N C) (hk : env.scope.kind = .function) (hgl : env.globals = mainGlobals) (hbl : env.builtins = builtinsNs) (hx : env.kindOf (Str.ofString "sum") = some .globalImplicit)
    (G : BuiltIs Tb (Str.ofString "sum") (.builtin "sum")) (hv : EV w N Tb A env C v (IsP X (intsP ns))) (hl : EV w N Tb A env C l (IsP X (.int (k : Int)))) (h2 : EV w N Tb A env C s2 (IsP X (.int 2))) (hz : ns.length <= sizeLine)
    (ht : ∀ o r,letTemporaryGo v o r = pure ()) (he : starEach [Expr.Subscript v (.Slice (some l) none (some s2) ps') p] env = (false,eval (Expr.Subscript v (.Slice (some l) none (some s2) ps') p) env) :: starEach [] env) :
    EV w N Tb A env C (.Call (.Name (Str.ofString "sum") px) [.Subscript v (.Slice (some l) none (some s2) ps') p] [] pc) (IsP X (.int (pickI ns k).sum)) := by
  have hs := EV.slice (lo := some (k : Int)) (hi := none) (st := some 2) (p := ps') (pos := p) T hC hv (PT.yes hl) PT.no (PT.yes h2) (by decide) (by rw [List.length_map]; exact hz) ht
  rw [pickP_ints] at hs
  exact EV.callB hC hk hgl hbl hx G (EVs.cons hC hs EVs.nil he) (BC.sum T hh) (by decide) he rfl
theorem SRC.firstTwo (T : TbOk N X Tb) (hh : A.handled = none) {v s2 : Expr} {p ps' pc px pl plc : Pos} {ns : List Int} (hC : Stb N C) (hk : env.scope.kind = .function) (hgl : env.globals = mainGlobals) (hbl : env.builtins = builtinsNs) (hx : env.kindOf (Str.ofString "range") = some .globalImplicit) (hxl : env.kindOf (Str.ofString "len") = some .globalImplicit)
    (G : BuiltIs Tb (Str.ofString "range") (.type "range")) (GL : BuiltIs Tb (Str.ofString "len") (.builtin "len")) (hv : EV w N Tb A env C v (IsP X (intsP ns))) (h2 : EV w N Tb A env C s2 (IsP X (.int 2))) (hz : ns.length <= sizeLine)
    (ht : ∀ o r,letTemporaryGo v o r = pure ()) (he : starEach [Expr.Subscript v (.Slice none (some s2) none ps') p] env = (false,eval (Expr.Subscript v (.Slice none (some s2) none ps') p) env) :: starEach [] env)
    (he2 : starEach [Expr.Call (.Name (Str.ofString "len") pl) [.Subscript v (.Slice none (some s2) none ps') p] [] plc] env = [(false,eval (Expr.Call (.Name (Str.ofString "len") pl) [.Subscript v (.Slice none (some s2) none ps') p] [] plc) env)]) :
    SRC w N X Tb A env C (.Call (.Name (Str.ofString "range") px) [.Call (.Name (Str.ofString "len") pl) [.Subscript v (.Slice none (some s2) none ps') p] [] plc] [] pc) (rangeP (two ns)) := by
  have h1 := EV.sliceTo (p := ps') (pos := p) T hC hv h2 (by decide) (by rw [List.length_map]; exact hz) ht
  have e : ((ns.map PV.int).take (2 : Int).toNat).length = two ns := by unfold two; rw [<- List.map_take,List.length_map]; rfl
  refine SRC.range T hh (n := two ns) rfl (by have := two_le ns; lia) hC hk hgl hbl hx G ?_ he2
  have h := EV.callB (pos := plc) (px := pl) hC hk hgl hbl hxl GL (EVs.cons hC h1 EVs.nil he) (BC.len (by rw [e]; have := two_le ns; lia)) (by decide) he rfl
  rw [e] at h
  exact h
theorem law_s0 (g : GY N Top) {d : Nat} (hA : AOk A d) (O : EnvOk N hb env) (hs : env.scope = scopeOf (stmtAt 44)) {ns : List Int} (hz : ns.length <= 63) (hd : 10 <= d) : SX w N (TbX Top X) A env (Wr env lawN X) (Cx N X hb env lawN [some (intsP ns),none,none,none,none,none,none,none,none,none,none,none]) (nthS (bodyOf (stmtAt 44)) 0) (Nxt (Cx N X hb env lawN [some (intsP ns),none,some (rowsP (startRows ns)),none,none,none,none,none,none,none,none,none])) := by
  have T := TbX.ok g.T X
  have hn : NsOk lawN := ⟨by decide,by decide,by decide⟩
  have hkk := O.kind
  have hL := O.hL
  have hsz : ns.length <= sizeLine := Nat.le_trans hz (Nat.le_of_ble_eq_true rfl)
  refine SX.assign (ns := lawN) (vals := [some (intsP ns),none,none,none,none,none,none,none,none,none,none,none]) (i := 2) (p := rowsP (startRows ns)) T O ?a1 ?a2 hn ?a3 ?a4
  case a2 => walk_at "m"
  case a3 => rw [Env.kindOf,hs]; decide
  case a4 => exact swaps_no rfl
  case a1 =>
    refine EV.conv (p := .list (((rangeP (two ns)).mapIdx fun j _ => .str (Row.draw (pickI ns j).sum).str) ++ (([1680,2037,14582,1680] : List Int).map PV.int).mapIdx fun j p => match p with | .int x => .str (Row.draw x).str | p => p)) (EV.bin ?b1 ?b2 ?b3 (OP.cat T ?b4)) ?b5
    case b1 => walk_at "m"
    case b4 => rw [List.length_mapIdx,List.length_mapIdx,List.length_map]; have := two_le ns; have e : (rangeP (two ns)).length = two ns := by simp [rangeP]
               rw [e]; show two ns + 4 <= sizeLine; exact Nat.le_trans (Nat.add_le_add_right this 4) (Nat.le_of_ble_eq_true rfl)
    case b5 =>
      rw [mapIdx_range]
      show PV.list _ = PV.list ((startRows ns).map _)
      unfold startRows
      rw [List.map_append,List.map_map]
      rfl
    case b2 =>
      refine EV.comp (fs := [Str.ofString "script"]) (fv := [some (intsP ns)]) g.T O.toBlkOk (SRC.firstTwo T hA.hd ?c1 O.kind O.glob O.bui ?c2 ?c3 (g.bRange.x X) (g.bLen.x X) ?c4 EV.cint hsz (fun _ _ => rfl) rfl rfl) ?c5 rfl (by decide) (by decide) (by decide) (by decide) (.cons (i := 0) Ix.hd rfl (by decide) ?c6 .nil) rfl (by decide) ?c7
      case c1 => walk_at "m"
      case c2 => rw [Env.kindOf,hs]; decide
      case c3 => rw [Env.kindOf,hs]; decide
      case c4 => walk_at "m"
      case c5 => have e : (rangeP (two ns)).length = two ns := by simp [rangeP]
                 rw [e]; exact Nat.le_trans (two_le ns) (Nat.le_of_ble_eq_true rfl)
      case c6 => rw [Env.kindOf,hs]; decide
      case c7 =>
        intro D cenv hc hsc B j p hp
        obtain ⟨hj,rfl⟩ := rangeP_get hp
        have hk' := B.kind
        have hL' := B.hL
        have T' := TbX.ok g.T (D :: X)
        have hn' : NsOk [Str.ofString "k",Str.ofString "script"] := ⟨by decide,by decide,by decide⟩
        refine EV.callD ?d1 B.kind B.glob (kind_in hsc (by decide)) g.dDrawn (EVs.cons ?d3 ?d4 EVs.nil rfl) (row_draw g.toGX _) (hA.less (by lia))
        case d1 => walk_at "m"
        case d3 => walk_at "m"
        case d4 =>
          refine EV.sum2 T' hA.hd ?e1 B.kind B.glob B.bui (kind_in hsc (by decide)) (g.bSum.x _) ?e2 ?e3 EV.cint hsz (fun _ _ => rfl) rfl
          case e1 => walk_at "m"
          case e2 => walk_at "m"
          case e3 => walk_at "m"
    case b3 =>
      refine EV.comp (fs := []) (fv := []) g.T O.toBlkOk (SRC.list T hA.hd (ps := ([1680,2037,14582,1680] : List Int).map PV.int) (EV.conv (p := .list [.int 1680, .int 2037, .int 14582, .int 1680]) ?c1 rfl)) (Nat.le_of_ble_eq_true rfl) rfl (by decide) (by decide) (by decide) (by decide) .nil rfl (by decide) ?c7
      case c1 => walk_at "m"
      case c7 =>
        intro D cenv hc hsc B j p hp
        have hk' := B.kind
        have hL' := B.hL
        have hn' : NsOk [Str.ofString "x"] := ⟨by decide,by decide,by decide⟩
        rw [List.getElem?_map] at hp
        cases hq : ([1680,2037,14582,1680] : List Int)[j]? with
        | none => rw [hq] at hp; cases hp
        | some z =>
          rw [hq] at hp; cases hp
          refine EV.callD ?d1 B.kind B.glob (kind_in hsc (by decide)) g.dDrawn (EVs.cons ?d3 ?d4 EVs.nil rfl) (row_draw g.toGX z) (hA.less (by lia))
          case d1 => walk_at "m"
          case d3 => walk_at "m"
          case d4 => walk_at "m"
end
end
section
set_option autoImplicit false
theorem third_if {α : Type} {v : α} {a b c : Bool} {u : α} (h : c = true) : (if a = true then v else if b = true then v else if c = true then v else u) = v := by
  subst h
  cases a <;> cases b <;> rfl
theorem swap_no2 {env : Env} {x y : Str} {px py tp p2 : Pos} {kk k2 : Nat} {e1 e2 : Expr} (hy : env.kindOf y = some .cell) : swappedStores [.Tuple [.Name x px, .Name y py] kk tp] (.Tuple [e1,e2] k2 p2) env = pure none := by
  delta swappedStores
  dsimp only
  refine third_if ?_
  refine Bool.or_eq_true_iff.mpr (.inl (bne_iff_ne.mpr ?_))
  dsimp only [List.filterMap]
  generalize (env.kindOf x == some NameKind.local && _) = q
  rw [hy]
  cases q <;> intro h <;> cases h
theorem swaps_cell {env : Env} {x : Str} {px : Pos} {e : Expr} {line : Nat} (h : env.kindOf x ≠ some .local) : swapsWith e (some (.Name x px)) line env = pure false := by
  have hb : (env.kindOf x == some NameKind.local) = false := by simpa using h
  unfold swapsWith
  split <;> first | rfl | simp [hb]
section
variable {w : World} {N : Nat} {X : List Addr} {Tb : Heap -> Prop} {Top : Heap -> Prop} {A : Around} {env : Env} {hb : Heap} {C : Heap -> Prop}
theorem own2 (T : TbOk N [] Top) (O : EnvOk N hb env) (hh : A.handled = none) {ns : List Str} {vals : List (Option PV)} {x y : Str} {px py tp p2 pos : Pos} {kk k2 i j : Nat} {e1 e2 : Expr} {p : PV} {xs : List PV}
    (h1 : EV w N (TbX Top X) A env (Cx N X hb env ns vals) e1 (IsP X p)) (h2 : FL w N X (TbX Top X) A env (Cx N X hb env ns vals) e2 xs) (hx : Ix ns x i) (hy : Ix ns y j) (hn : NsOk ns) (hkx : env.kindOf x ≠ some .free) (hky : env.kindOf y ≠ some .free)
    (he1 : starEach [e1,e2] env = (false,eval e1 env) :: starEach [e2] env) (he2 : starEach [e2] env = (false,eval e2 env) :: starEach [] env)
    (hs : swapsWithSole [.Tuple [.Name x px, .Name y py] kk tp] (.Tuple [e1,e2] k2 p2) pos.line env = pure false) (hw : swappedStores [.Tuple [.Name x px, .Name y py] kk tp] (.Tuple [e1,e2] k2 p2) env = pure none)
    {s : Shared} {Q : Flow -> Shared -> Prop} {E : Value -> Shared -> Prop} (c : Cx N X hb env ns vals s.heap) (t : TbX Top X s.heap)
    (k : ∀ a h' tk,N <= a -> a ∉ X -> hb.get? a = none -> Cx N (a :: X) hb env ns ((vals.set i (some p)).set j (some (.own a xs))) h' -> TbX Top (a :: X) h' -> Q .next { s with heap := h',toks := tk }) :
    wpAny (MM w) A (exec (.Assign [.Tuple [.Name x px, .Name y py] kk tp] (.Tuple [e1,e2] k2 p2) pos) env) Q E s := by
  have TX := TbX.ok T X
  refine Assign_Tuple (wpAny_Tuple (args_cons (h1.run s _ E c t fun v₁ h₁ t₁ n₁ T₁ i₁ => args_cons (h2.run _ _ E (Cx.stb O.hL _ _ c n₁) T₁ fun a vs h₂ t₂ hsa hlt n₂ T₂ hl hL => args_nil ⟨Nat.le_of_ble_eq_true rfl, ?_⟩) he2) he1)) hs hw
  dsimp only at hsa
  have n₁₂ := n₁.trans n₂
  have hN : N <= a := Nat.le_trans (TX.size _ t) (Nat.le_trans n₁.sz hsa)
  have haX : a ∉ X := fun m => Nat.lt_irrefl _ (Nat.lt_of_lt_of_le (T₁.2 a m) hsa)
  have TY := TbX.ok T (a :: X)
  have T₂' : TbX Top (a :: X) h₂ := ⟨T₂.1,fun y hy => (List.mem_cons.mp hy).elim (fun e => by rw [e]; exact hlt) (T₂.2 y)⟩
  have gr : ∀ b ∈ a :: X,b ∈ X ∨ h₁.objs.size <= b := fun b hb => (List.mem_cons.mp hb).elim (fun e => .inr (by rw [e]; exact hsa)) .inl
  have c₂ : Cx N (a :: X) hb env ns vals h₂ := Cx.stb O.hL _ _ ((Cx.stb O.hL _ _ c n₁).grow (Y := a :: X) gr fun b hb => List.mem_cons_of_mem _ hb) n₂
  have i₂ : Is (a :: X) h₂ v₁ p := (i₁.grow gr).nx n₂
  have n₃ : Nx N h₂ (h₂.push { cls := .type "tuple",data := .seq [v₁,Value.ref a].toArray 0 }) := .push _ _
  rw [PyProof.Rows.assign_Tuple]
  refine wpAny_bind (wpAny_standAt (unpackZ hh (items := #[v₁,Value.ref a]) ⟨_,Heap.get?_push_size _ rfl,rfl, _,rfl⟩ rfl rfl fun h₄ he₄ hz₄ => ?_))
  have n₄ : Nx N (h₂.push { cls := .type "tuple",data := .seq [v₁,Value.ref a].toArray 0 }) h₄ := .of_keep (fun b o e => he₄ b o (Nat.ne_of_lt (Heap.lt_size e)) e) hz₄
  have n₂₄ := n₃.trans n₄
  have c₄ := Cx.stb O.hL _ _ c₂ n₂₄
  have T₄ : TbX Top (a :: X) h₄ := TY.keep _ _ (fun b o e => he₄ b o (Nat.ne_of_lt (Heap.lt_size e)) e) hz₄ (TY.push T₂' _)
  refine assignInOrder_cons (PyProof.Rows.assign_Name (store' TY O.toBlkOk hx hn.nodup (.inr ⟨O,hkx⟩) c₄ T₄ (i₂.nx n₂₄) fun h₅ t₅ f₅ T₅ c₅ => ?_))
  refine assignInOrder_cons (PyProof.Rows.assign_Name (store' TY O.toBlkOk hy hn.nodup (.inr ⟨O,hky⟩) c₅ T₅ (.raw (.ref a)) fun h₆ t₆ f₆ T₆ c₆ => assignInOrder_nil ?_))
  obtain ⟨n,ho⟩ := id hl
  have ho₄ := n₂₄.kp _ _ ho (.inl hN)
  have ha4 : a ∉ Wr env ns [] := c₄.off ho₄ (fun es n e => by cases e) (fun v e => by cases e)
  have ho₅ := f₅.kp _ _ ha4 ho₄ (.inl hN)
  have ha5 : a ∉ Wr env ns [] := c₅.off ho₅ (fun es n e => by cases e) (fun v e => by cases e)
  have ho₆ := f₆.kp _ _ ha5 ho₅ (.inl hN)
  have hL₆ := ((hL.nx n₂₄).fx f₅ c₄.wok0).fx f₆ c₅.wok0
  have hba : hb.get? a = none := by
    cases e : hb.get? a with
    | none => rfl
    | some o => exact absurd (Nat.lt_of_lt_of_le (Heap.lt_size e) (Nat.le_trans c.base.sz n₁.sz)) (Nat.not_lt.mpr hsa)
  exact k a h₆ t₆ hN haX hba (Cx.setOwn hy hn.nodup List.mem_cons_self hN ⟨n,ho₆⟩ hL₆ c₆) T₆
theorem own1 (T : TbOk N [] Top) (O : EnvOk N hb env) {ns : List Str} {vals : List (Option PV)} {x : Str} {px pos : Pos} {e : Expr} {i : Nat} {xs : List PV}
    (h : FL w N X (TbX Top X) A env (Cx N X hb env ns vals) e xs) (hx : Ix ns x i) (hn : NsOk ns) (hkx : env.kindOf x ≠ some .free)
    (hs : swapsWith e (some (.Name x px)) pos.line env = pure false) {s : Shared} {Q : Flow -> Shared -> Prop} {E : Value -> Shared -> Prop} (c : Cx N X hb env ns vals s.heap) (t : TbX Top X s.heap)
    (k : ∀ a h' tk,N <= a -> a ∉ X -> hb.get? a = none -> Cx N (a :: X) hb env ns (vals.set i (some (.own a xs))) h' -> TbX Top (a :: X) h' -> Q .next { s with heap := h',toks := tk }) :
    wpAny (MM w) A (exec (.Assign [.Name x px] e pos) env) Q E s := by
  have TX := TbX.ok T X
  refine wpAny_Assign_Name (h.run s _ E c t fun a vs h₁ t₁ hsa hlt n₁ T₁ hl hL => ?_) hs
  have hN : N <= a := Nat.le_trans (TX.size _ t) hsa
  have haX : a ∉ X := fun m => Nat.lt_irrefl _ (Nat.lt_of_lt_of_le (t.2 a m) hsa)
  have TY := TbX.ok T (a :: X)
  have T₁' : TbX Top (a :: X) h₁ := ⟨T₁.1,fun y hy => (List.mem_cons.mp hy).elim (fun e => by rw [e]; exact hlt) (T₁.2 y)⟩
  have c₁ : Cx N (a :: X) hb env ns vals h₁ := Cx.stb O.hL _ _ (c.grow (Y := a :: X) (fun b hb => (List.mem_cons.mp hb).elim (fun e => .inr (by rw [e]; exact hsa)) .inl) fun b hb => List.mem_cons_of_mem _ hb) n₁
  refine store' TY O.toBlkOk hx hn.nodup (.inr ⟨O,hkx⟩) c₁ T₁' (.raw (.ref a)) fun h₂ t₂ f₂ T₂ c₂ => ?_
  obtain ⟨n,ho⟩ := id hl
  have haW : a ∉ Wr env ns [] := c₁.off ho (fun es n e => by cases e) (fun v e => by cases e)
  have hl₂ : h₂.PlainList a vs.toArray := ⟨n,f₂.kp _ _ haW ho (.inr (by intro e; cases e))⟩
  have hL₂ := hL.fx f₂ c₁.wok0
  have hba : hb.get? a = none := by
    cases e : hb.get? a with
    | none => rfl
    | some o => exact absurd (Nat.lt_of_lt_of_le (Heap.lt_size e) c.base.sz) (Nat.not_lt.mpr hsa)
  exact k a h₂ t₂ hN haX hba (Cx.setOwn hx hn.nodup List.mem_cons_self hN hl₂ hL₂ c₂) T₂
theorem Cx.unown {ns : List Str} {vals : List (Option PV)} {i : Nat} {a : Addr} {xs : List PV} {h : Heap} (hv : vals[i]? = some (some (.own a xs))) (haX : a ∉ X)
    (ho : ∀ (j : Nat) p,j ≠ i -> vals[j]? = some (some p) -> notOwn p = true) (c : Cx N (a :: X) hb env ns vals h) : Cx N X hb env ns (vals.set i (some (.list xs))) h := by
  have hlt : i < vals.length := (List.getElem?_eq_some_iff.mp hv).1
  have hsub : ∀ b ∈ X,b ∈ a :: X := fun b hb => List.mem_cons_of_mem _ hb
  refine ⟨c.base,c.nsx,fun j y hy => ?_⟩
  obtain ⟨u,su,hu⟩ := c.slot j y hy
  refine ⟨u,su,fun p hp => ?_⟩
  by_cases hij : i = j
  . subst hij
    rw [List.getElem?_set_self hlt] at hp
    cases hp
    obtain ⟨v,e,iv⟩ := hu _ hv
    rcases iv with iv | ⟨b,vs,ys,e1,e2,e3,e4,e5,e6⟩
    . cases iv
    . cases e1
      exact ⟨v,e, .inl (by rw [e2]; exact .list haX e5 (e6.sub hsub))⟩
  . rw [List.getElem?_set_ne hij] at hp
    obtain ⟨v,e,iv⟩ := hu p hp
    exact ⟨v,e, .inl ((iv.is (ho j p (fun e => hij e.symm) hp)).sub hsub)⟩
theorem law_s1 (g : GY N Top) {d : Nat} (hA : AOk A d) (O : EnvOk N hb env) (hs : env.scope = scopeOf (stmtAt 44)) {ns : List Int} (hz : ns.length <= 63) : SX w N (TbX Top X) A env (Wr env lawN X) (Cx N X hb env lawN [some (intsP ns),none,some (rowsP (startRows ns)),none,none,none,none,none,none,none,none,none]) (nthS (bodyOf (stmtAt 44)) 1) (Nxt (Cx N X hb env lawN [some (intsP ns),none,some (rowsP (startRows ns)),some (intsP (weigh ns)),none,none,none,none,none,none,none,none])) := by
  have T := TbX.ok g.T X
  have hn : NsOk lawN := ⟨by decide,by decide,by decide⟩
  have hkk := O.kind
  have hL := O.hL
  have hsz : ns.length <= sizeLine := Nat.le_trans hz (Nat.le_of_ble_eq_true rfl)
  have hr : (rangeP ns.length).length = ns.length := by simp [rangeP]
  refine SX.assign (ns := lawN) (vals := [some (intsP ns),none,some (rowsP (startRows ns)),none,none,none,none,none,none,none,none,none]) (i := 3) (p := intsP (weigh ns)) T O ?a1 ?a2 hn ?a3 ?a4
  case a2 => walk_at "m"
  case a3 => rw [Env.kindOf,hs]; decide
  case a4 => exact swaps_cell (by rw [Env.kindOf,hs]; decide)
  case a1 =>
    refine EV.conv (p := .list ((rangeP ns.length).mapIdx fun j _ => .int (((j : Int).fdiv 2 + 1) * ns.getD j 0))) ?b1 ?b2
    case b2 => rw [mapIdx_range]; show PV.list _ = PV.list ((weigh ns).map _); unfold weigh; rw [List.map_map]; rfl
    case b1 =>
      refine EV.comp (fs := [Str.ofString "script"]) (fv := [some (intsP ns)]) g.T O.toBlkOk (SRC.range T hA.hd (n := ns.length) rfl (by lia) ?c1 O.kind O.glob O.bui ?c2 (g.bRange.x X) (EV.callB ?c8 O.kind O.glob O.bui ?c3 (g.bLen.x X) (EVs.cons (p := intsP ns) ?c9 ?c4 EVs.nil rfl) ?c10)) ?c5 rfl (by decide) (by decide) (by decide) (by decide) (.cons (i := 0) Ix.hd rfl (by decide) ?c6 .nil) rfl (by decide) ?c7
      case c1 => walk_at "m"
      case c8 => walk_at "m"
      case c9 => walk_at "m"
      case c2 => rw [Env.kindOf,hs]; decide
      case c3 => rw [Env.kindOf,hs]; decide
      case c4 => walk_at "m"
      case c10 =>
        have := BC.len (w := w) (N := N) (X := X) (Tb := TbX Top X) (A := A) (xs := ns.map PV.int) (by rw [List.length_map]; lia)
        rw [List.length_map] at this
        exact this
      case c5 => rw [hr]; exact hsz
      case c6 => rw [Env.kindOf,hs]; decide
      case c7 =>
        intro D cenv hc hsc B j p hp
        obtain ⟨hj,rfl⟩ := rangeP_get hp
        have hk' := B.kind
        have hL' := B.hL
        have T' := TbX.ok g.T (D :: X)
        have hn' : NsOk [Str.ofString "k",Str.ofString "script"] := ⟨by decide,by decide,by decide⟩
        have e1 : (j : Int).fdiv 2 = (j : Int) / 2 := Int.fdiv_eq_ediv_of_nonneg _ (by decide)
        refine EV.bin ?d1 (EV.bin ?d2 (EV.bin ?d3 ?d4 EV.cint (OP.div (by decide) (by decide))) EV.cint OP.add) (EV.sub (p := intsP ns) (q := .int (j : Int)) ?d5 ?d6 ?d7 (IT.list ?d8 ?d9 ?d10) trivial) (OP.mul (IntMulOk.of_left (intBits_lt ?d11 ?d12)))
        case d1 => walk_at "m"
        case d2 => walk_at "m"
        case d3 => walk_at "m"
        case d4 => walk_at "m"
        case d5 => walk_at "m"
        case d6 => walk_at "m"
        case d7 => walk_at "m"
        case d8 => lia
        case d9 => lia
        case d10 => exact ints_get hj
        case d11 => rw [e1]; lia
        case d12 => rw [e1]; have : (j : Int) / 2 + 1 < 1000 := by lia
                    exact Int.lt_trans this (by decide)
theorem law_s2 (g : GY N Top) {d : Nat} (hA : AOk A d) (O : EnvOk N hb env) (hs : env.scope = scopeOf (stmtAt 44)) {ns : List Int} (hz : ns.length <= 63) : SX w N (TbX Top X) A env (Wr env lawN X) (Cx N X hb env lawN [some (intsP ns),none,some (rowsP (startRows ns)),some (intsP (weigh ns)),none,none,none,none,none,none,none,none]) (nthS (bodyOf (stmtAt 44)) 2) (Nxt (Cx N X hb env lawN [some (intsP ns),none,some (rowsP (startRows ns)),some (intsP (weigh ns)),some (intsP (deedsL ns)),none,none,none,none,none,none,some (.int ((startRows ns).length : Nat))])) := by
  have T := TbX.ok g.T X
  have hn : NsOk lawN := ⟨by decide,by decide,by decide⟩
  have hkk := O.kind
  have hL := O.hL
  have hsz : ns.length <= sizeLine := Nat.le_trans hz (Nat.le_of_ble_eq_true rfl)
  have h2 : two ns <= sizeLine := Nat.le_trans (two_le ns) (Nat.le_of_ble_eq_true rfl)
  have hr : (rangeP (two ns)).length = two ns := by simp [rangeP]
  have kD : env.kindOf (Str.ofString "deeds") = some .local := by rw [Env.kindOf,hs]; decide
  have kM : env.kindOf (Str.ofString "many") = some .cell := by rw [Env.kindOf,hs]; decide
  refine SX.assign2 (ns := lawN) (vals := [some (intsP ns),none,some (rowsP (startRows ns)),some (intsP (weigh ns)),none,none,none,none,none,none,none,none]) (i := 4) (j := 11) (p := intsP (deedsL ns)) (q := .int ((startRows ns).length : Nat)) T O.toBlkOk hA.hd ?a1 ?a2 hn (.inl kD) (.inr ⟨O,by rw [kM]; decide⟩) (EV.tup T (EVs.cons ?a3 ?a4 (EVs.cons ?a5 ?a6 EVs.nil rfl) rfl) (Nat.le_of_ble_eq_true rfl)) ?a7 ?a8
  case a1 => walk_at "m"
  case a2 => walk_at "m"
  case a3 => walk_at "m"
  case a5 => walk_at "m"
  case a7 => rfl
  case a8 => exact swap_no2 kM
  case a6 =>
    have hl := BC.len (w := w) (N := N) (X := X) (Tb := TbX Top X) (A := A) (xs := (startRows ns).map fun r => PV.str r.str) (by rw [List.length_map]; unfold startRows; simp; have := two_le ns; lia)
    rw [List.length_map] at hl
    refine EV.callB ?b1 O.kind O.glob O.bui ?b2 (g.bLen.x X) (EVs.cons ?b3 ?b4 EVs.nil rfl) hl
    case b1 => walk_at "m"
    case b2 => rw [Env.kindOf,hs]; decide
    case b3 => walk_at "m"
    case b4 => walk_at "m"
  case a4 =>
    refine EV.conv (p := .list (([8200,2,1025,3,2112,8225] : List Int).map PV.int ++ ((rangeP (two ns)).mapIdx fun j _ => .int (pickI (weigh ns) j).sum))) (EV.bin ?b1 (EV.conv (p := .list [.int 8200, .int 2, .int 1025, .int 3, .int 2112, .int 8225]) ?b2 rfl) ?b3 (OP.cat T ?b4)) ?b5
    case b1 => walk_at "m"
    case b2 => walk_at "m"
    case b4 => rw [List.length_mapIdx,hr]; show 6 + two ns <= sizeLine; exact Nat.le_trans (Nat.add_le_add_left (two_le ns) 6) (Nat.le_of_ble_eq_true rfl)
    case b5 => rw [mapIdx_range]; show PV.list _ = PV.list ((deedsL ns).map _); unfold deedsL; rw [List.map_append,List.map_map]; rfl
    case b3 =>
      refine EV.comp (fs := [Str.ofString "weighed"]) (fv := [some (intsP (weigh ns))]) g.T O.toBlkOk (SRC.firstTwo T hA.hd ?c1 O.kind O.glob O.bui ?c2 ?c3 (g.bRange.x X) (g.bLen.x X) ?c4 EV.cint hsz (fun _ _ => rfl) rfl rfl) ?c5 rfl (by decide) (by decide) (by decide) (by decide) (.cons (i := 3) ?c8 rfl (by decide) ?c6 .nil) rfl (by decide) ?c7
      case c1 => walk_at "m"
      case c2 => rw [Env.kindOf,hs]; decide
      case c3 => rw [Env.kindOf,hs]; decide
      case c4 => walk_at "m"
      case c5 => rw [hr]; exact h2
      case c8 => walk_at "m"
      case c6 => rw [Env.kindOf,hs]; decide
      case c7 =>
        intro D cenv hc hsc B j p hp
        obtain ⟨hj,rfl⟩ := rangeP_get hp
        have hk' := B.kind
        have hL' := B.hL
        have T' := TbX.ok g.T (D :: X)
        have hn' : NsOk [Str.ofString "k",Str.ofString "weighed"] := ⟨by decide,by decide,by decide⟩
        refine EV.sum2 T' hA.hd ?e1 B.kind B.glob B.bui (kind_in hsc (by decide)) (g.bSum.x _) ?e2 ?e3 EV.cint (by rw [weigh_length]; exact hsz) (fun _ _ => rfl) rfl
        case e1 => walk_at "m"
        case e2 => walk_at "m"
        case e3 => walk_at "m"
end
end
section
set_option autoImplicit false
noncomputable def statesL (ds : List Int) (rs : List Row) : List (List Row) := (List.range (ds.length + 1)).map fun i => after (ds.take i) rs
noncomputable abbrev statesP (ds : List Int) (rs : List Row) : PV := .list ((statesL ds rs).map rowsP)
noncomputable abbrev numbersP (ds : List Int) (rs : List Row) : PV := intsP ((statesL ds rs).map numb)
theorem mapIdx_at {α : Type} (xs : List α) (P f : α -> PV) : ((xs.map P).mapIdx fun (j : Nat) (_ : PV) => ((xs[j]?).map f).getD PV.none) = xs.map f := by
  apply List.ext_getElem?
  intro i
  rw [List.getElem?_mapIdx,List.getElem?_map,List.getElem?_map]
  cases h : xs[i]? with
  | none => rfl
  | some x => simp
theorem range_last {α : Type} (F : Nat -> α) (j : Nat) : ((List.range (j + 1)).map F).getLast? = some (F j) := by
  rw [List.range_succ,List.map_append,List.getLast?_append]; rfl
theorem range_snoc {α : Type} (F : Nat -> α) (j : Nat) : (List.range (j + 1)).map F ++ [F (j + 1)] = (List.range (j + 1 + 1)).map F := by
  rw [List.range_succ (n := j + 1),List.map_append]; rfl
theorem getD_some {xs : List Int} {j : Nat} {x : Int} (h : xs[j]? = some x) : xs.getD j 0 = x := by rw [List.getD_eq_getElem?_getD,h]; rfl
theorem take_some {xs : List Int} {j : Nat} {x : Int} (h : xs[j]? = some x) : xs.take (j + 1) = xs.take j ++ [x] := by rw [List.take_add_one,h]; rfl
section
variable {w : World} {N : Nat} {X : List Addr} {Tb : Heap -> Prop} {Top : Heap -> Prop} {A : Around} {env : Env} {hb : Heap} {C : Heap -> Prop}
theorem EV.compAt {α : Type} {xs : List α} {P f : α -> PV} {ns : List Str} {vals : List (Option PV)} (T : TbOk N [] Top) (O : BlkOk N hb env) {elt iter : Expr} {x : Str} {px pos : Pos} {scope : Scope} {fs : List Str} {fv : List (Option PV)}
    (src : SRC w N X (TbX Top X) A env (Cx N X hb env ns vals) iter (xs.map P)) (hz : xs.length <= sizeLine)
    (hkind : scope.kind = .function) (hcell : ∀ y ∈ scope.names,y.2 ≠ .cell) (hnames : ∀ y ∈ scope.names,y.2 = .local -> scope.names.lookup y.1 = some .local) (hx : scope.names.lookup x = some .local)
    (hfree : ∀ y ∈ scope.names,y.2 = .free -> y.1 ∈ fs) (F : Fs scope env ns vals fs fv) (hfo : okF fv = true) (hxn : (x :: fs).Nodup)
    (helt : ∀ (D : Addr) (cenv : Env) (hc : Heap),N <= D -> cenv.scope = relabel scope env -> BlkOk N hc cenv -> ∀ r ∈ xs,EV w N (TbX Top (D :: X)) A cenv (Cx N (D :: X) hc cenv (x :: fs) (some (P r) :: fv)) elt (IsP (D :: X) (f r)))
    (hs : ∀ x,foldedSetIterable iter env x = pure x := by intro _; rfl) :
    EV w N (TbX Top X) A env (Cx N X hb env ns vals) (.ListComp elt [⟨.Name x px,iter, [],0⟩] scope pos) (IsP X (.list (xs.map f))) := by
  rw [<- mapIdx_at xs P f]
  refine EV.compN T O src (by rw [List.length_map]; exact hz) hkind hcell hnames hx hfree F hfo hxn (fun D cenv hc hD hsc B j p hp => ?_) hs
  rw [List.getElem?_map] at hp
  cases hq : xs[j]? with
  | none => rw [hq] at hp; cases hp
  | some r =>
    rw [hq] at hp; cases hp
    exact helt D cenv hc hD hsc B r (List.mem_of_getElem? hq)
theorem EV.tolds (g : GY N Top) {d : Nat} (hA : AOk A d) (hd : 4 <= d) (O : BlkOk N hb env) {rs : List Row} {ns : List Str} {vals : List (Option PV)} {iter : Expr} {px pt pc pr pos : Pos} (hz : rs.length <= 6)
    (h : SRC w N X (TbX Top X) A env (Cx N X hb env ns vals) iter (rs.map fun r => .str r.str)) (hs : ∀ x,foldedSetIterable iter env x = pure x) :
    EV w N (TbX Top X) A env (Cx N X hb env ns vals) (.ListComp (.Call (.Name (Str.ofString "_law_told") pt) [.Name (Str.ofString "row") pr] [] pc) [⟨.Name (Str.ofString "row") px,iter, [],0⟩] { kind := .function,names := [(Str.ofString ".0", .local),(Str.ofString "row", .local),(Str.ofString "_law_told", .globalImplicit)],isGenerator := false,isCoroutine := false,more := [] } pos) (IsP X (intsP (nums rs))) := by
  refine EV.conv (EV.compAt (f := fun r => .int r.num) (fs := []) (fv := []) g.T O h (Nat.le_trans hz (Nat.le_of_ble_eq_true rfl)) rfl (by decide) (by decide) (by decide) (by decide) .nil rfl (by decide) (fun D cenv hc hD hsc B r hr => ?_) hs) ?_
  . have hk' := B.kind
    have hL' := B.hL
    have hn' : NsOk [Str.ofString "row"] := ⟨by decide,by decide,by decide⟩
    refine EV.callD ?d1 B.kind B.glob (kind_in hsc (by decide)) g.dTold (EVs.cons ?d3 ?d4 EVs.nil rfl) (row_told g.toGX r) (hA.less (by lia))
    case d1 => walk_at "m"
    case d3 => walk_at "m"
    case d4 => walk_at "m"
  . unfold intsP nums; rw [List.map_map]; rfl
theorem law_s3 (g : GY N Top) {d : Nat} (hA : AOk A d) (O : EnvOk N hb env) (hs : env.scope = scopeOf (stmtAt 44)) (hd : 10 <= d) {ns ws ds : List Int} {rs : List Row} (hr : rs.length <= 6) {s : Shared} {Q : Flow -> Shared -> Prop} {E : Value -> Shared -> Prop} (c : Cx N X hb env lawN [some (intsP ns),none,some (rowsP rs),some (intsP ws),some (intsP ds),none,none,none,none,none,none,some (.int (rs.length : Nat))] s.heap) (t : TbX Top X s.heap)
    (k : ∀ a h' tk,N <= a -> a ∉ X -> hb.get? a = none -> Cx N (a :: X) hb env lawN [some (intsP ns),none,some (rowsP rs),some (intsP ws),some (intsP ds),some (intsP (nums rs)),some (.own a ((List.range (0 + 1)).map fun i => rowsP (after (ds.take i) rs))),none,none,none,none,some (.int (rs.length : Nat))] h' -> TbX Top (a :: X) h' -> Q .next { s with heap := h',toks := tk }) :
    wpAny (MM w) A (exec (nthS (bodyOf (stmtAt 44)) 3) env) Q E s := by
  have T := TbX.ok g.T X
  have hn : NsOk lawN := ⟨by decide,by decide,by decide⟩
  have hkk := O.kind
  have hL := O.hL
  have kF : env.kindOf (Str.ofString "first") = some .local := by rw [Env.kindOf,hs]; decide
  have kS : env.kindOf (Str.ofString "states") = some .cell := by rw [Env.kindOf,hs]; decide
  refine own2 (ns := lawN) (vals := [some (intsP ns),none,some (rowsP rs),some (intsP ws),some (intsP ds),none,none,none,none,none,none,some (.int (rs.length : Nat))]) (i := 5) (j := 6) (p := intsP (nums rs)) (xs := [rowsP rs]) g.T O hA.hd ?a1 ?a2 ?a3 ?a4 hn (by rw [kF]; decide) (by rw [kS]; decide) rfl rfl rfl (swap_no2 kS) c t fun a h' tk h1 h2 h3 c' t' => k a h' tk h1 h2 h3 c' t'
  case a1 =>
    refine EV.tolds g hA (by lia) O.toBlkOk hr (SRC.list T hA.hd ?b1) (fun _ => rfl)
    case b1 => walk_at "m"
  case a2 =>
    refine FL.list T (EVs.cons ?b1 ?b2 EVs.nil rfl) (Nat.le_of_ble_eq_true rfl)
    case b1 => walk_at "m"
    case b2 => walk_at "m"
  case a3 => walk_at "m"
  case a4 => walk_at "m"
theorem law_s4 (g : GY N Top) {d : Nat} (hA : AOk A d) (O : EnvOk N hb env) (hs : env.scope = scopeOf (stmtAt 44)) (hd : 10 <= d) {ns ws ds : List Int} {rs : List Row} (hr : rs.length <= 6) (hds : ds.length <= 8) {a : Addr} (hba : hb.get? a = none) :
    SX w N (TbX Top X) A env (Wr env lawN X) (Cx N X hb env lawN [some (intsP ns),none,some (rowsP rs),some (intsP ws),some (intsP ds),some (intsP (nums rs)),some (.own a ((List.range (0 + 1)).map fun i => rowsP (after (ds.take i) rs))),none,none,none,none,some (.int (rs.length : Nat))]) (nthS (bodyOf (stmtAt 44)) 4) (Nxt (Cx N X hb env lawN [some (intsP ns),(if ds.length = 0 then none else some (.int (ds.getD (ds.length - 1) 0))),some (rowsP rs),some (intsP ws),some (intsP ds),some (intsP (nums rs)),some (.own a ((List.range (ds.length + 1)).map fun i => rowsP (after (ds.take i) rs))),none,none,none,none,some (.int (rs.length : Nat))])) := by
  have T := TbX.ok g.T X
  have hn : NsOk lawN := ⟨by decide,by decide,by decide⟩
  have hkk := O.kind
  have hL := O.hL
  have e0 : (ds.map PV.int).length = ds.length := List.length_map _
  have key := SX.forS (w := w) (A := A) (hb := hb) (env := env) (x := Str.ofString "x") (iter := .Name (Str.ofString "deeds") ⟨202,13,202,18⟩) (px := ⟨202,8,202,9⟩) (pos := ⟨202,4,203,66⟩) (body := (match nthS (bodyOf (stmtAt 44)) 4 with | .For _ _ b _ _ => b | _ => [])) (ns := lawN) (vals := [some (intsP ns),none,some (rowsP rs),some (intsP ws),some (intsP ds),some (intsP (nums rs)),some (.own a ((List.range (0 + 1)).map fun i => rowsP (after (ds.take i) rs))),none,none,none,none,some (.int (rs.length : Nat))]) (ps := ds.map PV.int) (i := 1) T O (V := fun j => [some (intsP ns),(if j = 0 then none else some (.int (ds.getD (j - 1) 0))),some (rowsP rs),some (intsP ws),some (intsP ds),some (intsP (nums rs)),some (.own a ((List.range (j + 1)).map fun i => rowsP (after (ds.take i) rs))),none,none,none,none,some (.int (rs.length : Nat))]) rfl ?v1 ?v2 hn ?v3 ?v4 (fun _ => rfl)
  . rw [e0] at key
    exact key
  case v1 =>
    refine SRC.list T hA.hd ?b1
    walk_at "m"
  case v2 => walk_at "m"
  case v3 => rw [Env.kindOf,hs]; decide
  case v4 =>
    intro j p hp
    rw [List.getElem?_map] at hp
    cases hq : ds[j]? with
    | none => rw [hq] at hp; cases hp
    | some x =>
      rw [hq] at hp; cases hp
      have hj : j < ds.length := (List.getElem?_eq_some_iff.mp hq).1
      have e1 : (if j + 1 = 0 then none else some (PV.int (ds.getD (j + 1 - 1) 0))) = some (PV.int x) := by rw [if_neg (Nat.succ_ne_zero j),Nat.add_sub_cancel,getD_some hq]
      show ST w N (TbX Top X) A env (Wr env lawN X) (Cx N X hb env lawN [some (intsP ns),some (.int x),some (rowsP rs),some (intsP ws),some (intsP ds),some (intsP (nums rs)),some (.own a ((List.range (j + 1)).map fun i => rowsP (after (ds.take i) rs))),none,none,none,none,some (.int (rs.length : Nat))]) (_ :: []) (Nxt (Cx N X hb env lawN [some (intsP ns),(if (j + 1) = 0 then none else some (.int (ds.getD ((j + 1) - 1) 0))),some (rowsP rs),some (intsP ws),some (intsP ds),some (intsP (nums rs)),some (.own a ((List.range (j + 1 + 1)).map fun i => rowsP (after (ds.take i) rs))),none,none,none,none,some (.int (rs.length : Nat))]))
      rw [e1]
      refine ST.last ?w1
      have hl : (after (ds.take j) rs).length <= 6 := by rw [after_length]; exact hr
      have eL := range_last (fun i => rowsP (after (ds.take i) rs)) j
      have ap := SX.append (w := w) (A := A) (hb := hb) (env := env) (x := Str.ofString "states") (p1 := ⟨203,8,203,14⟩) (apos := ⟨203,8,203,21⟩) (cpos := ⟨203,8,203,66⟩) (epos := ⟨203,8,203,66⟩) (e := (match nthS (bodyOf (stmtAt 44)) 4 with | .For _ _ (.Expr (.Call _ [e] _ _) _ :: _) _ _ => e | _ => default)) (ns := lawN) (vals := [some (intsP ns),some (.int x),some (rowsP rs),some (intsP ws),some (intsP ds),some (intsP (nums rs)),some (.own a ((List.range (j + 1)).map fun i => rowsP (after (ds.take i) rs))),none,none,none,none,some (.int (rs.length : Nat))]) (i := 6) (a := a) (p := rowsP (after (ds.take (j + 1)) rs)) T O.toBlkOk hn ?x1 rfl ?x2 hba ?x3 ?x4 ?x5 ?x6 ?x7 rfl rfl
      . have e2 := range_snoc (fun i => rowsP (after (ds.take i) rs)) j
        rw [e2] at ap
        exact ap
      case x1 => walk_at "m"
      case x2 => exact OthersOk.of rfl
      case x4 => rw [List.length_map,List.length_range]; exact Nat.le_trans (Nat.succ_le_succ (Nat.le_trans (Nat.le_of_lt hj) hds)) (Nat.le_of_ble_eq_true rfl)
      case x5 => unfold interactive; rw [O.kind]; rfl
      case x6 => rfl
      case x7 => rfl
      case x3 =>
        refine EV.conv (EV.compAt (P := fun r => .str r.str) (f := fun r => .str (Row.deed x r).str) (fs := [Str.ofString "x"]) (fv := [some (.int x)]) g.T O.toBlkOk (SRC.list T hA.hd (EV.ownLast (i := 6) O.toBlkOk hn ?y1 rfl eL ?y2 ?y3 trivial)) (Nat.le_trans hl (Nat.le_of_ble_eq_true rfl)) rfl (by decide) (by decide) (by decide) (by decide) (.cons (i := 1) (.tl .hd) rfl (by decide) ?y4 .nil) rfl (by decide) (fun D cenv hc hD hsc B r hr' => ?y5)) ?y6
        case y1 => walk_at "m"
        case y2 => rw [List.length_map,List.length_range]; lia
        case y3 => exact EV.neg EV.cint
        case y4 => rw [Env.kindOf,hs]; decide
        case y6 => rw [take_some hq,after_snoc]; unfold rowsP; rw [List.map_map]; rfl
        case y5 =>
          have hk' := B.kind
          have hL' := B.hL
          have hn' : NsOk [Str.ofString "row",Str.ofString "x"] := ⟨by decide,by decide,by decide⟩
          refine EV.callD ?d1 B.kind B.glob (kind_in hsc (by decide)) g.dSigned (EVs.cons ?d3 ?d4 (EVs.cons ?d5 ?d6 EVs.nil rfl) rfl) (row_deed g.toGX r x) (hA.less (by lia))
          case d1 => walk_at "m"
          case d3 => walk_at "m"
          case d4 => walk_at "m"
          case d5 => walk_at "m"
          case d6 => walk_at "m"
end
end
section
set_option autoImplicit false
structure EqD (n : Nat) (p : PV) : Prop where
  lay : (toD p).canLay0 = true
  dep : (toD p).depth <= n
theorem EqD.int (i : Int) : EqD 0 (.int i) := ⟨by simp [toD,PyData.canLay0],by simp [toD,PyData.depth]⟩
theorem EqD.list {n : Nat} {xs : List PV} (h : ∀ x ∈ xs,EqD n x) : EqD (n + 1) (.list xs) := by
  have key : ∀ xs : List PV,(∀ x ∈ xs,EqD n x) -> PyData.canLayAll0 (toDs xs) = true ∧ PyData.depthAll (toDs xs) <= n := by
    intro xs
    induction xs with
    | nil => intro _; exact ⟨by simp [toDs,PyData.canLayAll0],by simp [toDs,PyData.depthAll]⟩
    | cons x xs ih =>
      intro h
      have h1 := h x List.mem_cons_self
      have h2 := ih fun y hy => h y (List.mem_cons_of_mem _ hy)
      exact ⟨by rw [toDs,PyData.canLayAll0,h1.lay,h2.1]; rfl,by rw [toDs,PyData.depthAll]; exact Nat.max_le.mpr ⟨h1.dep,h2.2⟩⟩
  have h1 := key xs h
  exact ⟨by rw [toD,PyData.canLay0]; exact h1.1,by rw [toD,PyData.depth]; exact Nat.succ_le_succ h1.2⟩
theorem EqD.map {α : Type} {n : Nat} {xs : List α} {f : α -> PV} (h : ∀ x,EqD n (f x)) : EqD (n + 1) (.list (xs.map f)) := EqD.list fun x hx => by
  obtain ⟨y, _,rfl⟩ := List.mem_map.mp hx
  exact h y
theorem EqD.ints (xs : List Int) : EqD 1 (intsP xs) := EqD.map EqD.int
theorem EqD.ok {n : Nat} {p : PV} (h : EqD n p) (hn : n <= 64) : EqOk p := ⟨h.lay,Nat.le_trans h.dep hn⟩
theorem sg_lt {c : Nat} {b : Int} (hc : c < 128) : sg c b < 128 := by unfold sg; split <;> lia
theorem tri_lt {x S s : Nat} {b a : Int} (h1 : x < 128) (h2 : S < 128) (h3 : s < 128) : tri x S s b a < 128 := by unfold tri; (repeat' split) <;> lia
theorem ks_lt {k : Nat} (h : ks k) : k < 128 := by rcases h with rfl | rfl | rfl | rfl <;> decide
theorem EqD.row (r : Row) : EqD 0 (.str r.str) := by
  refine ⟨?_,by simp [toD,PyData.depth]⟩
  rw [toD,PyData.canLay0]
  have hk := ks_lt r.hk
  unfold PyData.strOk Row.str rowOf
  have a (c : Nat) (b : Int) (hc : c < 128) : sg c b < 1114112 := Nat.lt_trans (sg_lt hc) (by decide)
  have t (x S s : Nat) (b a : Int) (h1 : x < 128) (h2 : S < 128) (h3 : s < 128) : tri x S s b a < 1114112 := Nat.lt_trans (tri_lt h1 h2 h3) (by decide)
  simp [a,t]
  lia
theorem EqD.rows (rs : List Row) : EqD 1 (rowsP rs) := EqD.map EqD.row
structure GZ (N : Nat) (Top : Heap -> Prop) extends GY N Top where
  cdDig : Value
  cDig : Addr
  pDig : Addr
  dDigC : DefOkC Top (Str.ofString "_int2digits") 4 fDig cdDig
  nDig : Nest N Top cdDig (posOf (innerOf 4)) qInner4 cDig pDig
  tDiv : Tok
  gDiv : GlobIs Top (Str.ofString "_DIV_LIMIT") (.int 4000 tDiv)
  bRev : BuiltIs Top (Str.ofString "reversed") (.type "reversed")
  bEn : BuiltIs Top (Str.ofString "enumerate") (.type "enumerate")
  bIter : BuiltIs Top (Str.ofString "iter") (.builtin "iter")
  bSorted : BuiltIs Top (Str.ofString "sorted") (.builtin "sorted")
  tb : Addr
  gTab : GlobIs Top (Str.ofString "_filemode_table") (.ref tb)
  hTab : ∀ Y h,(∀ y ∈ Y,N <= y) -> Top h -> Is Y h (.ref tb) tabP
  fRed : Addr
  im : Addr
  td : Addr
  pmR : Value
  cdR : Value
  docR : Value
  gRed : GlobIs Top (Str.ofString "reduce") (.ref fRed)
  dRed : DefAt Top fRed (fdRed pmR cdR docR td)
  cRed : ∀ h,Top h -> h.CodeRec cdR (Str.ofString "reduce")
  hRed : ∀ h,Top h -> IsTup h td #[.ref im]
  gIm : GlobIs Top (Str.ofString "_initial_missing") (.ref im)
section
variable {w : World} {N : Nat} {X : List Addr} {Tb : Heap -> Prop} {Top : Heap -> Prop} {A : Around} {env : Env} {hb : Heap} {C : Heap -> Prop}
theorem row_digs (g : GZ N Top) (rs : List Row) (hl : rs.length <= 40) : FN w N X (TbX Top X) g.fDig (rs.length + 1) [.int (numb rs), .int 16] (intsP (nums rs)) := by
  have h := i2d_fn (w := w) (X := X) g.T g.dDigC g.nDig g.bLen (numb rs) (numb_nonneg rs) (by rw [ndig_numb]; exact hl)
  rw [digs_numb,ndig_numb] at h
  exact h
theorem law_if {hb : Heap} {ns : List Str} {vals : List (Option PV)} {l r : Expr} {b : List Stmt} {pos pos2 : Pos} {p q : PV} {n : Nat} {W : List Addr} (hL : N <= env.locals) (hl : EV w N Tb A env (Cx N X hb env ns vals) l (IsP X p)) (hr : EV w N Tb A env (Cx N X hb env ns vals) r (IsP X q)) (he : p = q) (hp : EqD n p) (hn : n <= 64) (hA : A.units < 5000)
    (hm : behindInMarks .NotEq r = false) : SX w N Tb A env W (Cx N X hb env ns vals) (.If (.Compare l [.NotEq] [r] pos) b [] pos2) (Nxt (Cx N X hb env ns vals)) :=
  SX.iff (c := false) (Cx.stb hL) (BV.cmp (Cx.stb hL) hl hr (CP.neSame he (hp.ok hn) (Nat.lt_of_lt_of_le (Nat.add_lt_add_right hA 64) (Nat.le_of_ble_eq_true rfl))) hm) (fun e => by cases e) fun _ => ST.nilN
theorem AOk.units {d : Nat} (h : AOk A d) : A.units < 5000 := by have := h.un; lia
theorem law_s5 (g : GY N Top) {d : Nat} (hA : AOk A d) (O : EnvOk N hb env) (hs : env.scope = scopeOf (stmtAt 44)) (hd : 10 <= d) {ns ws ds : List Int} {rs : List Row} {xl : Int} (hr : rs.length <= 6) {s : Shared} {Q : Flow -> Shared -> Prop} {E : Value -> Shared -> Prop} (c : Cx N X hb env lawN [some (intsP ns),some (.int xl),some (rowsP rs),some (intsP ws),some (intsP ds),some (intsP (nums rs)),some (statesP ds rs),none,none,none,none,some (.int (rs.length : Nat))] s.heap) (t : TbX Top X s.heap)
    (k : ∀ a h' tk,N <= a -> a ∉ X -> hb.get? a = none -> Cx N (a :: X) hb env lawN [some (intsP ns),some (.int (if 0 = 0 then xl else ds.getD (0 - 1) 0)),some (rowsP rs),some (intsP ws),some (intsP ds),some (intsP (nums rs)),some (statesP ds rs),some (.own a ((List.range (0 + 1)).map fun i => PV.int (numb (after (ds.take i) rs)))),none,none,none,some (.int (rs.length : Nat))] h' -> TbX Top (a :: X) h' -> Q .next { s with heap := h',toks := tk }) :
    wpAny (MM w) A (exec (nthS (bodyOf (stmtAt 44)) 5) env) Q E s := by
  have T := TbX.ok g.T X
  have hn : NsOk lawN := ⟨by decide,by decide,by decide⟩
  have hkk := O.kind
  have hL := O.hL
  have kS : env.kindOf (Str.ofString "numbers") = some .cell := by rw [Env.kindOf,hs]; decide
  refine own1 (ns := lawN) (vals := [some (intsP ns),some (.int xl),some (rowsP rs),some (intsP ws),some (intsP ds),some (intsP (nums rs)),some (statesP ds rs),none,none,none,none,some (.int (rs.length : Nat))]) (i := 7) (xs := [.int (numb rs)]) g.T O ?a1 ?a2 hn (by rw [kS]; decide) (swaps_no rfl) c t fun a h' tk h1 h2 h3 c' t' => k a h' tk h1 h2 h3 c' t'
  case a2 => walk_at "m"
  case a1 =>
    refine FL.list T (EVs.cons ?b1 (EV.callD ?b2 O.kind O.glob ?b3 g.dInt (EVs.cons ?b4 ?b5 (EVs.cons ?b6 EV.cint EVs.nil rfl) rfl) (row_num g rs (by lia)) (hA.less (by lia))) EVs.nil rfl) (Nat.le_of_ble_eq_true rfl)
    case b1 => walk_at "m"
    case b2 => walk_at "m"
    case b3 => rw [Env.kindOf,hs]; decide
    case b4 => walk_at "m"
    case b5 => walk_at "m"
    case b6 => walk_at "m"
theorem law_s6 (g : GY N Top) {d : Nat} (hA : AOk A d) (O : EnvOk N hb env) (hs : env.scope = scopeOf (stmtAt 44)) (hd : 10 <= d) {ns ws ds : List Int} {rs : List Row} {xl : Int} (hr : rs.length <= 6) (hds : ds.length <= 8) {a : Addr} (hba : hb.get? a = none) :
    SX w N (TbX Top X) A env (Wr env lawN X) (Cx N X hb env lawN [some (intsP ns),some (.int (if 0 = 0 then xl else ds.getD (0 - 1) 0)),some (rowsP rs),some (intsP ws),some (intsP ds),some (intsP (nums rs)),some (statesP ds rs),some (.own a ((List.range (0 + 1)).map fun i => PV.int (numb (after (ds.take i) rs)))),none,none,none,some (.int (rs.length : Nat))]) (nthS (bodyOf (stmtAt 44)) 6) (Nxt (Cx N X hb env lawN [some (intsP ns),some (.int (if ds.length = 0 then xl else ds.getD (ds.length - 1) 0)),some (rowsP rs),some (intsP ws),some (intsP ds),some (intsP (nums rs)),some (statesP ds rs),some (.own a ((List.range (ds.length + 1)).map fun i => PV.int (numb (after (ds.take i) rs)))),none,none,none,some (.int (rs.length : Nat))])) := by
  have T := TbX.ok g.T X
  have hn : NsOk lawN := ⟨by decide,by decide,by decide⟩
  have hkk := O.kind
  have hL := O.hL
  have e0 : (ds.map PV.int).length = ds.length := List.length_map _
  have key := SX.forS (w := w) (A := A) (hb := hb) (env := env) (x := Str.ofString "x") (iter := .Name (Str.ofString "deeds") ⟨205,13,205,18⟩) (px := ⟨205,8,205,9⟩) (pos := ⟨205,4,206,55⟩) (body := (match nthS (bodyOf (stmtAt 44)) 6 with | .For _ _ b _ _ => b | _ => [])) (ns := lawN) (vals := [some (intsP ns),some (.int (if 0 = 0 then xl else ds.getD (0 - 1) 0)),some (rowsP rs),some (intsP ws),some (intsP ds),some (intsP (nums rs)),some (statesP ds rs),some (.own a ((List.range (0 + 1)).map fun i => PV.int (numb (after (ds.take i) rs)))),none,none,none,some (.int (rs.length : Nat))]) (ps := ds.map PV.int) (i := 1) T O (V := fun j => [some (intsP ns),some (.int (if j = 0 then xl else ds.getD (j - 1) 0)),some (rowsP rs),some (intsP ws),some (intsP ds),some (intsP (nums rs)),some (statesP ds rs),some (.own a ((List.range (j + 1)).map fun i => PV.int (numb (after (ds.take i) rs)))),none,none,none,some (.int (rs.length : Nat))]) rfl ?v1 ?v2 hn ?v3 ?v4 (fun _ => rfl)
  . rw [e0] at key
    exact key
  case v1 =>
    refine SRC.list T hA.hd ?b1
    walk_at "m"
  case v2 => walk_at "m"
  case v3 => rw [Env.kindOf,hs]; decide
  case v4 =>
    intro j p hp
    rw [List.getElem?_map] at hp
    cases hq : ds[j]? with
    | none => rw [hq] at hp; cases hp
    | some x =>
      rw [hq] at hp; cases hp
      have hj : j < ds.length := (List.getElem?_eq_some_iff.mp hq).1
      have e1 : (if j + 1 = 0 then xl else ds.getD (j + 1 - 1) 0) = x := by rw [if_neg (Nat.succ_ne_zero j),Nat.add_sub_cancel,getD_some hq]
      show ST w N (TbX Top X) A env (Wr env lawN X) (Cx N X hb env lawN [some (intsP ns),some (.int x),some (rowsP rs),some (intsP ws),some (intsP ds),some (intsP (nums rs)),some (statesP ds rs),some (.own a ((List.range (j + 1)).map fun i => PV.int (numb (after (ds.take i) rs)))),none,none,none,some (.int (rs.length : Nat))]) (_ :: []) (Nxt (Cx N X hb env lawN [some (intsP ns),some (.int (if (j + 1) = 0 then xl else ds.getD ((j + 1) - 1) 0)),some (rowsP rs),some (intsP ws),some (intsP ds),some (intsP (nums rs)),some (statesP ds rs),some (.own a ((List.range ((j + 1) + 1)).map fun i => PV.int (numb (after (ds.take i) rs)))),none,none,none,some (.int (rs.length : Nat))]))
      rw [e1]
      refine ST.last ?w1
      have hl : (after (ds.take j) rs).length = rs.length := after_length _ _
      have hf := row_done (w := w) (X := X) g (after (ds.take j) rs) (by lia) x
      rw [<- after_snoc, <- take_some hq,hl] at hf
      have eL := range_last (fun i => PV.int (numb (after (ds.take i) rs))) j
      have ap := SX.append (w := w) (A := A) (hb := hb) (env := env) (x := Str.ofString "numbers") (p1 := ⟨206,8,206,15⟩) (apos := ⟨206,8,206,22⟩) (cpos := ⟨206,8,206,55⟩) (epos := ⟨206,8,206,55⟩) (e := (match nthS (bodyOf (stmtAt 44)) 6 with | .For _ _ (.Expr (.Call _ [e] _ _) _ :: _) _ _ => e | _ => default)) (ns := lawN) (vals := [some (intsP ns),some (.int x),some (rowsP rs),some (intsP ws),some (intsP ds),some (intsP (nums rs)),some (statesP ds rs),some (.own a ((List.range (j + 1)).map fun i => PV.int (numb (after (ds.take i) rs)))),none,none,none,some (.int (rs.length : Nat))]) (i := 7) (a := a) (p := PV.int (numb (after (ds.take (j + 1)) rs))) T O.toBlkOk hn ?x1 rfl ?x2 hba ?x3 ?x4 ?x5 ?x6 ?x7 rfl rfl
      . have e2 := range_snoc (fun i => PV.int (numb (after (ds.take i) rs))) j
        rw [e2] at ap
        exact ap
      case x1 => walk_at "m"
      case x2 => exact OthersOk.of rfl
      case x4 => rw [List.length_map,List.length_range]; exact Nat.le_trans (Nat.succ_le_succ (Nat.le_trans (Nat.le_of_lt hj) hds)) (Nat.le_of_ble_eq_true rfl)
      case x5 => unfold interactive; rw [O.kind]; rfl
      case x6 => rfl
      case x7 => rfl
      case x3 =>
        refine EV.callD ?y0 O.kind O.glob ?y7 g.dDone (EVs.cons ?y8 (EV.ownLast (i := 7) O.toBlkOk hn ?y1 rfl eL ?y2 ?y3 trivial) (EVs.cons ?y4 ?y5 (EVs.cons ?y6 ?y9 EVs.nil rfl) rfl) rfl) hf (hA.less (by lia))
        case y0 => walk_at "m"
        case y7 => rw [Env.kindOf,hs]; decide
        case y8 => walk_at "m"
        case y1 => walk_at "m"
        case y2 => rw [List.length_map,List.length_range]; lia
        case y3 => exact EV.neg EV.cint
        case y4 => walk_at "m"
        case y5 => walk_at "m"
        case y6 => walk_at "m"
        case y9 => walk_at "m"
theorem law_s7 (g : GZ N Top) {d : Nat} (hA : AOk A d) (O : EnvOk N hb env) (hs : env.scope = scopeOf (stmtAt 44)) (hd : 12 <= d) {ns ws ds : List Int} {rs : List Row} {xl : Int} (hr : rs.length <= 6) (hds : ds.length <= 8) : SX w N (TbX Top X) A env (Wr env lawN X) (Cx N X hb env lawN [some (intsP ns),some (.int xl),some (rowsP rs),some (intsP ws),some (intsP ds),some (intsP (nums rs)),some (statesP ds rs),some (numbersP ds rs),none,none,none,some (.int (rs.length : Nat))]) (nthS (bodyOf (stmtAt 44)) 7) (Nxt (Cx N X hb env lawN [some (intsP ns),some (.int xl),some (rowsP rs),some (intsP ws),some (intsP ds),some (intsP (nums rs)),some (statesP ds rs),some (numbersP ds rs),none,none,none,some (.int (rs.length : Nat))])) := by
  have T := TbX.ok g.T X
  have hn : NsOk lawN := ⟨by decide,by decide,by decide⟩
  have hkk := O.kind
  have hL := O.hL
  have hsl : (statesL ds rs).length <= sizeLine := by unfold statesL; rw [List.length_map,List.length_range]; exact Nat.le_trans (Nat.succ_le_succ hds) (Nat.le_of_ble_eq_true rfl)
  have hst : ∀ st ∈ statesL ds rs,st.length <= 6 := fun st h => by
    unfold statesL at h
    obtain ⟨i, _,rfl⟩ := List.mem_map.mp h
    rw [after_length]; exact hr
  refine law_if (p := .list ((statesL ds rs).map fun st => intsP (nums st))) (q := .list ((statesL ds rs).map fun st => intsP (nums st))) (n := 2) hL ?a1 ?a2 rfl (EqD.map fun st => EqD.ints _) (by decide) hA.units (by with_unfolding_all rfl)
  case a1 =>
    refine EV.compAt (xs := statesL ds rs) (P := fun st => .int (numb st)) (fs := []) (fv := []) g.T O.toBlkOk (SRC.list T hA.hd (EV.conv (p := numbersP ds rs) ?b1 ?b2)) hsl rfl (by decide) (by decide) (by decide) (by decide) .nil rfl (by decide) (fun D cenv hc hD hsc B st hst' => ?b3)
    case b1 => walk_at "m"
    case b2 => unfold numbersP intsP; rw [List.map_map]; rfl
    case b3 =>
      have hk' := B.kind
      have hL' := B.hL
      have hn' : NsOk [Str.ofString "number"] := ⟨by decide,by decide,by decide⟩
      have := hst st hst'
      refine EV.callD ?d1 B.kind B.glob (kind_in hsc (by decide)) g.dDig (EVs.cons ?d3 ?d4 (EVs.cons ?d5 EV.cint EVs.nil rfl) rfl) (row_digs g st (by lia)) (hA.less (by lia))
      case d1 => walk_at "m"
      case d3 => walk_at "m"
      case d4 => walk_at "m"
      case d5 => walk_at "m"
  case a2 =>
    refine EV.compAt (xs := statesL ds rs) (P := rowsP) (fs := []) (fv := []) g.T O.toBlkOk (SRC.list T hA.hd ?b1) hsl rfl (by decide) (by decide) (by decide) (by decide) .nil rfl (by decide) (fun D cenv hc hD hsc B st hst' => ?b3)
    case b1 => walk_at "m"
    case b3 =>
      have hk' := B.kind
      have hL' := B.hL
      have hn' : NsOk [Str.ofString "state"] := ⟨by decide,by decide,by decide⟩
      have T' := TbX.ok g.T (D :: X)
      refine EV.tolds g.toGY hA (by lia) B (hst st hst') (SRC.list T' hA.hd ?c1) (fun _ => rfl)
      walk_at "m"
end
end
section
set_option autoImplicit false
theorem bt0 : bt 0 := .inl rfl
theorem bt1 : bt 1 := .inr rfl
namespace Row
theorem and (r : Row) (c0 c1 c2 c3 c4 c5 c6 c7 c8 c9 c10 c11 : Int) (g0 : bt c0) (g1 : bt c1) (g2 : bt c2) (g3 : bt c3) (g4 : bt c4) (g5 : bt c5) (g6 : bt c6) (g7 : bt c7) (g8 : bt c8) (g9 : bt c9) (g10 : bt c10) (g11 : bt c11) :
    Builtin.bitAnd r.num (0 * 4096 + c0 * 2048 + c1 * 1024 + c2 * 512 + c3 * 256 + c4 * 128 + c5 * 64 + c6 * 32 + c7 * 16 + c8 * 8 + c9 * 4 + c10 * 2 + c11) =
      0 * 4096 + (if c0 = 1 then r.b0 else 0) * 2048 + (if c1 = 1 then r.b1 else 0) * 1024 + (if c2 = 1 then r.b2 else 0) * 512 + (if c3 = 1 then r.b3 else 0) * 256 + (if c4 = 1 then r.b4 else 0) * 128 + (if c5 = 1 then r.b5 else 0) * 64 + (if c6 = 1 then r.b6 else 0) * 32 + (if c7 = 1 then r.b7 else 0) * 16 + (if c8 = 1 then r.b8 else 0) * 8 + (if c9 = 1 then r.b9 else 0) * 4 + (if c10 = 1 then r.b10 else 0) * 2 + (if c11 = 1 then r.b11 else 0) := by
  have h := told_and (kn r.k) r.b0 r.b1 r.b2 r.b3 r.b4 r.b5 r.b6 r.b7 r.b8 r.b9 r.b10 r.b11 (by have := kn_pos r.k; lia) r.h0 r.h1 r.h2 r.h3 r.h4 r.h5 r.h6 r.h7 r.h8 r.h9 r.h10 r.h11 c0 c1 c2 c3 c4 c5 c6 c7 c8 c9 c10 c11 g0 g1 g2 g3 g4 g5 g6 g7 g8 g9 g10 g11
  rw [toldF12 0,toldF12 0,bt.and r.h0 g0,bt.and r.h1 g1,bt.and r.h2 g2,bt.and r.h3 g3,bt.and r.h4 g4,bt.and r.h5 g5,bt.and r.h6 g6,bt.and r.h7 g7,bt.and r.h8 g8,bt.and r.h9 g9,bt.and r.h10 g10,bt.and r.h11 g11] at h
  exact h
theorem and_kind (r : Row) : Builtin.bitAnd r.num 61440 = kn r.k * 4096 := by
  have h := toldF_and [r.b0,r.b1,r.b2,r.b3,r.b4,r.b5,r.b6,r.b7,r.b8,r.b9,r.b10,r.b11] [0,0,0,0,0,0,0,0,0,0,0,0] (kn r.k) 15
    (by simp only [List.mem_cons,List.not_mem_nil,or_false]; rintro b (rfl | rfl | rfl | rfl | rfl | rfl | rfl | rfl | rfl | rfl | rfl | rfl) <;> first | exact r.h0 | exact r.h1 | exact r.h2 | exact r.h3 | exact r.h4 | exact r.h5 | exact r.h6 | exact r.h7 | exact r.h8 | exact r.h9 | exact r.h10 | exact r.h11)
    (by intro c hc; simp only [List.mem_cons,List.not_mem_nil,or_false,or_self] at hc; rw [hc]; exact bt0) rfl (by have := kn_pos r.k; lia) (by decide)
  have e15 : Builtin.bitAnd (kn r.k) 15 = kn r.k := by
    unfold kn
    (repeat' split) <;> decide
  have z (b : Int) : Builtin.bitAnd b 0 = 0 := bitAnd_zero b
  rw [e15] at h
  have h2 : toldF (kn r.k) (List.zipWith Builtin.bitAnd [r.b0,r.b1,r.b2,r.b3,r.b4,r.b5,r.b6,r.b7,r.b8,r.b9,r.b10,r.b11] [0,0,0,0,0,0,0,0,0,0,0,0]) = kn r.k * 4096 := by
    simp only [List.zipWith,z]
    rw [toldF12]
    lia
  rw [h2] at h
  exact h
theorem and_low (r : Row) : Builtin.bitAnd r.num 4095 = toldF 0 r.bits :=
  (r.and 1 1 1 1 1 1 1 1 1 1 1 1 bt1 bt1 bt1 bt1 bt1 bt1 bt1 bt1 bt1 bt1 bt1 bt1).trans (toldF12 0 r.b0 r.b1 r.b2 r.b3 r.b4 r.b5 r.b6 r.b7 r.b8 r.b9 r.b10 r.b11).symm
theorem and_mode (r : Row) : Builtin.bitAnd r.num 4095 = r.num.fmod 4096 := by
  obtain ⟨l,e0,e,h1,h2⟩ := r.num_hi
  rw [Int.fmod_eq_emod_of_nonneg _ (by decide),r.and_low,e0,e]
  clear e0 e
  generalize kn r.k = k
  omega
theorem and_fmt (r : Row) : Builtin.bitAnd r.num 61440 = r.num - r.num.fmod 4096 := by
  obtain ⟨l,e0,e,h1,h2⟩ := r.num_hi
  rw [r.and_kind,Int.fmod_eq_emod_of_nonneg _ (by decide),e]
  clear e0 e
  generalize kn r.k = k
  omega
theorem pick_one (m : Int) (k : Nat) (hk : k ≠ 0) (p : Int) (c : Nat) (b : Int) (hb : bt b) (h : Builtin.bitAnd m p = b * p) (hp : p ≠ 0) : pickC m k [(p,c)] = sg c b := by
  unfold pickC hit sg
  simp only [List.find?,if_neg hk,h]
  rcases hb with rfl | rfl
  . have : (0 * p == p) = false := by rw [Int.zero_mul]; simpa using Ne.symm hp
    rw [this]; rfl
  . have : (1 * p == p) = true := by simp
    rw [this]; rfl
theorem pick_three (m : Int) (k : Nat) (hk : k ≠ 0) (p q : Int) (s S x : Nat) (a b : Int) (ha : bt a) (hb : bt b) (h1 : Builtin.bitAnd m (p + q) = a * p + b * q) (h2 : Builtin.bitAnd m p = a * p) (h3 : Builtin.bitAnd m q = b * q) (hp : 0 < p) (hq : 0 < q) :
    pickC m k [(p + q,s),(p,S),(q,x)] = tri x S s b a := by
  unfold pickC hit tri
  simp only [List.find?,if_neg hk,h1,h2,h3]
  rcases ha with rfl | rfl <;> rcases hb with rfl | rfl
  . have e1 : ((0 * p + 0 * q : Int) == p + q) = false := by simp; lia
    have e2 : ((0 * p : Int) == p) = false := by simp; lia
    have e3 : ((0 * q : Int) == q) = false := by simp; lia
    rw [e1,e2,e3]; rfl
  . have e1 : ((0 * p + 1 * q : Int) == p + q) = false := by simp; lia
    have e2 : ((0 * p : Int) == p) = false := by simp; lia
    have e3 : ((1 * q : Int) == q) = true := by simp
    rw [e1,e2,e3]; rfl
  . have e1 : ((1 * p + 0 * q : Int) == p + q) = false := by simp; lia
    have e2 : ((1 * p : Int) == p) = true := by simp
    rw [e1,e2]; rfl
  . have e1 : ((1 * p + 1 * q : Int) == p + q) = true := by simp
    rw [e1]; rfl
theorem file (r : Row) : (⟨(fileOf r.num).toArray⟩ : Str) = r.str := by
  have k0 : pickC r.num 0 [(40960,108),(49152,115),(32768,45),(24576,98),(16384,100),(8192,99),(4096,112)] = r.k := by
    unfold pickC hit
    simp only [if_true,r.and_kind]
    rcases r.hk with h | h | h | h <;> rw [h] <;> decide
  have s3 : Builtin.bitAnd r.num 256 = r.b3 * 256 := (r.and 0 0 0 1 0 0 0 0 0 0 0 0 bt0 bt0 bt0 bt1 bt0 bt0 bt0 bt0 bt0 bt0 bt0 bt0).trans (by show (0 : Int) + r.b3 * 256 + 0 + 0 + 0 + 0 + 0 + 0 + 0 + 0 = _; simp only [Int.zero_add,Int.add_zero,Int.mul_one])
  have s4 : Builtin.bitAnd r.num 128 = r.b4 * 128 := (r.and 0 0 0 0 1 0 0 0 0 0 0 0 bt0 bt0 bt0 bt0 bt1 bt0 bt0 bt0 bt0 bt0 bt0 bt0).trans (by show (0 : Int) + r.b4 * 128 + 0 + 0 + 0 + 0 + 0 + 0 + 0 = _; simp only [Int.zero_add,Int.add_zero,Int.mul_one])
  have s6 : Builtin.bitAnd r.num 32 = r.b6 * 32 := (r.and 0 0 0 0 0 0 1 0 0 0 0 0 bt0 bt0 bt0 bt0 bt0 bt0 bt1 bt0 bt0 bt0 bt0 bt0).trans (by show (0 : Int) + r.b6 * 32 + 0 + 0 + 0 + 0 + 0 = _; simp only [Int.zero_add,Int.add_zero,Int.mul_one])
  have s7 : Builtin.bitAnd r.num 16 = r.b7 * 16 := (r.and 0 0 0 0 0 0 0 1 0 0 0 0 bt0 bt0 bt0 bt0 bt0 bt0 bt0 bt1 bt0 bt0 bt0 bt0).trans (by show (0 : Int) + r.b7 * 16 + 0 + 0 + 0 + 0 = _; simp only [Int.zero_add,Int.add_zero,Int.mul_one])
  have s9 : Builtin.bitAnd r.num 4 = r.b9 * 4 := (r.and 0 0 0 0 0 0 0 0 0 1 0 0 bt0 bt0 bt0 bt0 bt0 bt0 bt0 bt0 bt0 bt1 bt0 bt0).trans (by show (0 : Int) + r.b9 * 4 + 0 + 0 = _; simp only [Int.zero_add,Int.add_zero,Int.mul_one])
  have s10 : Builtin.bitAnd r.num 2 = r.b10 * 2 := (r.and 0 0 0 0 0 0 0 0 0 0 1 0 bt0 bt0 bt0 bt0 bt0 bt0 bt0 bt0 bt0 bt0 bt1 bt0).trans (by show (0 : Int) + r.b10 * 2 + 0 = _; simp only [Int.zero_add,Int.add_zero,Int.mul_one])
  have s0 : Builtin.bitAnd r.num 2048 = r.b0 * 2048 := (r.and 1 0 0 0 0 0 0 0 0 0 0 0 bt1 bt0 bt0 bt0 bt0 bt0 bt0 bt0 bt0 bt0 bt0 bt0).trans (by show (0 : Int) + r.b0 * 2048 + 0 + 0 + 0 + 0 + 0 + 0 + 0 + 0 + 0 + 0 + 0 = _; simp only [Int.zero_add,Int.add_zero,Int.mul_one])
  have s5 : Builtin.bitAnd r.num 64 = r.b5 * 64 := (r.and 0 0 0 0 0 1 0 0 0 0 0 0 bt0 bt0 bt0 bt0 bt0 bt1 bt0 bt0 bt0 bt0 bt0 bt0).trans (by show (0 : Int) + r.b5 * 64 + 0 + 0 + 0 + 0 + 0 + 0 = _; simp only [Int.zero_add,Int.add_zero,Int.mul_one])
  have s05 : Builtin.bitAnd r.num (2048 + 64) = r.b0 * 2048 + r.b5 * 64 := (r.and 1 0 0 0 0 1 0 0 0 0 0 0 bt1 bt0 bt0 bt0 bt0 bt1 bt0 bt0 bt0 bt0 bt0 bt0).trans (by show (0 : Int) + r.b0 * 2048 + 0 + 0 + 0 + 0 + r.b5 * 64 + 0 + 0 + 0 + 0 + 0 + 0 = _; simp only [Int.zero_add,Int.add_zero,Int.mul_one])
  have s1 : Builtin.bitAnd r.num 1024 = r.b1 * 1024 := (r.and 0 1 0 0 0 0 0 0 0 0 0 0 bt0 bt1 bt0 bt0 bt0 bt0 bt0 bt0 bt0 bt0 bt0 bt0).trans (by show (0 : Int) + r.b1 * 1024 + 0 + 0 + 0 + 0 + 0 + 0 + 0 + 0 + 0 + 0 = _; simp only [Int.zero_add,Int.add_zero,Int.mul_one])
  have s8 : Builtin.bitAnd r.num 8 = r.b8 * 8 := (r.and 0 0 0 0 0 0 0 0 1 0 0 0 bt0 bt0 bt0 bt0 bt0 bt0 bt0 bt0 bt1 bt0 bt0 bt0).trans (by show (0 : Int) + r.b8 * 8 + 0 + 0 + 0 = _; simp only [Int.zero_add,Int.add_zero,Int.mul_one])
  have s18 : Builtin.bitAnd r.num (1024 + 8) = r.b1 * 1024 + r.b8 * 8 := (r.and 0 1 0 0 0 0 0 0 1 0 0 0 bt0 bt1 bt0 bt0 bt0 bt0 bt0 bt0 bt1 bt0 bt0 bt0).trans (by show (0 : Int) + r.b1 * 1024 + 0 + 0 + 0 + 0 + 0 + 0 + r.b8 * 8 + 0 + 0 + 0 = _; simp only [Int.zero_add,Int.add_zero,Int.mul_one])
  have s2 : Builtin.bitAnd r.num 512 = r.b2 * 512 := (r.and 0 0 1 0 0 0 0 0 0 0 0 0 bt0 bt0 bt1 bt0 bt0 bt0 bt0 bt0 bt0 bt0 bt0 bt0).trans (by show (0 : Int) + r.b2 * 512 + 0 + 0 + 0 + 0 + 0 + 0 + 0 + 0 + 0 = _; simp only [Int.zero_add,Int.add_zero,Int.mul_one])
  have s11 : Builtin.bitAnd r.num 1 = r.b11 * 1 := (r.and 0 0 0 0 0 0 0 0 0 0 0 1 bt0 bt0 bt0 bt0 bt0 bt0 bt0 bt0 bt0 bt0 bt0 bt1).trans (by show (0 : Int) + r.b11 = _; simp only [Int.zero_add,Int.add_zero,Int.mul_one])
  have s211 : Builtin.bitAnd r.num (512 + 1) = r.b2 * 512 + r.b11 * 1 := (r.and 0 0 1 0 0 0 0 0 0 0 0 1 bt0 bt0 bt1 bt0 bt0 bt0 bt0 bt0 bt0 bt0 bt0 bt1).trans (by show (0 : Int) + r.b2 * 512 + 0 + 0 + 0 + 0 + 0 + 0 + 0 + 0 + r.b11 = _; simp only [Int.zero_add,Int.add_zero,Int.mul_one])
  have e : fileOf r.num = [r.k,sg 114 r.b3,sg 119 r.b4,tri 120 83 115 r.b5 r.b0,sg 114 r.b6,sg 119 r.b7,tri 120 83 115 r.b8 r.b1,sg 114 r.b9,sg 119 r.b10,tri 120 84 116 r.b11 r.b2] := by
    rw [<- pick_one r.num 1 (by decide) 256 114 r.b3 r.h3 s3 (by decide), <- pick_one r.num 2 (by decide) 128 119 r.b4 r.h4 s4 (by decide), <- pick_three r.num 3 (by decide) 2048 64 115 83 120 r.b0 r.b5 r.h0 r.h5 s05 s0 s5 (by decide) (by decide),
      <- pick_one r.num 4 (by decide) 32 114 r.b6 r.h6 s6 (by decide), <- pick_one r.num 5 (by decide) 16 119 r.b7 r.h7 s7 (by decide), <- pick_three r.num 6 (by decide) 1024 8 115 83 120 r.b1 r.b8 r.h1 r.h8 s18 s1 s8 (by decide) (by decide),
      <- pick_one r.num 7 (by decide) 4 114 r.b9 r.h9 s9 (by decide), <- pick_one r.num 8 (by decide) 2 119 r.b10 r.h10 s10 (by decide), <- pick_three r.num 9 (by decide) 512 1 116 84 120 r.b2 r.b11 r.h2 r.h11 s211 s2 s11 (by decide) (by decide)]
    unfold fileOf fmTab
    simp only [List.mapIdx_cons,List.mapIdx_nil,k0]
    rfl
  rw [e]
  rfl
theorem bit6 (r : Row) : (r.num / 64) % 2 = r.b5 := by
  have h := bit_at (kn r.k) (r.bits.take 5) r.h5 (r.bits.drop 6) fun b hb => r.bits_bt b (List.mem_of_mem_drop hb)
  have p : (2 : Int) ^ (r.bits.drop 6).length = 64 := show (2 : Int) ^ 6 = 64 by decide
  rw [p] at h
  exact h
theorem bit1 (r : Row) : (r.num / 2) % 2 = r.b10 := by
  have h := bit_at (kn r.k) (r.bits.take 10) r.h10 (r.bits.drop 11) fun b hb => r.bits_bt b (List.mem_of_mem_drop hb)
  have p : (2 : Int) ^ (r.bits.drop 11).length = 2 := show (2 : Int) ^ 1 = 2 by decide
  rw [p] at h
  exact h
theorem bit9 (r : Row) : (r.num / 512) % 2 = r.b2 := by
  have h := bit_at (kn r.k) (r.bits.take 2) r.h2 (r.bits.drop 3) fun b hb => r.bits_bt b (List.mem_of_mem_drop hb)
  have p : (2 : Int) ^ (r.bits.drop 3).length = 512 := show (2 : Int) ^ 9 = 512 by decide
  rw [p] at h
  exact h
end Row
theorem bitAnd_one {d : Int} (h : 0 <= d) : Builtin.bitAnd d 1 = d % 2 := by
  obtain ⟨n,rfl⟩ : ∃ n : Nat,d = (n : Int) := ⟨d.toNat,by lia⟩
  rw [show (1 : Int) = ((1 : Nat) : Int) from rfl,and_nat,Nat.and_one_is_mod]
  lia
theorem bits_all {P Q : Int} (hP : 0 < P) (hQ : 0 < Q) (hPQ : 65536 = P * (2 * Q)) : ∀ ts : List Int,Dig ts -> Builtin.bitAnd (d2i ts / P) (d2i (List.replicate ts.length 1)) = d2i (ts.map fun t => (t / P) % 2)
  | [], _ => by simp [d2i]; exact bitAnd_zero 0
  | t :: ts,h => by
    obtain ⟨h3,h4⟩ := h t List.mem_cons_self
    have hd : Dig ts := fun d hd => h d (List.mem_cons_of_mem _ hd)
    have ih := bits_all hP hQ hPQ ts hd
    have hb := (d2i_bound ts hd).1
    have hm := (d2i_bound (List.replicate ts.length 1) fun d hd => by rw [List.eq_of_mem_replicate hd]; decide).1
    rw [List.length_cons,List.replicate_succ,d2i,d2i,List.map_cons,d2i, <- ih]
    generalize d2i ts = D at *
    generalize d2i (List.replicate ts.length 1) = M at *
    have hy : (t + D * 65536) / P = t / P + (2 * Q) * D := by
      rw [hPQ,show t + D * (P * (2 * Q)) = t + P * (2 * Q * D) by rw [Int.mul_comm D,Int.mul_assoc],Int.add_mul_ediv_left _ _ (by lia)]
    have hv : (t / P + (2 * Q) * D) / 65536 = D / P := by
      have e : (t + D * 65536) / P / 65536 = (t + D * 65536) / 65536 / P := by rw [Int.ediv_ediv_of_nonneg (by lia),Int.ediv_ediv_of_nonneg (by decide),Int.mul_comm P 65536]
      rw [hy] at e
      rw [e]
      congr 1
      lia
    have hr : ((t / P + (2 * Q) * D) % 65536) % 2 = (t / P) % 2 := by
      have e1 : 2 * Q * D = 2 * (Q * D) := Int.mul_assoc ..
      rw [e1]
      generalize Q * D = z
      lia
    have hyy : t / P + (2 * Q) * D = (t / P + (2 * Q) * D) % 65536 + ((t / P + (2 * Q) * D) / 65536) * 2 ^ 16 := by
      generalize t / P + (2 * Q) * D = y
      show y = y % 65536 + y / 65536 * 65536
      lia
    have hDP : 0 <= D / P := Int.ediv_nonneg hb (by lia)
    rw [hy,hyy,hv,show M * 65536 = M * 2 ^ 16 from rfl,and_split 16 (by lia) (by show _ < 65536; lia) (by decide) (by decide) hDP hm,bitAnd_one (by lia),hr]
    rfl
theorem digs_zero : ∀ k : Nat,(digs k 0).sum = 0
  | 0 => rfl
  | k + 1 => by
    have := digs_zero k
    simpa [digs] using this
theorem digs_sum {ts : List Int} (h : Dig ts) : (digs (ndig (d2i ts)) (d2i ts)).sum = ts.sum := by
  have hb := d2i_bound ts h
  have hn : ndig (d2i ts) <= ts.length := by
    have := intBits_lt hb.1 hb.2
    unfold ndig
    lia
  have h1 := digs_d2i ts h
  have hlt := lt_bits hb.1
  have h2 := digs_split (ndig (d2i ts)) ts.length (d2i ts) hn
  rw [Int.emod_eq_of_lt hb.1 hlt,Int.ediv_eq_zero_of_lt hb.1 hlt,h1] at h2
  have h3 := congrArg List.sum h2
  rw [List.sum_append,digs_zero,Int.add_zero] at h3
  exact h3.symm
end
section
set_option autoImplicit false
theorem mapIdx_at2 {α : Type} (xs : List α) (P f : α -> PV) : ((xs.map P).mapIdx fun (j : Nat) (_ : PV) => ((xs[j]?).map f).getD PV.none) = xs.map f := by
  apply List.ext_getElem?
  intro i
  rw [List.getElem?_mapIdx,List.getElem?_map,List.getElem?_map]
  cases h : xs[i]? with
  | none => rfl
  | some x => simp
section
variable {w : World} {N : Nat} {X : List Addr} {Tb : Heap -> Prop} {Top : Heap -> Prop} {A : Around} {env : Env} {hb : Heap} {C : Heap -> Prop}
theorem storeC {ns : List Str} {vals : List (Option PV)} (T : TbOk N X Tb) (O : BlkOk N hb env) {x : Str} {a : Addr} {i : Nat} {p : PV} {v : Value} {s : Shared} {Q : Unit -> Shared -> Prop} {E : Value -> Shared -> Prop} (hx : Ix ns x i) (hn : ns.Nodup) (kx : env.kindOf x = some .cell) (hac : env.cells.lookup x = some a)
    (hba : hb.objs.size <= a) (hap : ∀ y ∈ ns,y ≠ x -> env.cells.lookup y ≠ some a)
    (c : Cx N X hb env ns vals s.heap) (hT : Tb s.heap) (iv : Is X s.heap v p)
    (k : ∀ h' tk,Fx N (Wr env ns []) s.heap h' -> Tb h' -> Cx N X hb env ns (vals.set i (some p)) h' -> Q () { s with heap := h',toks := tk }) : wpAny (MM w) A (storeName env x v) Q E s := by
  obtain ⟨u,su,hu⟩ := c.slot i x hx.get
  have key : ∀ (h' : Heap) (a : Addr),hb.objs.size <= a -> a ∈ Wr env ns [] -> Heap.SameBut a s.heap h' -> (∃ o,s.heap.get? a = some o ∧ NotCode o) -> (∀ o,s.heap.get? a = some o -> ∀ xs n,o.data ≠ .seq xs n) ->
      (∃ m,h'.Ns env.locals m) -> Slot N env h' x (some v) -> (∀ y ov,y ∈ ns -> y ≠ x -> Slot N env s.heap y ov -> Slot N env h' y ov) -> ∀ tk,Q () { s with heap := h',toks := tk } := by
    intro h' a ha hm hs ⟨oa,hoa,hna⟩ hq hns hsl hoth tk
    have kp : ∀ b o,b ≠ a -> s.heap.get? b = some o -> h'.get? b = some o := fun b o hb' e => (hs.2 b hb').trans e
    have hz : s.heap.objs.size <= h'.objs.size := by rw [hs.1]; exact Nat.le_refl _
    refine k h' tk ⟨fun b o hb' e _ => kp b o (fun e' => hb' (e' ▸ hm)) e,hz⟩ (T.upd _ _ a oa (Nat.le_trans O.base ha) hoa hna kp hz hT) ⟨?_,hns,fun j y hy => ?_⟩
    . exact ⟨fun b o e n => kp b o (Nat.ne_of_lt (Nat.lt_of_lt_of_le (Heap.lt_size e) ha)) (c.base.kp b o e n),Nat.le_trans c.base.sz hz⟩
    . by_cases hxy : y = x
      . subst hxy
        have hij : i = j := nodup_get hn hx.get hy
        subst hij
        refine ⟨_,hsl,fun q hq' => ⟨v,rfl, ?_⟩⟩
        have hlt : i < vals.length ∨ ¬ i < vals.length := Nat.lt_or_ge _ _ |>.imp id Nat.not_lt.mpr
        rcases hlt with hlt | hlt
        . rw [List.getElem?_set_self hlt] at hq'; cases hq'; exact .inl (iv.but kp (.inr hq))
        . rw [List.getElem?_eq_none (by rw [List.length_set]; lia)] at hq'; cases hq'
      . obtain ⟨uy,sy,hy'⟩ := c.slot j y hy
        refine ⟨uy,hoth y uy (List.mem_of_getElem? hy) hxy sy,fun q hq' => ?_⟩
        have hij : i ≠ j := by rintro rfl; rw [hx.get] at hy; cases hy; exact hxy rfl
        rw [List.getElem?_set_ne hij] at hq'
        obtain ⟨v',e',i'⟩ := hy' q hq'
        exact ⟨v',e',i'.but kp hq⟩
  rcases su with ⟨kx',m,hm,e⟩ | ⟨_,a',ha,hN,hcell⟩
  . rw [kx] at kx'; cases kx'
  . rw [hac] at ha
    cases ha
    refine wpAny_storeName_cell O.kind kx hac hcell fun h' hc' hs' => ?_
    obtain ⟨m,hm⟩ := c.nsx
    have hLc : a ≠ env.locals := ns_ne_cell hm hcell
    refine key h' a hba (by simp only [Wr,List.mem_cons,List.mem_append,List.mem_filterMap]; exact .inr (.inl ⟨x,List.mem_of_getElem? hx.get,by rw [if_pos kx]; exact hac⟩)) hs' ?_ (cell_noseq hcell) ⟨_,hm.sameBut hs' (Ne.symm hLc)⟩ (.inr ⟨.inl kx,a,hac,hN,hc'⟩) (fun y ov hym hy sy => ?_) s.toks
    . obtain ⟨o,ho,hd⟩ := hcell
      exact ⟨o,ho, .cell hd⟩
    . rcases sy with ⟨ky,m2,hm2,e2⟩ | ⟨ky,b,hb',hNb,hcb⟩
      . exact .inl ⟨ky,m2,hm2.sameBut hs' (Ne.symm hLc),e2⟩
      . exact .inr ⟨ky,b,hb',hNb,hcb.sameBut hs' (fun e => hap y hym hy (e ▸ hb'))⟩
theorem EV.compG {ns : List Str} {vals : List (Option PV)} (T : TbOk N [] Top) (O : BlkOk N hb env) {elt iter tg : Expr} {pos : Pos} {scope : Scope} {ps : List PV} {f : Nat -> PV -> PV} {tn fs : List Str} {fv : List (Option PV)} {U : Nat -> List (Option PV)}
    (src : SRC w N X (TbX Top X) A env (Cx N X hb env ns vals) iter ps) (hz : ps.length <= sizeLine)
    (hkind : scope.kind = .function) (hcell : ∀ y ∈ scope.names,y.2 = .cell -> y.1 ∈ tn ∧ y.1 ∉ fs) (hnames : ∀ y ∈ scope.names,y.2 = .local -> scope.names.lookup y.1 = some .local) (hx : ∀ x ∈ tn,scope.names.lookup x = some .local ∨ scope.names.lookup x = some .cell)
    (hfree : ∀ y ∈ scope.names,y.2 = .free -> y.1 ∈ fs) (F : Fs scope env ns vals fs fv) (hfo : okF fv = true) (hxn : (tn ++ fs).Nodup) (hU : ∀ j,(U j).length = tn.length)
    (helt : ∀ (D : Addr) (cenv : Env) (hc : Heap),N <= D -> cenv.scope = relabel scope env -> BlkOk N hc cenv -> ∀ j p,ps[j]? = some p -> EV w N (TbX Top (D :: X)) A cenv (Cx N (D :: X) hc cenv (tn ++ fs) (U j ++ fv)) elt (IsP (D :: X) (f j p)))
    (hasg : ∀ (D : Addr) (cenv : Env) (hc : Heap),N <= D -> cenv.scope = relabel scope env -> BlkOk N hc cenv -> (∀ x ∈ tn, ∀ c,cenv.cells.lookup x = some c -> cenv.kindOf x = some .cell -> hc.objs.size <= c ∧ ∀ y ∈ fs,cenv.cells.lookup y ≠ some c) ->
      ∀ j p,ps[j]? = some p -> ∀ (s : Shared) (v : Value) (Q : Unit -> Shared -> Prop) (E : Value -> Shared -> Prop),Cx N (D :: X) hc cenv (tn ++ fs) (tn.map (fun _ => none) ++ fv) s.heap -> TbX Top (D :: X) s.heap -> Is (D :: X) s.heap v p ->
      (∀ h' tk,Fx N (Wr cenv (tn ++ fs) []) s.heap h' -> TbX Top (D :: X) h' -> Cx N (D :: X) hc cenv (tn ++ fs) (U j ++ fv) h' -> Q () { s with heap := h',toks := tk }) -> wpAny (MM w) A (assign tg cenv v) Q E s)
    (hto : ∀ I v s (Q : Unit -> Shared -> Prop) (E : Value -> Shared -> Prop),(∃ o nm,s.heap.get? I = some o ∧ o.cls = .type nm ∧ pairIters.contains nm = false) -> Q () s -> wpAny (MM w) A (letOwnedTupleGo tg (.ref I) v) Q E s)
    (hs : ∀ x,foldedSetIterable iter env x = pure x) :
    EV w N (TbX Top X) A env (Cx N X hb env ns vals) (.ListComp elt [⟨tg,iter, [],0⟩] scope pos) (IsP X (.list (ps.mapIdx f))) := by
  constructor
  intro s Q E c t k
  rw [eval_ListComp]
  refine comp_coreG (use := none) T O src hz hkind hcell hnames hx hfree F hfo hxn hU helt hasg hto hs s Q E c t fun D CC h₃ t₃ n₃ T₃ i₃ hC hD hDC ⟨m₃,hm₃⟩ => ⟨m₃,hm₃,fun h₄ hs₄ => ?_⟩
  have kp₄ : ∀ b o,b ≠ CC -> h₃.get? b = some o -> h₄.get? b = some o := fun b o hb e => (hs₄.2 b hb).trans e
  have z₄ : h₃.objs.size <= h₄.objs.size := by rw [hs₄.1]; exact Nat.le_refl _
  refine k (.ref D) h₄ t₃ ⟨fun b o e n => kp₄ b o (Nat.ne_of_lt (Nat.lt_of_lt_of_le (Heap.lt_size e) hC)) (n₃.kp b o e n),Nat.le_trans n₃.sz z₄⟩ ?_ (i₃.but kp₄ (.inr (ns_noseq hm₃)))
  obtain ⟨o',es,ep,ho',hd',r⟩ := id hm₃
  exact (TbX.ok T X).upd _ _ CC o' (Nat.le_trans ((TbX.ok T X).size _ t) hC) ho' (.dict hd') kp₄ z₄ T₃
theorem EV.compCell {α : Type} {xs : List α} {P f : α -> PV} {ns : List Str} {vals : List (Option PV)} (T : TbOk N [] Top) (O : BlkOk N hb env) {elt iter : Expr} {x : Str} {px pos : Pos} {scope : Scope} {fs : List Str} {fv : List (Option PV)}
    (src : SRC w N X (TbX Top X) A env (Cx N X hb env ns vals) iter (xs.map P)) (hz : xs.length <= sizeLine)
    (hkind : scope.kind = .function) (hcell : ∀ y ∈ scope.names,y.2 = .cell -> y.1 ∈ [x] ∧ y.1 ∉ fs) (hnames : ∀ y ∈ scope.names,y.2 = .local -> scope.names.lookup y.1 = some .local) (hx : scope.names.lookup x = some .cell)
    (hfree : ∀ y ∈ scope.names,y.2 = .free -> y.1 ∈ fs) (F : Fs scope env ns vals fs fv) (hfo : okF fv = true) (hxn : (x :: fs).Nodup)
    (helt : ∀ (D : Addr) (cenv : Env) (hc : Heap),N <= D -> cenv.scope = relabel scope env -> BlkOk N hc cenv -> ∀ r ∈ xs,EV w N (TbX Top (D :: X)) A cenv (Cx N (D :: X) hc cenv (x :: fs) (some (P r) :: fv)) elt (IsP (D :: X) (f r)))
    (hs : ∀ x,foldedSetIterable iter env x = pure x := by intro _; rfl) :
    EV w N (TbX Top X) A env (Cx N X hb env ns vals) (.ListComp elt [⟨.Name x px,iter, [],0⟩] scope pos) (IsP X (.list (xs.map f))) := by
  rw [<- mapIdx_at2 xs P f]
  refine EV.compG (tn := [x]) (U := fun j => [(xs[j]?).map P]) T O src (by rw [List.length_map]; exact hz) hkind hcell hnames (fun y hy => by rw [List.mem_singleton] at hy; subst hy; exact .inr hx) hfree F hfo hxn (fun j => rfl) (fun D cenv hc hD hsc B j p hp => ?_) (fun D cenv hc hD hsc B hap j p hp s v Q E c t iv k => ?_) (fun _ _ _ _ _ _ q => wpAny_pure q) hs
  . rw [List.getElem?_map] at hp
    cases hq : xs[j]? with
    | none => rw [hq] at hp; cases hp
    | some r =>
      rw [hq] at hp; cases hp
      exact helt D cenv hc hD hsc B r (List.mem_of_getElem? hq)
  . have kx : cenv.kindOf x = some .cell := by rw [Env.kindOf,hsc]; exact relabel_other (by decide) hx
    obtain ⟨u,su, _⟩ := c.slot 0 x rfl
    rcases su with ⟨kk, _⟩ | ⟨_,a,ha,hN,hcl⟩
    . rw [kx] at kk; cases kk
    obtain ⟨h1,h2⟩ := hap x List.mem_cons_self a ha kx
    rw [List.getElem?_map] at hp
    cases hq : xs[j]? with
    | none => rw [hq] at hp; cases hp
    | some r =>
      rw [hq] at hp; cases hp
      refine wpAny_assign_Name (storeC (TbX.ok T _) B (i := 0) (ns := x :: fs) (vals := none :: fv) (p := P r) .hd hxn kx ha h1 (fun y hy hne => h2 y ?_) c t iv fun h' tk fx t' c' => k h' tk fx t' ?_)
      . rcases List.mem_cons.mp hy with e | e
        . exact absurd e hne
        . exact e
      . show Cx _ _ _ _ _ (((xs[j]?).map P) :: fv) h'
        rw [hq]
        exact c'
end
end
section
set_option autoImplicit false
noncomputable def kb (k : Int) (r : Row) : Int := if k = 6 then r.b5 else if k = 1 then r.b10 else r.b2
noncomputable def countsL (rs : List Row) : List Int := ([6,1,9] : List Int).map fun k => (rs.map (kb k)).sum
theorem kb_bt (k : Int) (r : Row) : bt (kb k r) := by unfold kb; (repeat' split) <;> first | exact r.h5 | exact r.h10 | exact r.h2
theorem kb_dig (k : Int) (rs : List Row) : Dig (rs.map (kb k)) := fun d hd => by
  obtain ⟨r, _,rfl⟩ := List.mem_map.mp hd
  have := Row.bt_range (kb_bt k r)
  omega
theorem kb_sum (k : Int) : ∀ rs : List Row,0 <= (rs.map (kb k)).sum ∧ (rs.map (kb k)).sum <= rs.length
  | [] => by simp
  | r :: rs => by
    have h := kb_sum k rs
    have h2 := Row.bt_range (kb_bt k r)
    rw [List.map_cons,List.sum_cons,List.length_cons]
    omega
theorem kb_num {k : Int} (hk : k = 6 ∨ k = 1 ∨ k = 9) (rs : List Row) : Builtin.bitAnd ((numb rs).fdiv (2 ^ k.toNat)) (d2i (List.replicate rs.length 1)) = d2i (rs.map (kb k)) := by
  have hl : (nums rs).length = rs.length := by simp [nums]
  have hp : (0 : Int) <= 2 ^ k.toNat := Int.le_of_lt (Int.pow_pos (by decide))
  rw [Int.fdiv_eq_ediv_of_nonneg _ hp, <- hl]
  have hm : ∀ {P : Int},(∀ r : Row,r.num / P % 2 = kb k r) -> d2i ((nums rs).map fun t => t / P % 2) = d2i (rs.map (kb k)) := fun h => by
    unfold nums
    rw [List.map_map]
    congr 1
    exact List.map_congr_left fun r _ => h r
  unfold numb
  rcases hk with rfl | rfl | rfl
  . exact (bits_all (P := 64) (Q := 512) (by decide) (by decide) (by decide) _ (nums_dig rs)).trans (hm fun r => r.bit6)
  . exact (bits_all (P := 2) (Q := 16384) (by decide) (by decide) (by decide) _ (nums_dig rs)).trans (hm fun r => r.bit1)
  . exact (bits_all (P := 512) (Q := 64) (by decide) (by decide) (by decide) _ (nums_dig rs)).trans (hm fun r => r.bit9)
theorem states_last (ds : List Int) (rs : List Row) : (statesL ds rs).getLast? = some (after ds rs) := by
  unfold statesL
  rw [range_last,List.take_length]
theorem states_head (ds : List Int) (rs : List Row) : (statesL ds rs)[0]? = some rs := by
  unfold statesL
  rw [List.getElem?_map,List.getElem?_range (Nat.succ_pos _)]
  rfl
theorem getLast_map {α β : Type} (f : α -> β) (xs : List α) : (xs.map f).getLast? = xs.getLast?.map f := by simp
section
variable {w : World} {N : Nat} {X : List Addr} {Tb : Heap -> Prop} {Top : Heap -> Prop} {A : Around} {env : Env} {hb : Heap} {C : Heap -> Prop}
theorem row_count (g : GZ N Top) {k : Int} (hk : k = 6 ∨ k = 1 ∨ k = 9) (rs : List Row) (hl : rs.length <= 6) : ∃ q : Int,FN w N X (TbX Top X) g.fDivmod 9 [.int (d2i (rs.map (kb k))), .int 65535] (.tup [.int q, .int (rs.map (kb k)).sum]) := by
  have hd := kb_dig k rs
  have hb := d2i_bound _ hd
  have hn : ndig (d2i (rs.map (kb k))) <= 6 := by
    have := intBits_lt hb.1 hb.2
    unfold ndig
    rw [List.length_map] at this
    lia
  obtain ⟨q,F⟩ := pos_fn (w := w) (X := X) g.toGY g.gDiv g.bRev (a := d2i (rs.map (kb k))) (m := ndig (d2i (rs.map (kb k)))) (by omega) fun Y => i2d_fn g.T g.dDigC g.nDig g.bLen _ hb.1 (by omega)
  refine ⟨q, ?_⟩
  have hs := kb_sum k rs
  rw [digs_sum hd,Int.emod_eq_of_lt hs.1 (by omega)] at F
  have G := divmod_fn g.toGX hb.1 (by decide) F
  exact fun A hA => G A (hA.less (by omega))
theorem row_mode (g : GX N Top) (r : Row) : FN w N X (TbX Top X) g.fMode 1 [.int r.num] (.int (r.num.fmod 4096)) := by rw [<- r.and_mode]; exact mode_fn g r.num
theorem row_fmt (g : GX N Top) (r : Row) : FN w N X (TbX Top X) g.fFmt 1 [.int r.num] (.int (r.num - r.num.fmod 4096)) := by rw [<- r.and_fmt]; exact fmt_fn g r.num
theorem row_file (g : GZ N Top) (hX : ∀ x ∈ X,N <= x) (r : Row) : FN w N X (TbX Top X) g.fFile 2 [.int r.num] (.str r.str) := by rw [<- r.file]; exact file_fn g.toGX g.gTab g.hTab g.bEn hX r.num
theorem EV.lastNum {ns : List Str} {vals : List (Option PV)} {i : Nat} {ds : List Int} {rs : List Row} {p1 p2 p3 p4 : Pos} {kk : Nat} (hds : ds.length <= 8) (hk : env.scope.kind = .function) (hL : N <= env.locals) (hn : NsOk ns) (hx : Ix ns (Str.ofString "numbers") i) (hv : vals[i]? = some (some (numbersP ds rs))) :
    EV w N Tb A env (Cx N X hb env ns vals) (.Subscript (.Name (Str.ofString "numbers") p1) (.UnaryOp .USub (.Constant (.int 1) kk p2) p3) p4) (IsP X (.int (numb (after ds rs)))) :=
  EV.sub (Cx.stb hL) (EV.name hk hn hx hv) (EV.neg EV.cint) (IT.last (by rw [List.length_map,List.length_map]; unfold statesL; rw [List.length_map,List.length_range]; omega) (by rw [getLast_map,getLast_map,states_last]; rfl)) trivial
theorem EV.lastSt {ns : List Str} {vals : List (Option PV)} {i : Nat} {ds : List Int} {rs : List Row} {p1 p2 p3 p4 : Pos} {kk : Nat} (hds : ds.length <= 8) (hk : env.scope.kind = .function) (hL : N <= env.locals) (hn : NsOk ns) (hx : Ix ns (Str.ofString "states") i) (hv : vals[i]? = some (some (statesP ds rs))) :
    EV w N Tb A env (Cx N X hb env ns vals) (.Subscript (.Name (Str.ofString "states") p1) (.UnaryOp .USub (.Constant (.int 1) kk p2) p3) p4) (IsP X (rowsP (after ds rs))) :=
  EV.sub (Cx.stb hL) (EV.name hk hn hx hv) (EV.neg EV.cint) (IT.last (by rw [List.length_map]; unfold statesL; rw [List.length_map,List.length_range]; omega) (by rw [getLast_map,states_last]; rfl)) trivial
theorem law_s9 (g : GZ N Top) {d : Nat} (hA : AOk A d) (O : EnvOk N hb env) (hs : env.scope = scopeOf (stmtAt 44)) (hd : 12 <= d) {ns ws ds : List Int} {rs : List Row} {xl : Int} (hr : rs.length <= 6) (hds : ds.length <= 8) : SX w N (TbX Top X) A env (Wr env lawN X) (Cx N X hb env lawN [some (intsP ns),some (.int xl),some (rowsP rs),some (intsP ws),some (intsP ds),some (intsP (nums rs)),some (statesP ds rs),some (numbersP ds rs),none,none,none,some (.int (rs.length : Nat))]) (nthS (bodyOf (stmtAt 44)) 9) (Nxt (Cx N X hb env lawN [some (intsP ns),some (.int xl),some (rowsP rs),some (intsP ws),some (intsP ds),some (intsP (nums rs)),some (statesP ds rs),some (numbersP ds rs),none,none,some (intsP (nums (after ds rs))),some (.int (rs.length : Nat))])) := by
  have T := TbX.ok g.T X
  have hn : NsOk lawN := ⟨by decide,by decide,by decide⟩
  have hkk := O.kind
  have hL := O.hL
  have hf : (after ds rs).length <= 6 := by rw [after_length]; exact hr
  refine SX.assign (ns := lawN) (vals := [some (intsP ns),some (.int xl),some (rowsP rs),some (intsP ws),some (intsP ds),some (intsP (nums rs)),some (statesP ds rs),some (numbersP ds rs),none,none,none,some (.int (rs.length : Nat))]) (i := 10) (p := intsP (nums (after ds rs))) T O ?a1 ?a2 hn ?a3 ?a4
  case a2 => walk_at "m"
  case a3 => rw [Env.kindOf,hs]; decide
  case a4 => exact swaps_no rfl
  case a1 =>
    refine EV.callD ?d1 O.kind O.glob ?d2 g.dDig (EVs.cons ?d3 (EV.lastNum (i := 7) hds hkk hL hn ?d4 rfl) (EVs.cons ?d5 EV.cint EVs.nil rfl) rfl) (row_digs g (after ds rs) (by lia)) (hA.less (by lia))
    case d1 => walk_at "m"
    case d2 => rw [Env.kindOf,hs]; decide
    case d3 => walk_at "m"
    case d4 => walk_at "m"
    case d5 => walk_at "m"
theorem law_s10 (g : GZ N Top) {d : Nat} (hA : AOk A d) (O : EnvOk N hb env) (hs : env.scope = scopeOf (stmtAt 44)) (hd : 12 <= d) {ns ws ds : List Int} {rs : List Row} {xl : Int} (hr : rs.length <= 6) (hds : ds.length <= 8) (hX : ∀ x ∈ X,N <= x) : SX w N (TbX Top X) A env (Wr env lawN X) (Cx N X hb env lawN [some (intsP ns),some (.int xl),some (rowsP rs),some (intsP ws),some (intsP ds),some (intsP (nums rs)),some (statesP ds rs),some (numbersP ds rs),none,none,some (intsP (nums (after ds rs))),some (.int (rs.length : Nat))]) (nthS (bodyOf (stmtAt 44)) 10) (Nxt (Cx N X hb env lawN [some (intsP ns),some (.int xl),some (rowsP rs),some (intsP ws),some (intsP ds),some (intsP (nums rs)),some (statesP ds rs),some (numbersP ds rs),none,none,some (intsP (nums (after ds rs))),some (.int (rs.length : Nat))])) := by
  have T := TbX.ok g.T X
  have hn : NsOk lawN := ⟨by decide,by decide,by decide⟩
  have hkk := O.kind
  have hL := O.hL
  have hf : (after ds rs).length <= 6 := by rw [after_length]; exact hr
  have hl1 : (nums rs).length = rs.length := by simp [nums]
  have hl2 : (nums (after ds rs)).length = (after ds rs).length := by simp [nums]
  have h12 : (rs ++ (after ds rs)).length <= 12 := by rw [List.length_append]; omega
  refine law_if (p := .list ((rs ++ (after ds rs)).map fun r => .str r.str)) (q := .list ((rs.map fun r => .str r.str) ++ ((after ds rs).map fun r => .str r.str))) (n := 1) hL ?a1 (EV.bin ?a2 (EV.sub (p := statesP ds rs) (q := .int 0) ?a3 ?a4 EV.cint (IT.list (by decide) (by decide) ?a5) trivial) (EV.lastSt (i := 6) hds hkk hL hn ?a6 rfl) (OP.cat T ?a7)) (by rw [List.map_append]) (EqD.rows _) (by decide) hA.units (by with_unfolding_all rfl)
  case a2 => walk_at "m"
  case a3 => walk_at "m"
  case a4 => walk_at "m"
  case a5 => show ((statesL ds rs).map rowsP)[0]? = _; rw [List.getElem?_map,states_head]; rfl
  case a6 => walk_at "m"
  case a7 => rw [List.length_map,List.length_map]; exact Nat.le_trans (by omega : _ <= 12) (Nat.le_of_ble_eq_true rfl)
  case a1 =>
    refine EV.compAt (xs := rs ++ (after ds rs)) (P := fun r => .int r.num) (fs := []) (fv := []) g.T O.toBlkOk (SRC.list T hA.hd (EV.conv (EV.bin (p := .list ((nums rs).map .int)) (q := .list ((nums (after ds rs)).map .int)) ?b1 ?b2 ?b3 (OP.cat T ?b4)) ?b5)) (Nat.le_trans h12 (Nat.le_of_ble_eq_true rfl)) rfl (by decide) (by decide) (by decide) (by decide) .nil rfl (by decide) (fun D cenv hc hD hsc B r hr' => ?b6)
    case b1 => walk_at "m"
    case b2 => walk_at "m"
    case b3 => walk_at "m"
    case b4 => rw [List.length_map,List.length_map,hl1,hl2]; exact Nat.le_trans (by omega : _ <= 12) (Nat.le_of_ble_eq_true rfl)
    case b5 => rw [List.map_append]; unfold nums; rw [List.map_map,List.map_map]; rfl
    case b6 =>
      have hk' := B.kind
      have hL' := B.hL
      have hn' : NsOk [Str.ofString "one"] := ⟨by decide,by decide,by decide⟩
      refine EV.callD ?d1 B.kind B.glob (kind_in hsc (by decide)) g.dFile (EVs.cons ?d3 ?d4 EVs.nil rfl) (row_file g (fun x hx => (List.mem_cons.mp hx).elim (fun e => e ▸ hD) (hX x)) r) (hA.less (by omega))
      case d1 => walk_at "m"
      case d3 => walk_at "m"
      case d4 => walk_at "m"
theorem law_s11 (g : GZ N Top) {d : Nat} (hA : AOk A d) (O : EnvOk N hb env) (hs : env.scope = scopeOf (stmtAt 44)) (hd : 12 <= d) {ns ws ds : List Int} {rs : List Row} {xl : Int} (hr : rs.length <= 6) (hds : ds.length <= 8) : SX w N (TbX Top X) A env (Wr env lawN X) (Cx N X hb env lawN [some (intsP ns),some (.int xl),some (rowsP rs),some (intsP ws),some (intsP ds),some (intsP (nums rs)),some (statesP ds rs),some (numbersP ds rs),none,none,some (intsP (nums (after ds rs))),some (.int (rs.length : Nat))]) (nthS (bodyOf (stmtAt 44)) 11) (Nxt (Cx N X hb env lawN [some (intsP ns),some (.int xl),some (rowsP rs),some (intsP ws),some (intsP ds),some (intsP (nums rs)),some (statesP ds rs),some (numbersP ds rs),none,none,some (intsP (nums (after ds rs))),some (.int (rs.length : Nat))])) := by
  have T := TbX.ok g.T X
  have hn : NsOk lawN := ⟨by decide,by decide,by decide⟩
  have hkk := O.kind
  have hL := O.hL
  have hf : (after ds rs).length <= 6 := by rw [after_length]; exact hr
  have hfs : (after ds rs).length <= sizeLine := Nat.le_trans hf (Nat.le_of_ble_eq_true rfl)
  have hsrc : ∀ p,SRC w N X (TbX Top X) A env (Cx N X hb env lawN [some (intsP ns),some (.int xl),some (rowsP rs),some (intsP ws),some (intsP ds),some (intsP (nums rs)),some (statesP ds rs),some (numbersP ds rs),none,none,some (intsP (nums (after ds rs))),some (.int (rs.length : Nat))]) (.Name (Str.ofString "digits") p) ((after ds rs).map fun r => PV.int r.num) := fun p => by
    refine SRC.list T hA.hd (EV.conv (p := intsP (nums (after ds rs))) ?_ ?_)
    . walk_at "m"
    . unfold intsP nums; rw [List.map_map]; rfl
  refine law_if (p := .list ((after ds rs).map fun r => .list [.int (r.num.fmod 4096), .int (r.num - r.num.fmod 4096)])) (q := .list ((after ds rs).map fun r => .list [.int (r.num.fmod 4096), .int (r.num - r.num.fmod 4096)])) (n := 2) hL ?a1 ?a2 rfl (EqD.map fun r => EqD.ints [r.num.fmod 4096,r.num - r.num.fmod 4096]) (by decide) hA.units (by with_unfolding_all rfl)
  case a1 =>
    refine EV.compAt (P := fun r => .int r.num) (fs := []) (fv := []) g.T O.toBlkOk (hsrc _) hfs rfl (by decide) (by decide) (by decide) (by decide) .nil rfl (by decide) (fun D cenv hc hD hsc B r hr' => ?_)
    have hk' := B.kind
    have hL' := B.hL
    have T' := TbX.ok g.T (D :: X)
    have hn' : NsOk [Str.ofString "one"] := ⟨by decide,by decide,by decide⟩
    refine EV.list T' (EVs.cons ?e1 (EV.callD ?d1 B.kind B.glob (kind_in hsc (by decide)) g.dMode (EVs.cons ?d3 ?d4 EVs.nil rfl) (row_mode g.toGX r) (hA.less (by omega))) (EVs.cons ?e2 (EV.callD ?d5 B.kind B.glob (kind_in hsc (by decide)) g.dFmt (EVs.cons ?d6 ?d7 EVs.nil rfl) (row_fmt g.toGX r) (hA.less (by omega))) EVs.nil rfl) rfl) (Nat.le_of_ble_eq_true rfl)
    case e1 => walk_at "m"
    case e2 => walk_at "m"
    case d1 => walk_at "m"
    case d3 => walk_at "m"
    case d4 => walk_at "m"
    case d5 => walk_at "m"
    case d6 => walk_at "m"
    case d7 => walk_at "m"
  case a2 =>
    refine EV.compAt (P := fun r => .int r.num) (fs := []) (fv := []) g.T O.toBlkOk (hsrc _) hfs rfl (by decide) (by decide) (by decide) (by decide) .nil rfl (by decide) (fun D cenv hc hD hsc B r hr' => ?_)
    have hk' := B.kind
    have hL' := B.hL
    have T' := TbX.ok g.T (D :: X)
    have hn' : NsOk [Str.ofString "one"] := ⟨by decide,by decide,by decide⟩
    walk_at "m"
theorem law_s12 (g : GZ N Top) {d : Nat} (hA : AOk A d) (O : EnvOk N hb env) (hs : env.scope = scopeOf (stmtAt 44)) (hd : 14 <= d) {ns ws ds : List Int} {rs : List Row} {xl : Int} (hr : rs.length <= 6) (hds : ds.length <= 8) : SX w N (TbX Top X) A env (Wr env lawN X) (Cx N X hb env lawN [some (intsP ns),some (.int xl),some (rowsP rs),some (intsP ws),some (intsP ds),some (intsP (nums rs)),some (statesP ds rs),some (numbersP ds rs),none,none,some (intsP (nums (after ds rs))),some (.int (rs.length : Nat))]) (nthS (bodyOf (stmtAt 44)) 12) (Nxt (Cx N X hb env lawN [some (intsP ns),some (.int xl),some (rowsP rs),some (intsP ws),some (intsP ds),some (intsP (nums rs)),some (statesP ds rs),some (numbersP ds rs),some (intsP (countsL (after ds rs))),none,some (intsP (nums (after ds rs))),some (.int (rs.length : Nat))])) := by
  have T := TbX.ok g.T X
  have hn : NsOk lawN := ⟨by decide,by decide,by decide⟩
  have hkk := O.kind
  have hL := O.hL
  have hf : (after ds rs).length = rs.length := after_length _ _
  have key := SX.assignCompN (w := w) (X := X) (A := A) (hb := hb) (env := env) (elt := (match nthS (bodyOf (stmtAt 44)) 12 with | .Assign _ (.ListComp e _ _ _) _ => e | _ => default)) (iter := (match nthS (bodyOf (stmtAt 44)) 12 with | .Assign _ (.ListComp _ (g :: _) _ _) _ => g.iter | _ => default)) (x := Str.ofString "k") (y := Str.ofString "counts") (px := ⟨216,82,216,83⟩) (py := ⟨216,4,216,10⟩) (pos := ⟨216,13,216,97⟩) (pos' := ⟨216,4,216,97⟩) (scope := (match nthS (bodyOf (stmtAt 44)) 12 with | .Assign _ (.ListComp _ _ s _) _ => s | _ => default)) (ns := lawN) (vals := [some (intsP ns),some (.int xl),some (rowsP rs),some (intsP ws),some (intsP ds),some (intsP (nums rs)),some (statesP ds rs),some (numbersP ds rs),none,none,some (intsP (nums (after ds rs))),some (.int (rs.length : Nat))]) (ps := ([6,1,9] : List Int).map .int) (f := fun (j : Nat) (_ : PV) => ((([6,1,9] : List Int)[j]?).map fun k => PV.int ((after ds rs).map (kb k)).sum).getD PV.none)
    (fs := [Str.ofString "many",Str.ofString "numbers"]) (fv := [some (.int (rs.length : Nat)),some (numbersP ds rs)]) (i := 8) g.T O (SRC.list T hA.hd (EV.conv (p := .list [.int 6, .int 1, .int 9]) ?a1 rfl)) (Nat.le_of_ble_eq_true rfl) rfl (by decide) (by decide) (by decide) (by decide) (.cons (i := 11) ?a2 rfl (by decide) ?a3 (.cons (i := 7) ?a4 rfl (by decide) ?a5 .nil)) rfl (by decide) (fun D cenv hc hD hsc B j p hp => ?a6) ?a7 hn ?a8 ?a9 (fun _ => rfl)
  . rw [mapIdx_at] at key
    have e : PV.list (([6,1,9] : List Int).map fun k => PV.int ((after ds rs).map (kb k)).sum) = intsP (countsL (after ds rs)) := by unfold intsP countsL; rw [List.map_map]; rfl
    rw [e] at key
    exact key
  case a1 =>
    show EV w N (TbX Top X) A env _ (.List [_, _, _] _) _
    walk_at "m"
  case a2 => walk_at "m"
  case a3 => rw [Env.kindOf,hs]; decide
  case a4 => walk_at "m"
  case a5 => rw [Env.kindOf,hs]; decide
  case a7 => walk_at "m"
  case a8 => rw [Env.kindOf,hs]; decide
  case a9 => exact swaps_is (by rw [Env.blockKind,Env.kindOf,hs]; decide)
  case a6 =>
    rw [List.getElem?_map] at hp
    cases hq : ([6,1,9] : List Int)[j]? with
    | none => rw [hq] at hp; cases hp
    | some k =>
      rw [hq] at hp; cases hp
      have hk : k = 6 ∨ k = 1 ∨ k = 9 := by
        have := List.mem_of_getElem? hq
        simpa using this
      have hk' := B.kind
      have hL' := B.hL
      have T' := TbX.ok g.T (D :: X)
      have hn' : NsOk [Str.ofString "k",Str.ofString "many",Str.ofString "numbers"] := ⟨by decide,by decide,by decide⟩
      obtain ⟨q,FC⟩ := row_count (w := w) (X := D :: X) g hk (after ds rs) (by omega)
      have hall := all_fn (w := w) (X := D :: X) g.toGY (mask := 1) (many := rs.length) (by decide) (by decide) (by omega)
      have hkb := kb_num hk (after ds rs)
      rw [hf] at hkb
      rw [<- hkb] at FC
      show EV w N (TbX Top (D :: X)) A cenv (Cx N (D :: X) hc cenv [Str.ofString "k",Str.ofString "many",Str.ofString "numbers"] [some (.int k),some (.int (rs.length : Nat)),some (numbersP ds rs)]) (.Subscript (.Call (.Name _ _) [.BinOp (.BinOp _ _ (.BinOp _ _ _ _) _) _ (.Call (.Name _ _) [_, _] [] _) _, _] [] _) _ _) (IsP (D :: X) (.int ((after ds rs).map (kb k)).sum))
      refine EV.sub (p := .tup [.int q, .int ((after ds rs).map (kb k)).sum]) (q := .int 1) ?c1 (EV.callD ?c2 B.kind B.glob (kind_in hsc (by decide)) g.dDivmod (EVs.cons ?c3 (EV.bin ?c4 (EV.bin ?c5 (EV.lastNum (i := 2) hds hk' hL' hn' ?c6 rfl) (EV.bin ?c7 EV.cint ?c8 (OP.pow ?c9 ?c10 (by decide))) (OP.div ?c11 ?c12)) (EV.callD ?c13 B.kind B.glob (kind_in hsc (by decide)) g.dAll (EVs.cons ?c14 EV.cint (EVs.cons ?c15 ?c16 EVs.nil rfl) rfl) hall (hA.less (by omega))) OP.and) (EVs.cons ?c17 EV.cint EVs.nil rfl) rfl) FC (hA.less (by omega))) EV.cint (IT.tup (m := 1) (by decide) (by decide) rfl rfl) trivial
      case c1 => walk_at "m"
      case c2 => walk_at "m"
      case c3 => walk_at "m"
      case c4 => walk_at "m"
      case c5 => walk_at "m"
      case c6 => walk_at "m"
      case c7 => walk_at "m"
      case c8 => walk_at "m"
      case c9 => rcases hk with rfl | rfl | rfl <;> decide
      case c10 => rcases hk with rfl | rfl | rfl <;> decide
      case c11 => rcases hk with rfl | rfl | rfl <;> decide
      case c12 => rcases hk with rfl | rfl | rfl <;> decide
      case c13 => walk_at "m"
      case c14 => walk_at "m"
      case c15 => walk_at "m"
      case c16 => walk_at "m"
      case c17 => walk_at "m"
end
end
section
set_option autoImplicit false
noncomputable def bitAt (k : Int) (r : Row) : Int := r.bits.getD k.toNat 0
section
variable {w : World} {N : Nat} {X : List Addr} {Tb : Heap -> Prop} {Top : Heap -> Prop} {A : Around} {env : Env} {hb : Heap} {C : Heap -> Prop}
theorem law_s13 (g : GZ N Top) {d : Nat} (hA : AOk A d) (O : EnvOk N hb env) (hs : env.scope = scopeOf (stmtAt 44)) (hd : 12 <= d) {ns ws ds : List Int} {rs : List Row} {xl : Int} (hr : rs.length <= 6) (hds : ds.length <= 8) : SX w N (TbX Top X) A env (Wr env lawN X) (Cx N X hb env lawN [some (intsP ns),some (.int xl),some (rowsP rs),some (intsP ws),some (intsP ds),some (intsP (nums rs)),some (statesP ds rs),some (numbersP ds rs),some (intsP (countsL (after ds rs))),none,some (intsP (nums (after ds rs))),some (.int (rs.length : Nat))]) (nthS (bodyOf (stmtAt 44)) 13) (Nxt (Cx N X hb env lawN [some (intsP ns),some (.int xl),some (rowsP rs),some (intsP ws),some (intsP ds),some (intsP (nums rs)),some (statesP ds rs),some (numbersP ds rs),some (intsP (countsL (after ds rs))),none,some (intsP (nums (after ds rs))),some (.int (rs.length : Nat))])) := by
  have T := TbX.ok g.T X
  have hn : NsOk lawN := ⟨by decide,by decide,by decide⟩
  have hkk := O.kind
  have hL := O.hL
  have hf : (after ds rs).length <= 6 := by rw [after_length]; exact hr
  have hfs : (after ds rs).length <= sizeLine := Nat.le_trans hf (Nat.le_of_ble_eq_true rfl)
  refine law_if (p := intsP (countsL (after ds rs))) (q := .list (([5,10,2] : List Int).map fun k => .int ((after ds rs).map (bitAt k)).sum)) (n := 1) hL ?a1 ?a2 ?a3 (EqD.ints _) (by decide) hA.units (by with_unfolding_all rfl)
  case a1 => walk_at "m"
  case a3 => rfl
  case a2 =>
    refine EV.compCell (xs := ([5,10,2] : List Int)) (P := .int) (fs := [Str.ofString "states"]) (fv := [some (statesP ds rs)]) g.T O.toBlkOk (SRC.list T hA.hd (EV.conv (p := .list [.int 5, .int 10, .int 2]) ?b1 rfl)) (Nat.le_of_ble_eq_true rfl) rfl (by decide) (by decide) (by decide) (by decide) (.cons (i := 6) ?b2 rfl (by decide) ?b3 .nil) rfl (by decide) (fun D cenv hc hD hsc B k hk => ?b4)
    case b1 => walk_at "m"
    case b2 => walk_at "m"
    case b3 => rw [Env.kindOf,hs]; decide
    case b4 =>
      have hk' := B.kind
      have hL' := B.hL
      have T' := TbX.ok g.T (D :: X)
      have hn' : NsOk [Str.ofString "k",Str.ofString "states"] := ⟨by decide,by decide,by decide⟩
      have kK : cenv.kindOf (Str.ofString "k") = some .cell := by rw [Env.kindOf,hsc]; exact relabel_other (by decide) (by decide)
      refine EV.callB ?d1 B.kind B.glob B.bui (kind_in hsc (by decide)) (g.bSum.x _) (EVs.cons (p := intsP ((after ds rs).map (bitAt k))) ?d2 (EV.conv (EV.compAt (xs := (after ds rs)) (P := fun r => .str r.str) (f := fun r => .int (bitAt k r)) (fs := [Str.ofString "k"]) (fv := [some (.int k)]) g.T B (SRC.list T' hA.hd (EV.lastSt (i := 1) hds hk' hL' hn' ?d3 rfl)) hfs rfl (by decide) (by decide) (by decide) (by decide) (.cons (i := 0) .hd rfl (by decide) (.inl kK) .nil) rfl (by decide) (fun D2 cenv2 hc2 hD2 hsc2 B2 r hr' => ?d4)) ?d5) EVs.nil rfl) (BC.sum T' hA.hd)
      case d1 => walk_at "m"
      case d2 => walk_at "m"
      case d3 => walk_at "m"
      case d5 => unfold intsP; rw [List.map_map]; rfl
      case d4 =>
        have hk2 := B2.kind
        have hL2 := B2.hL
        have hn2 : NsOk [Str.ofString "row",Str.ofString "k"] := ⟨by decide,by decide,by decide⟩
        refine EV.sub (p := intsP r.bits) (q := .int k) ?e1 (EV.callD ?e2 B2.kind B2.glob (kind_in hsc2 (by decide)) g.dBits (EVs.cons ?e3 ?e4 EVs.nil rfl) (row_bits g.toGX r) (hA.less (by lia))) ?e5 (IT.list ?e6 ?e7 ?e8) trivial
        case e1 => walk_at "m"
        case e2 => walk_at "m"
        case e3 => walk_at "m"
        case e4 => walk_at "m"
        case e5 => walk_at "m"
        all_goals simp only [List.mem_cons,List.not_mem_nil,or_false] at hk
        case e6 => lia
        case e7 => lia
        case e8 => rcases hk with rfl | rfl | rfl <;> rfl
end
end
section
set_option autoImplicit false
section wpj
variable {M : Model} {A : Around} {E : Value -> Shared -> Prop} {σ : Type} {J : Shared -> Prop}
noncomputable def wpJ (M : Model) (A : Around) (E : Value -> Shared -> Prop) (J : Shared -> Prop) {α : Type} (m : StateT σ Sem α) (Q : α -> σ -> Prop) (st : σ) : Prop :=
  ∀ s,J s -> wpAny M A (m.run st) (fun r s' => J s' ∧ Q r.1 r.2) E s
theorem wpJ_pure {α : Type} {a : α} {Q : α -> σ -> Prop} {st : σ} (h : Q a st) : wpJ M A E J (pure a : StateT σ Sem α) Q st := fun s hs => by rw [StateT.run_pure]; exact wpAny_pure ⟨hs,h⟩
theorem wpJ_bind {α β : Type} {m : StateT σ Sem α} {f : α -> StateT σ Sem β} {Q : β -> σ -> Prop} {st : σ}
    (h : wpJ M A E J m (fun a st' => wpJ M A E J (f a) Q st') st) : wpJ M A E J (m >>= f) Q st := fun s hs => by
  rw [StateT.run_bind]
  exact wpAny_bind (wpAny_mono (h s hs) (fun r s' h' => h'.2 s' h'.1) fun _ _ e => e)
theorem wpJ_mono {α : Type} {m : StateT σ Sem α} {Q Q' : α -> σ -> Prop} {st : σ} (h : wpJ M A E J m Q st) (hq : ∀ a st',Q a st' -> Q' a st') : wpJ M A E J m Q' st :=
  fun s hs => wpAny_mono (h s hs) (fun r _ h' => ⟨h'.1,hq _ _ h'.2⟩) fun _ _ e => e
theorem wpJ_get {Q : σ -> σ -> Prop} {st : σ} (h : Q st st) : wpJ M A E J (get : StateT σ Sem σ) Q st := fun s hs => by rw [StateT.run_get]; exact wpAny_pure ⟨hs,h⟩
theorem wpJ_modify {f : σ -> σ} {Q : PUnit -> σ -> Prop} {st : σ} (h : Q ⟨⟩ (f st)) : wpJ M A E J (modify f : StateT σ Sem PUnit) Q st := fun s hs => by rw [StateT.run_modify]; exact wpAny_pure ⟨hs,h⟩
theorem wpJ_lift {α : Type} {m : Sem α} {Q : α -> σ -> Prop} {st : σ} (h : ∀ s,J s -> wpAny M A m (fun a s' => J s' ∧ Q a st) E s) : wpJ M A E J (liftM m : StateT σ Sem α) Q st := fun s hs => by
  show wpAny M A ((StateT.lift m : StateT σ Sem α).run st) _ E s
  rw [StateT.run_lift]
  exact wpAny_bind (wpAny_mono (h s hs) (fun a s' h' => wpAny_pure h') fun _ _ e => e)
theorem wpJ_forList {β : Type} (f : Nat -> β -> StateT σ Sem (ForInStep β)) (I : List Nat -> β -> σ -> Prop) (Q : β -> σ -> Prop)
    (hstep : ∀ x rest b st,I (x :: rest) b st -> wpJ M A E J (f x b) (fun r st' => match r with | .done b' => Q b' st' | .yield b' => I rest b' st') st)
    (hend : ∀ b st,I [] b st -> Q b st) : ∀ (l : List Nat) (b : β) (st : σ),I l b st -> wpJ M A E J (forIn l b f) Q st
  | [],b,st,h => by rw [List.forIn_nil]; exact wpJ_pure (hend _ _ h)
  | x :: rest,b,st,h => by
    rw [List.forIn_cons]
    refine wpJ_bind (wpJ_mono (hstep x rest b st h) fun r st' h' => ?_)
    cases r with
    | done b' => exact wpJ_pure h'
    | yield b' => exact wpJ_forList f I Q hstep hend rest b' st' h'
theorem wpJ_forRange {β : Type} {a b : Nat} {f : Nat -> β -> StateT σ Sem (ForInStep β)} (I : Nat -> β -> σ -> Prop) {Q : β -> σ -> Prop}
    (hstep : ∀ i c st,a <= i -> i < b -> I i c st -> wpJ M A E J (f i c) (fun r st' => match r with | .done c' => Q c' st' | .yield c' => I (i + 1) c' st') st)
    (hend : ∀ c st,I (max a b) c st -> Q c st) {c : β} {st : σ} (h : I a c st) : wpJ M A E J (forIn [a:b] c f) Q st := by
  rw [Std.Legacy.Range.forIn_eq_forIn_range']
  have hsz : ([a:b] : Std.Legacy.Range).size = b - a := by simp [Std.Legacy.Range.size]
  show wpJ M A E J (forIn (List.range' a ([a:b] : Std.Legacy.Range).size 1) c f) Q st
  rw [hsz]
  have key : ∀ (k i : Nat) (c : β) (st : σ),a <= i -> i + k = max a b -> I i c st -> wpJ M A E J (forIn (List.range' i k 1) c f) Q st := by
    intro k
    induction k with
    | zero => intro i c st hi he hI; rw [List.range'_zero,List.forIn_nil]; exact wpJ_pure (hend _ _ (by rw [<- he]; exact hI))
    | succ k ih =>
      intro i c st hi he hI
      rw [List.range'_succ,List.forIn_cons]
      refine wpJ_bind (wpJ_mono (hstep i c st hi (by lia) hI) fun r st' h' => ?_)
      cases r with
      | done c' => exact wpJ_pure h'
      | yield c' => exact ih (i + 1) c' st' (by lia) (by lia) h'
  exact key (b - a) a c st (Nat.le_refl _) (by rw [Nat.add_comm,Nat.sub_add_eq_max,Nat.max_comm]) h
end wpj
structure Ord where
  kf : Keyed -> Int
  ix : Keyed -> Nat
noncomputable def Ord.R (o : Ord) (x y : Keyed) : Prop := o.kf x < o.kf y ∨ (o.kf x = o.kf y ∧ o.ix x < o.ix y)
noncomputable def ent (xs : Array Keyed) (i : Nat) : Keyed := (xs[i]?).getD (.none, .none)
theorem ent_congr {xs ys : Array Keyed} {i j : Nat} (h : xs[i]? = ys[j]?) : ent xs i = ent ys j := by unfold ent; rw [h]
theorem ent_bubble {xs : Array Keyed} {src d : Nat} (hs : src < xs.size) (hd : d <= src) (k : Nat) :
    ent (bubble xs src d) k = if k = src - d then ent xs src else if src - d < k ∧ k <= src then ent xs (k - 1) else ent xs k := by
  have e := getElem?_bubble hs d hd k
  by_cases h1 : k = src - d
  . rw [if_pos h1] at e ⊢; exact ent_congr e
  . rw [if_neg h1] at e ⊢
    by_cases h2 : src - d < k ∧ k <= src
    . rw [if_pos h2] at e ⊢; exact ent_congr e
    . rw [if_neg h2] at e ⊢; exact ent_congr e
theorem ent_mirror {xs : Array Keyed} {i j : Nat} (hj : j <= xs.size) (k : Nat) : ent (mirror xs i j ((j - i) / 2)) k = if i <= k ∧ k < j then ent xs (i + j - 1 - k) else ent xs k := by
  have e := getElem?_mirror_all (i := i) hj k
  by_cases h1 : i <= k ∧ k < j
  . rw [if_pos h1] at e ⊢; exact ent_congr e
  . rw [if_neg h1] at e ⊢; exact ent_congr e
section
variable {o : Ord}
theorem Ord.R.trans {x y z : Keyed} (a : o.R x y) (b : o.R y z) : o.R x z :=
  a.elim (fun a => b.elim (fun b => .inl (Int.lt_trans a b)) fun b => .inl (b.1 ▸ a)) fun a => b.elim (fun b => .inl (a.1 ▸ b)) fun b => .inr ⟨a.1.trans b.1,Nat.lt_trans a.2 b.2⟩
structure Fine (o : Ord) (xs : Array Keyed) (n : Nat) : Prop where
  ord : ∀ i j,i < j -> j < n -> o.R (ent xs i) (ent xs j)
  pre : ∀ i,i < n -> o.ix (ent xs i) < n
  rest : ∀ i,n <= i -> i < xs.size -> o.ix (ent xs i) = i
noncomputable def LtOk (w : World) (A : Around) (E : Value -> Shared -> Prop) (J : Shared -> Prop) (o : Ord) (a₀ : Array Keyed) : Prop :=
  ∀ x ∈ a₀.toList, ∀ y ∈ a₀.toList, ∀ s,J s -> ∀ E' : Value -> Shared -> Prop,wpAny (MM w) A (oneLt' true x.1 y.1) (fun b s' => J s' ∧ b = decide (o.kf x < o.kf y)) E' s
variable {w : World} {A : Around} {E : Value -> Shared -> Prop} {J : Shared -> Prop} {a₀ : Array Keyed}
theorem ent_mem {st : SortSt} (hB : SBase a₀ st) {i : Nat} (hi : i < a₀.size) : (arrOf st)[i]? = some (ent (arrOf st) i) ∧ ent (arrOf st) i ∈ a₀.toList := by
  have hi' : i < (arrOf st).size := by rw [hB.size]; exact hi
  have e : (arrOf st)[i]? = some (arrOf st)[i] := getElem?_pos _ i hi'
  have e2 : ent (arrOf st) i = (arrOf st)[i] := by unfold ent; rw [e]; rfl
  refine ⟨by rw [e2]; exact e, ?_⟩
  rw [e2]
  exact (Array.perm_iff_toList_perm.mp hB.perm).mem_iff.mp (by simp)
theorem wpJ_ltK {st : SortSt} {i j : Nat} {Q : Option Bool -> SortSt -> Prop} (hO : LtOk w A E J o a₀) (hB : SBase a₀ st) (hi : i < a₀.size) (hj : j < a₀.size)
    (h : Q (some (decide (o.kf (ent (arrOf st) i) < o.kf (ent (arrOf st) j)))) st) : wpJ (MM w) A E J (ltAt' i j) Q st := by
  obtain ⟨e1,m1⟩ := ent_mem hB hi
  obtain ⟨e2,m2⟩ := ent_mem hB hj
  rw [ltAt'_eq]
  refine wpJ_bind (wpJ_get ?_)
  show wpJ _ _ _ _ (do let x <- elem' (arrOf st) i; let y <- elem' (arrOf st) j; lt' x y) Q st
  rw [elem'_eq,elem'_eq,e1,e2]
  refine wpJ_bind (wpJ_pure (wpJ_bind (wpJ_pure ?_)))
  rw [lt'_eq]
  refine wpJ_bind (wpJ_get ?_)
  rw [hB.kind,keyLt'_oneType]
  refine wpJ_bind (wpJ_lift fun s hs => wpAny_attempt (wpAny_mono (hO _ m1 _ m2 s hs _) (fun b s' h' => ⟨h'.1, ?_⟩) fun _ _ e => e))
  rw [h'.2]
  exact wpJ_pure h
theorem wpJ_ascLoop {st : SortSt} {a nrem : Nat} {Q : AscSt -> SortSt -> Prop} (hO : LtOk w A E J o a₀) (hn : nrem <= a₀.size) (ha : 1 <= a) (han : a <= nrem) (hB : SBase a₀ st) (hs : Fine o (arrOf st) a)
    (h : ∀ n,a <= n -> n <= nrem -> Fine o (arrOf st) n -> (n = nrem ∨ o.kf (ent (arrOf st) n) < o.kf (ent (arrOf st) (n - 1))) -> Q (none,n) st) :
    wpJ (MM w) A E J (ascLoop a nrem) Q st := by
  unfold ascLoop
  refine wpJ_forRange (I := fun x c st' => st' = st ∧ c = (none,x) ∧ Fine o (arrOf st) x) ?step ?fin ⟨rfl,rfl,hs⟩
  case fin =>
    rintro c st' ⟨rfl,rfl,hs'⟩
    rw [show max a nrem = nrem by lia] at hs' ⊢
    exact h nrem han (Nat.le_refl _) hs' (.inl rfl)
  case step =>
    rintro x c st' hax hxn ⟨rfl,rfl,hs'⟩
    dsimp only
    refine wpJ_bind (wpJ_ltK hO hB (by lia) (by lia) ?_)
    by_cases hless : o.kf (ent (arrOf st') x) < o.kf (ent (arrOf st') (x - 1))
    . simp only [hless,decide_true,if_true]
      exact wpJ_pure (h x hax (by lia) hs' (.inr hless))
    . simp only [hless,decide_false,Bool.false_eq_true,if_false]
      have hsz : x < (arrOf st').size := by rw [hB.size]; lia
      have hix := hs'.rest x (Nat.le_refl _) hsz
      have hR : o.R (ent (arrOf st') (x - 1)) (ent (arrOf st') x) := by
        have := hs'.pre (x - 1) (by lia)
        unfold Ord.R
        lia
      refine wpJ_pure ⟨rfl,rfl,⟨fun i j hij hj => ?_,fun i hi => ?_,fun i h1 h2 => hs'.rest i (by lia) h2⟩⟩
      . by_cases hjx : j < x
        . exact hs'.ord i j hij hjx
        . have hj' : j = x := by lia
          subst hj'
          by_cases hi' : i = j - 1
          . subst hi'; exact hR
          . exact (hs'.ord i (j - 1) (by lia) (by lia)).trans hR
      . by_cases hix' : i < x
        . have := hs'.pre i hix'; lia
        . have : i = x := by lia
          subst this; rw [hix]; lia
theorem Ord.R.ofNot {o : Ord} {x y : Value × Value} (h : ¬ o.kf y < o.kf x) (hi : o.ix x < o.ix y) : o.R x y :=
  if e : o.kf x < o.kf y then .inl e else .inr ⟨Int.le_antisymm (Int.not_lt.mp h) (Int.not_lt.mp e),hi⟩
theorem mid_lo {l r : Nat} (h : l < r) : l <= (l + r) / 2 := (Nat.le_div_iff_mul_le Nat.two_pos).mpr (by rw [Nat.mul_two]; exact Nat.add_le_add_left (Nat.le_of_lt h) l)
theorem mid_hi {l r : Nat} (h : l < r) : (l + r) / 2 < r := Nat.div_lt_of_lt_mul (by rw [Nat.two_mul]; exact Nat.add_lt_add_right h r)
theorem mid_l {k x l r : Nat} (h : l < r) (hm : r - l <= k - x) : (l + r) / 2 - l <= k - (x + 1) := by
  rw [<- Nat.sub_sub]
  refine Nat.le_trans ?_ (Nat.sub_le_sub_right hm 1)
  rw [Nat.sub_sub,Nat.add_comm l 1, <- Nat.sub_sub]
  exact Nat.sub_le_sub_right (Nat.le_sub_one_of_lt (mid_hi h)) l
theorem mid_r {k x l r : Nat} (h : l < r) (hm : r - l <= k - x) : r - ((l + r) / 2 + 1) <= k - (x + 1) := by
  rw [<- Nat.sub_sub, <- Nat.sub_sub]
  exact Nat.sub_le_sub_right (Nat.le_trans (Nat.sub_le_sub_left (mid_lo h) r) hm) 1
theorem wpJ_binarySort {st : SortSt} {n ok : Nat} {Q : Bool -> SortSt -> Prop} (hO : LtOk w A E J o a₀) (hn : n <= a₀.size) (hok : ok <= n) (hok1 : 1 <= ok) (hB : SBase a₀ st) (hs : Fine o (arrOf st) ok)
    (h : ∀ st',SBase a₀ st' -> Fine o (arrOf st') n -> Q true st') : wpJ (MM w) A E J (binarySort' 0 n ok) Q st := by
  rw [binarySort'_eq]
  simp only [Nat.zero_add]
  refine wpJ_bind (wpJ_mono (wpJ_forRange (I := fun k c st' => c = (none,()) ∧ SBase a₀ st' ∧ Fine o (arrOf st') k)
    (Q := fun c st' => c = (none,()) ∧ SBase a₀ st' ∧ Fine o (arrOf st') n) ?step ?fin ?init) ?post)
  case post =>
    rintro c st' ⟨rfl,hB',hs'⟩
    exact wpJ_pure (h st' hB' hs')
  case init =>
    refine ⟨rfl,hB, ?_⟩
    rw [show max ok 1 = ok by lia]; exact hs
  case fin =>
    rintro c st' ⟨hc,hB',hs'⟩
    refine ⟨hc,hB', ?_⟩
    rwa [show max (max ok 1) n = n by lia] at hs'
  case step =>
    rintro k c st' hak hkn ⟨rfl,hB',hs'⟩
    have hk : k < a₀.size := by lia
    have hks : k < (arrOf st').size := by rw [hB'.size]; exact hk
    have hixk := hs'.rest k (Nat.le_refl _) hks
    refine wpJ_bind (wpJ_mono (wpJ_forRange (I := fun x c st'' => st'' = st' ∧ ∃ l r,c = (none,l,r) ∧ l <= r ∧ r <= k ∧ r - l <= k - x ∧
        (∀ i,i < l -> o.R (ent (arrOf st') i) (ent (arrOf st') k)) ∧ (∀ i,r <= i -> i < k -> o.R (ent (arrOf st') k) (ent (arrOf st') i)))
      (Q := fun c st'' => st'' = st' ∧ ∃ l r,c = (none,l,r) ∧ l <= k ∧
        (∀ i,i < l -> o.R (ent (arrOf st') i) (ent (arrOf st') k)) ∧ (∀ i,l <= i -> i < k -> o.R (ent (arrOf st') k) (ent (arrOf st') i))) ?istep ?ifin ?iinit) ?ipost)
    case iinit => exact ⟨rfl,0,k,rfl,Nat.zero_le _,Nat.le_refl _,Nat.le_refl _,fun i hi => absurd hi (Nat.not_lt_zero _),fun i h1 h2 => absurd h2 (Nat.not_lt.mpr h1)⟩
    case ifin =>
      rintro c st'' ⟨rfl,l,r,rfl,hlr,hrk,hm,hlo,hhi⟩
      have : l = r := by lia
      subst this
      exact ⟨rfl,l,l,rfl,hrk,hlo,hhi⟩
    case istep =>
      rintro x c st'' _ hxk ⟨rfl,l,r,rfl,hlr,hrk,hm,hlo,hhi⟩
      dsimp only
      by_cases hge : l ≥ r
      . rw [if_pos hge]
        have : l = r := by lia
        subst this
        exact wpJ_pure ⟨rfl,l,l,rfl,hrk,hlo,hhi⟩
      . rw [if_neg hge]
        have hlt := Nat.not_le.mp hge
        have hmk := Nat.lt_of_lt_of_le (mid_hi hlt) hrk
        refine wpJ_bind (wpJ_ltK hO hB' hk (Nat.lt_trans hmk hk) ?_)
        by_cases hless : o.kf (ent (arrOf st'') k) < o.kf (ent (arrOf st'') ((l + r) / 2))
        . simp only [hless,decide_true,if_true]
          refine wpJ_pure ⟨rfl,l,(l + r) / 2,rfl,mid_lo hlt,Nat.le_of_lt hmk,mid_l hlt hm,hlo,fun i h1 h2 => ?_⟩
          by_cases hi : i = (l + r) / 2
          . subst hi; exact .inl hless
          . exact Ord.R.trans (.inl hless) (hs'.ord _ _ (Nat.lt_of_le_of_ne h1 (Ne.symm hi)) h2)
        . simp only [hless,decide_false,Bool.false_eq_true,if_false]
          have hR : o.R (ent (arrOf st'') ((l + r) / 2)) (ent (arrOf st'') k) := by
            have := hs'.pre ((l + r) / 2) hmk
            exact .ofNot hless (by rw [hixk]; exact this)
          refine wpJ_pure ⟨rfl,(l + r) / 2 + 1,r,rfl,mid_hi hlt,hrk,mid_r hlt hm,fun i h1 => ?_,hhi⟩
          by_cases hi : i = (l + r) / 2
          . subst hi; exact hR
          . exact (hs'.ord i ((l + r) / 2) (Nat.lt_of_le_of_ne (Nat.le_of_lt_succ h1) hi) hmk).trans hR
    case ipost =>
      rintro c st'' ⟨rfl,l,r,rfl,hlk,hlo,hhi⟩
      show wpJ _ _ _ _ (do moveDown' k l; pure (ForInStep.yield (none,()))) _ _
      rw [moveDown'_eq]
      refine wpJ_bind (wpJ_modify (wpJ_pure ⟨rfl,hB'.setArr (bubble_perm _ _ _),⟨fun i j hij hj => ?_,fun i hi => ?_,fun i h1 h2 => ?_⟩⟩))
      . show o.R (ent (bubble (arrOf st'') k (k - l)) i) (ent (bubble (arrOf st'') k (k - l)) j)
        rw [ent_bubble hks (by lia),ent_bubble hks (by lia),show k - (k - l) = l by lia]
        repeat' split
        all_goals first
          | (exfalso; lia)
          | exact hlo _ (by lia)
          | exact hhi _ (by lia) (by lia)
          | exact hs'.ord _ _ (by lia) (by lia)
      . show o.ix (ent (bubble (arrOf st'') k (k - l)) i) < k + 1
        rw [ent_bubble hks (by lia),show k - (k - l) = l by lia]
        repeat' split
        . rw [hixk]; lia
        . have := hs'.pre (i - 1) (by lia); lia
        . by_cases hik : i < k
          . have := hs'.pre i hik; lia
          . exfalso; lia
      . show o.ix (ent (bubble (arrOf st'') k (k - l)) i) = i
        rw [ent_bubble hks (by lia),if_neg (by lia),if_neg (by lia)]
        refine hs'.rest i (by lia) ?_
        have h2' : i < (bubble (arrOf st'') k (k - l)).size := h2
        rwa [bubble_size] at h2'
end
end
section
set_option autoImplicit false
section
variable {o : Ord} {w : World} {A : Around} {E : Value -> Shared -> Prop} {J : Shared -> Prop} {a₀ : Array Keyed}
structure RD (o : Ord) (xs : Array Keyed) (n : Nat) : Prop where
  ord : ∀ i j,i < j -> j < n -> o.R (ent xs j) (ent xs i)
  pre : ∀ i,i < n -> o.ix (ent xs i) < n
  rest : ∀ i,n <= i -> i < xs.size -> o.ix (ent xs i) = i
structure Desc (o : Ord) (xs : Array Keyed) (x neq : Nat) : Prop where
  le : neq + 1 <= x
  blk : ∀ i j,x - (neq + 1) <= i -> i < j -> j < x -> o.kf (ent xs i) = o.kf (ent xs j) ∧ o.ix (ent xs i) < o.ix (ent xs j)
  ord : ∀ i j,i < j -> j < x - (neq + 1) -> o.R (ent xs j) (ent xs i)
  low : ∀ i j,i < x - (neq + 1) -> x - (neq + 1) <= j -> j < x -> o.kf (ent xs j) < o.kf (ent xs i)
  pre : ∀ i,i < x -> o.ix (ent xs i) < x
  rest : ∀ i,x <= i -> i < xs.size -> o.ix (ent xs i) = i
theorem Desc.open {xs : Array Keyed} {x : Nat} (d : Desc o xs x 0) : RD o xs x := by
  refine ⟨fun i j hij hj => ?_,d.pre,d.rest⟩
  by_cases h : j < x - (0 + 1)
  . exact d.ord i j hij h
  . exact .inl (d.low i j (by lia) (by lia) hj)
theorem flip_lt {c x i j : Nat} (hij : i < j) (hj : j < x) : c + x - 1 - j < c + x - 1 - i :=
  Nat.sub_lt_sub_left (Nat.lt_sub_of_add_lt (Nat.lt_of_le_of_lt hij (Nat.lt_of_lt_of_le hj (Nat.le_add_left x c)))) hij
theorem Desc.close {xs : Array Keyed} {x neq : Nat} (d : Desc o xs x neq) (hx : x <= xs.size) : RD o (mirror xs (x - (neq + 1)) x ((x - (x - (neq + 1))) / 2)) x := by
  have hle := d.le
  generalize hc : x - (neq + 1) = c at *
  have hcx : c < x := by lia
  refine ⟨fun i j hij hj => ?_,fun i hi => ?_,fun i h1 h2 => ?_⟩
  . rw [ent_mirror hx,ent_mirror hx]
    by_cases hi : c <= i
    . rw [if_pos ⟨by lia,by lia⟩,if_pos ⟨by lia,by lia⟩]
      have := d.blk (c + x - 1 - j) (c + x - 1 - i) (by lia) (flip_lt hij hj) (by lia)
      exact .inr this
    . rw [if_neg (by lia : ¬ (c <= i ∧ i < x))]
      by_cases hj' : c <= j
      . rw [if_pos ⟨hj',hj⟩]
        exact .inl (d.low i _ (by lia) (by lia) (by lia))
      . rw [if_neg (by lia)]
        exact d.ord i j hij (by lia)
  . rw [ent_mirror hx]
    split
    . exact d.pre _ (by lia)
    . exact d.pre i hi
  . rw [mirror_size] at h2
    rw [ent_mirror hx,if_neg (by lia)]
    exact d.rest i h1 h2
theorem RD.flip {xs : Array Keyed} {x : Nat} (d : RD o xs x) (hx : x <= xs.size) : Fine o (mirror xs 0 x ((x - 0) / 2)) x := by
  refine ⟨fun i j hij hj => ?_,fun i hi => ?_,fun i h1 h2 => ?_⟩
  . rw [ent_mirror hx,ent_mirror hx,if_pos ⟨by lia,by lia⟩,if_pos ⟨by lia,by lia⟩]
    exact d.ord _ _ (flip_lt hij hj) (by lia)
  . rw [ent_mirror hx,if_pos ⟨by lia,hi⟩]
    exact d.pre _ (by lia)
  . rw [mirror_size] at h2
    rw [ent_mirror hx,if_neg (by lia)]
    exact d.rest i h1 h2
theorem RD.next {xs : Array Keyed} {x : Nat} (d : RD o xs x) (h1 : 1 <= x) (hx : x < xs.size) (hlt : ∀ i,i < x -> o.kf (ent xs x) < o.kf (ent xs i)) : Desc o xs (x + 1) 0 := by
  have hix := d.rest x (Nat.le_refl _) hx
  refine ⟨by lia,fun i j a b c => by lia,fun i j a b => d.ord i j a (by lia),fun i j a b c => ?_,fun i hi => ?_,fun i a b => d.rest i (by lia) b⟩
  . have : j = x := by lia
    subst this
    exact hlt i (by lia)
  . by_cases h : i < x
    . have := d.pre i h; lia
    . have : i = x := by lia
      subst this; lia
theorem Desc.same {xs : Array Keyed} {x neq : Nat} (d : Desc o xs x neq) (hx : x < xs.size) (he : o.kf (ent xs x) = o.kf (ent xs (x - 1))) : Desc o xs (x + 1) (neq + 1) := by
  have hix := d.rest x (Nat.le_refl _) hx
  have hle := d.le
  have hk : ∀ i,x - (neq + 1) <= i -> i < x -> o.kf (ent xs i) = o.kf (ent xs x) := fun i h1 h2 => by
    by_cases h : i = x - 1
    . subst h; exact he.symm
    . rw [(d.blk i (x - 1) h1 (by lia) (by lia)).1,he]
  refine ⟨by lia,fun i j a b c => ?_,fun i j a b => d.ord i j a (by lia),fun i j a b c => ?_,fun i hi => ?_,fun i a b => d.rest i (by lia) b⟩
  . by_cases hj : j < x
    . exact d.blk i j (by lia) b hj
    . have : j = x := by lia
      subst this
      exact ⟨hk i (by lia) b,by have := d.pre i b; lia⟩
  . by_cases hj : j < x
    . exact d.low i j (by lia) (by lia) hj
    . have : j = x := by lia
      subst this
      rw [<- hk (j - 1) (by lia) (by lia)]
      exact d.low i (j - 1) (by lia) (by lia) (by lia)
  . by_cases h : i < x
    . have := d.pre i h; lia
    . have : i = x := by lia
      subst this; lia
theorem Desc.ge {xs : Array Keyed} {x neq : Nat} (d : Desc o xs x neq) {i : Nat} (hi : i < x) : o.kf (ent xs (x - 1)) <= o.kf (ent xs i) := by
  have hle := d.le
  by_cases h : x - (neq + 1) <= i
  . by_cases h' : i = x - 1
    . subst h'; exact Int.le_refl _
    . rw [(d.blk i (x - 1) h (by lia) (by lia)).1]; exact Int.le_refl _
  . exact Int.le_of_lt (d.low i (x - 1) (by lia) (by lia) (by lia))
theorem wpJ_reverse {st : SortSt} {i j : Nat} {Q : Unit -> SortSt -> Prop} (h : Q () (setArr st (mirror (arrOf st) i j ((j - i) / 2)))) : wpJ (MM w) A E J (reverseSlice' i j) Q st := by
  rw [reverseSlice'_eq]; exact wpJ_modify h
theorem wpJ_tail3 {st : SortSt} {n nrem : Nat} {Q : Option Nat -> SortSt -> Prop} (hO : LtOk w A E J o a₀) (hn : nrem <= a₀.size) (h1 : 1 <= n) (hnn : n <= nrem) (hB : SBase a₀ st) (hs : RD o (arrOf st) n)
    (h : ∀ m st',SBase a₀ st' -> 1 <= m -> m <= nrem -> Fine o (arrOf st') m -> Q (some m) st') : wpJ (MM w) A E J (tail3 n nrem) Q st := by
  unfold tail3
  have hsz : n <= (arrOf st).size := by rw [hB.size]; lia
  refine wpJ_bind (wpJ_reverse ?_)
  have hB' : SBase a₀ (setArr st (mirror (arrOf st) 0 n ((n - 0) / 2))) := hB.setArr (mirror_perm _ _ _ _)
  exact wpJ_bind (wpJ_ascLoop hO hn h1 hnn hB' (hs.flip hsz) fun m hm1 hm2 hsm _ => wpJ_pure (h m _ hB' (by lia) hm2 hsm))
theorem wpJ_descLoop {st : SortSt} {n nrem : Nat} {Q : DescSt -> SortSt -> Prop} (hO : LtOk w A E J o a₀) (hn : nrem <= a₀.size) (h1 : 1 <= n) (hnn : n <= nrem) (hB : SBase a₀ st) (hs : Desc o (arrOf st) n 0)
    (h : ∀ m neq st',SBase a₀ st' -> n <= m -> m <= nrem -> Desc o (arrOf st') m neq -> Q (none,m,neq) st') : wpJ (MM w) A E J (descLoop n nrem) Q st := by
  unfold descLoop
  refine wpJ_forRange (I := fun x c st' => ∃ neq,c = (none,x,neq) ∧ SBase a₀ st' ∧ Desc o (arrOf st') x neq) ?step ?fin ⟨0,rfl,hB,hs⟩
  case fin =>
    rintro c st' ⟨neq,rfl,hB',hs'⟩
    rw [show max n nrem = nrem by lia] at hs' ⊢
    exact h nrem neq st' hB' hnn (Nat.le_refl _) hs'
  case step =>
    rintro x c st' hax hxn ⟨neq,rfl,hB',hs'⟩
    dsimp only
    have hsz : x < (arrOf st').size := by rw [hB'.size]; lia
    refine wpJ_bind (wpJ_ltK hO hB' (by lia) (by lia) ?_)
    by_cases hless : o.kf (ent (arrOf st') x) < o.kf (ent (arrOf st') (x - 1))
    . simp only [hless,decide_true,if_true]
      have hall : ∀ i,i < x -> o.kf (ent (arrOf st') x) < o.kf (ent (arrOf st') i) := fun i hi => Int.lt_of_lt_of_le hless (hs'.ge hi)
      by_cases hneq : neq > 0
      . rw [if_pos hneq]
        refine wpJ_bind (wpJ_reverse (wpJ_pure ⟨0,rfl,hB'.setArr (mirror_perm _ _ _ _), ?_⟩))
        refine (hs'.close (by lia)).next (by lia) (by show x < (mirror (arrOf st') _ _ _).size; rw [mirror_size]; exact hsz) fun i hi => ?_
        rw [ent_mirror (by lia),ent_mirror (by lia),if_neg (by lia)]
        split
        . exact hall _ (by lia)
        . exact hall i hi
      . rw [if_neg hneq]
        have : neq = 0 := by lia
        subst this
        exact wpJ_pure ⟨0,rfl,hB',hs'.open.next (by lia) hsz hall⟩
    . simp only [hless,decide_false,Bool.false_eq_true,if_false]
      refine wpJ_bind (wpJ_ltK hO hB' (by lia) (by lia) ?_)
      by_cases hlarge : o.kf (ent (arrOf st') (x - 1)) < o.kf (ent (arrOf st') x)
      . simp only [hlarge,decide_true,if_true]
        exact wpJ_pure (h x neq st' hB' hax (by lia) hs')
      . simp only [hlarge,decide_false,Bool.false_eq_true,if_false]
        exact wpJ_pure ⟨neq + 1,rfl,hB',hs'.same hsz (by lia)⟩
theorem wpJ_descPart {st : SortSt} {n nrem : Nat} {Q : Option Nat -> SortSt -> Prop} (hO : LtOk w A E J o a₀) (hn : nrem <= a₀.size) (hnn : n + 1 <= nrem) (hB : SBase a₀ st) (hs : Desc o (arrOf st) (n + 1) 0)
    (h : ∀ m st',SBase a₀ st' -> 1 <= m -> m <= nrem -> Fine o (arrOf st') m -> Q (some m) st') : wpJ (MM w) A E J (descPart n nrem) Q st := by
  unfold descPart
  refine wpJ_bind (wpJ_lift fun s hs => wpAny_rule ⟨hs, ?_⟩)
  refine wpJ_bind (wpJ_descLoop hO hn (by lia) hnn hB ‹_› fun m neq st' hB' hm1 hm2 hs' => ?_)
  dsimp only
  have hsz : m <= (arrOf st').size := by rw [hB'.size]; lia
  by_cases hneq : neq > 0
  . rw [if_pos hneq]
    exact wpJ_bind (wpJ_reverse (wpJ_tail3 hO hn (by lia) hm2 (hB'.setArr (mirror_perm _ _ _ _)) (hs'.close hsz) h))
  . rw [if_neg hneq]
    have : neq = 0 := by lia
    subst this
    exact wpJ_tail3 hO hn (by lia) hm2 hB' hs'.open h
theorem wpJ_countRun {st : SortSt} {nrem : Nat} {Q : Option Nat -> SortSt -> Prop} (hO : LtOk w A E J o a₀) (hn : nrem <= a₀.size) (h1 : 1 <= nrem) (hB : SBase a₀ st) (h0 : Fine o (arrOf st) 1)
    (h : ∀ m st',SBase a₀ st' -> 1 <= m -> m <= nrem -> Fine o (arrOf st') m -> Q (some m) st') : wpJ (MM w) A E J (countRun' 0 nrem) Q st := by
  rw [countRun0_eq]
  refine wpJ_bind (wpJ_ascLoop hO hn (Nat.le_refl 1) h1 hB h0 fun n hn1 hn2 hsn hor => ?_)
  dsimp only
  by_cases hnn : n = nrem
  . rw [if_pos (by simpa using hnn)]
    exact wpJ_pure (h n st hB hn1 hn2 hsn)
  . rw [if_neg (by simpa using hnn)]
    have hlt : o.kf (ent (arrOf st) n) < o.kf (ent (arrOf st) (n - 1)) := hor.resolve_left hnn
    have hsz : n < (arrOf st).size := by rw [hB.size]; lia
    by_cases hgt : n > 1
    . rw [if_pos hgt]
      refine wpJ_bind (wpJ_ltK hO hB (by lia) (by lia) ?_)
      by_cases hrose : o.kf (ent (arrOf st) 0) < o.kf (ent (arrOf st) (n - 1))
      . simp only [hrose,decide_true,if_true]
        exact wpJ_pure (h n st hB hn1 hn2 hsn)
      . simp only [hrose,decide_false,Bool.false_eq_true,if_false]
        have hle : ∀ i j,i < j -> j < n -> o.kf (ent (arrOf st) i) <= o.kf (ent (arrOf st) j) := fun i j a b => by
          have := hsn.ord i j a b
          unfold Ord.R at this; lia
        have hall : ∀ k,k < n -> o.kf (ent (arrOf st) k) = o.kf (ent (arrOf st) (n - 1)) := by
          intro k hk
          have a1 : o.kf (ent (arrOf st) 0) <= o.kf (ent (arrOf st) k) := by
            by_cases h : k = 0
            . subst h; exact Int.le_refl _
            . exact hle 0 k (by lia) hk
          have a2 : o.kf (ent (arrOf st) k) <= o.kf (ent (arrOf st) (n - 1)) := by
            by_cases h : k = n - 1
            . subst h; exact Int.le_refl _
            . exact hle k (n - 1) (by lia) (by lia)
          lia
        have hD : Desc o (arrOf st) n (n - 1) := by
          refine ⟨by lia,fun i j a b c => ?_,fun i j a b => by lia,fun i j a b c => by lia,hsn.pre,hsn.rest⟩
          have := hsn.ord i j b c
          have e1 := hall i (by lia)
          have e2 := hall j c
          unfold Ord.R at this
          lia
        have hR := hD.close (Nat.le_of_lt hsz)
        rw [show n - (n - 1 + 1) = 0 by lia] at hR
        refine wpJ_bind (wpJ_reverse (wpJ_descPart hO hn (by lia) (hB.setArr (mirror_perm _ _ _ _)) (hR.next hn1 (by show n < (mirror (arrOf st) _ _ _).size; rw [mirror_size]; exact hsz) fun i hi => ?_) h))
        rw [ent_mirror (Nat.le_of_lt hsz),ent_mirror (Nat.le_of_lt hsz),if_neg (by lia),if_pos ⟨by lia,hi⟩,hall (0 + n - 1 - i) (by lia)]
        exact hlt
    . rw [if_neg hgt]
      have hn1' : n = 1 := by lia
      subst hn1'
      refine wpJ_descPart hO hn (by lia) hB (RD.next ⟨fun i j a b => by lia,hsn.pre,hsn.rest⟩ (Nat.le_refl 1) hsz fun i hi => ?_) h
      have : i = 0 := by lia
      subst this
      exact hlt
noncomputable def SDoneJ (o : Ord) (a₀ : Array Keyed) (st : SortSt) : Prop := (arrOf st).Perm a₀ ∧ failedOf st = none ∧ pendingOf st = #[(0,a₀.size,0)] ∧ Fine o (arrOf st) a₀.size
theorem doneJ {st : SortSt} (hB : SBase a₀ st) (hs : Fine o (arrOf st) a₀.size) : SDoneJ o a₀ (setPending st ((pendingOf st).push (0,a₀.size,0))) :=
  ⟨hB.perm,hB.failed,by show (pendingOf st).push _ = _; rw [hB.pend]; rfl,hs⟩
theorem wpJ_sortRuns {st : SortSt} {Q : Unit -> SortSt -> Prop} (hO : LtOk w A E J o a₀) (hB : SBase a₀ st) (h0 : Fine o (arrOf st) 1) (h2 : 2 <= a₀.size) (h64 : a₀.size < 64)
    (h : ∀ st',(arrOf st').Perm a₀ -> failedOf st' = none -> Fine o (arrOf st') a₀.size -> Q () st') : wpJ (MM w) A E J sortRuns' Q st := by
  rw [sortRuns'_eq]
  refine wpJ_bind (wpJ_get ?_)
  dsimp only
  have hmr : minRun' a₀.size a₀.size 0 = a₀.size := by
    obtain ⟨f,hf⟩ : ∃ f,a₀.size = f + 1 := ⟨a₀.size - 1,by lia⟩
    have : minRun' (f + 1) a₀.size 0 = a₀.size := by rw [minRun'_succ,if_pos h64]; rfl
    rwa [<- hf] at this
  simp only [hB.size,hmr]
  refine wpJ_bind (wpJ_mono (wpJ_forRange
    (I := fun x c st' => (x = 0 ∧ c = (none,0) ∧ SBase a₀ st' ∧ Fine o (arrOf st') 1) ∨ (1 <= x ∧ c = (none,a₀.size) ∧ SDoneJ o a₀ st'))
    (Q := fun c st' => c = (none,a₀.size) ∧ SDoneJ o a₀ st') ?step ?fin (.inl ⟨rfl,rfl,hB,h0⟩)) ?post)
  case fin =>
    rintro c st' (⟨hx, _, _⟩ | ⟨_,hc,hD⟩)
    . lia
    . exact ⟨hc,hD⟩
  case step =>
    rintro x c st' _ hx (⟨rfl,rfl,hB',h0'⟩ | ⟨hx1,rfl,hD⟩)
    . dsimp only
      rw [if_neg (by lia)]
      simp only [Nat.sub_zero,Nat.min_self,Nat.zero_add]
      refine wpJ_bind (wpJ_countRun hO (Nat.le_refl _) (by lia) hB' h0' fun m st2 hB2 hm1 hm2 hs2 => ?_)
      dsimp only
      by_cases hlt : m < a₀.size
      . rw [if_pos hlt]
        refine wpJ_bind (wpJ_lift fun s hs => wpAny_rule ⟨hs, ?_⟩)
        refine wpJ_bind (wpJ_binarySort hO (Nat.le_refl _) hm2 hm1 hB2 hs2 fun st3 hB3 hs3 => ?_)
        simp only [Bool.not_true,Bool.false_eq_true,if_false]
        refine wpJ_bind (wpJ_get ?_)
        have hb : (pendingOf st3).back? = none := by rw [hB3.pend]; rfl
        rw [hb]
        dsimp only
        exact wpJ_bind (wpJ_modify (wpJ_pure (.inr ⟨by lia,rfl,doneJ hB3 hs3⟩)))
      . rw [if_neg hlt]
        have hm : m = a₀.size := by lia
        subst hm
        refine wpJ_bind (wpJ_get ?_)
        have hb : (pendingOf st2).back? = none := by rw [hB2.pend]; rfl
        rw [hb]
        dsimp only
        exact wpJ_bind (wpJ_modify (wpJ_pure (.inr ⟨by lia,rfl,doneJ hB2 hs2⟩)))
    . dsimp only
      rw [if_pos (Nat.le_refl _)]
      exact wpJ_pure ⟨rfl,hD⟩
  case post =>
    rintro c st' ⟨rfl,hD⟩
    dsimp only
    refine wpJ_bind (wpJ_mono (wpJ_forRange (I := fun _ c st'' => st'' = st' ∧ c = (none,())) (Q := fun c st'' => st'' = st' ∧ c = (none,())) ?_ (fun _ _ hh => hh) ⟨rfl,rfl⟩) ?_)
    . rintro x c st'' _ _ ⟨rfl,rfl⟩
      refine wpJ_bind (wpJ_get ?_)
      rw [if_pos (by rw [hD.2.2.1]; exact Nat.le_refl 1)]
      exact wpJ_pure ⟨rfl,rfl⟩
    . rintro c st'' ⟨rfl,rfl⟩
      exact wpJ_pure (h _ hD.1 hD.2.1 hD.2.2.2)
end
end
section
open PySem.AutoSeq1 (wpAny_loadPart')
variable {w : World}
noncomputable def kEs (hs : Nat -> Int) (ts : Nat -> Tok) (vm vq vf vs f1 f2 f3 f4 f5 f6 vt : Value) : Array DictEntry :=
  #[⟨hs 0, .str (Str.ofString "__module__") (ts 0),vm⟩,⟨hs 1, .str (Str.ofString "__qualname__") (ts 1),vq⟩,⟨hs 2, .str (Str.ofString "__firstlineno__") (ts 2),vf⟩,⟨hs 3, .str (Str.ofString "__slots__") (ts 3),vs⟩,
    ⟨hs 4, .str (Str.ofString "__init__") (ts 4),f1⟩,⟨hs 5, .str (Str.ofString "__lt__") (ts 5),f2⟩,⟨hs 6, .str (Str.ofString "__gt__") (ts 6),f3⟩,⟨hs 7, .str (Str.ofString "__eq__") (ts 7),f4⟩,
    ⟨hs 8, .str (Str.ofString "__le__") (ts 8),f5⟩,⟨hs 9, .str (Str.ofString "__ge__") (ts 9),f6⟩,⟨hs 10, .str (Str.ofString "__hash__") (ts 10), .none⟩,⟨hs 11, .str (Str.ofString "__static_attributes__") (ts 11),vt⟩]
theorem find_slots (hs : Nat -> Int) (ts : Nat -> Tok) (vm vq vf vs f1 f2 f3 f4 f5 f6 vt : Value) : (kEs hs ts vm vq vf vs f1 f2 f3 f4 f5 f6 vt).find? (·.key.isStr (Str.ofString "__slots__")) = some ⟨hs 3, .str (Str.ofString "__slots__") (ts 3),vs⟩ := by kernel_rfl
noncomputable def kPlan : Builtin.Slots.Plan := { names := [Str.ofString "obj"],dict := false,weak := false,inherited := [] }
theorem slots_read {A : Around} {s : Shared} {Q : Builtin.Slots.Plan -> Shared -> Prop} {E : Value -> Shared -> Prop} (hs : Nat -> Int) (ts : Nat -> Tok) (vm vq vf f1 f2 f3 f4 f5 f6 vt : Value) {L : Addr} {n : Nat} {t : Tok}
    (hL : s.heap.get? L = some { cls := .type "list",data := .seq #[.str (Str.ofString "obj") t] n })
    (k : ∀ h',(∀ b o,s.heap.get? b = some o -> h'.get? b = some o) -> Q kPlan { s with heap := h' }) :
    wpAny (MM w) A (Builtin.Slots.read (Str.ofString "K") [.type "object"] (kEs hs ts vm vq vf (.ref L) f1 f2 f3 f4 f5 f6 vt)) Q E s := by
  have e4 : isSubtype (Value.type "object") (Value.type "object") = pure true := by rw [isSubtype_type]; kernel_rfl
  have e5 := find_slots hs ts vm vq vf (.ref L) f1 f2 f3 f4 f5 f6 vt
  have e6 : typeLookup (.type "object") (Str.ofString "__weakref__") = pure none := by rw [typeLookup_type,builtinLookup_eq_fast]; kernel_rfl
  have e7 : (kEs hs ts vm vq vf (.ref L) f1 f2 f3 f4 f5 f6 vt).any (·.key.isStr (Str.ofString "obj")) = false := by kernel_rfl
  unfold Builtin.Slots.read
  rw [e5]
  wp_walk using (wpAny_collect_seq (T := "list") (n := n) (items := #[.str (Str.ofString "obj") t]) L (.inl rfl) hL rfl rfl)
  intro h' hk
  wp_walk
  have e8 : Builtin.Slots.isIdentifier (Str.ofString "obj") = some true := by kernel_rfl
  have e9 : (Str.ofString "obj" == Str.ofString "__dict__") = false := by kernel_rfl
  have e10 : (Str.ofString "obj" == Str.ofString "__weakref__") = false := by kernel_rfl
  have e11 : (Str.ofString "obj" == Str.ofString "__del__") = false := by kernel_rfl
  have e12 : Builtin.Slots.mangle (Str.ofString "K") (Str.ofString "obj") = Str.ofString "obj" := by kernel_rfl
  rw [e8]
  rw [e9,e10]
  wp_walk
  have key := k h' hk
  refine Eq.mp (congrArg (fun p => Q p { s with heap := h' }) ?_) key
  kernel_rfl
end
section
open PySem.AutoSeq1 (wpAny_loadPart')
theorem slots_read' {w : World} {A : Around} {s : Shared} {Q : Builtin.Slots.Plan -> Shared -> Prop} {E : Value -> Shared -> Prop} {hs : Nat -> Int} {ts : Nat -> Tok} {vm vq vf f1 f2 f3 f4 f5 f6 vt : Value} {L : Addr} {n : Nat} {t : Tok} {bs : List Value}
    (hL : s.heap.get? L = some { cls := .type "list",data := .seq #[.str (Str.ofString "obj") t] n }) (hb : bs = [.type "object"])
    (k : ∀ h',(∀ b o,s.heap.get? b = some o -> h'.get? b = some o) -> Q kPlan { s with heap := h' }) :
    wpAny (MM w) A (Builtin.Slots.read (Str.ofString "K") bs (kEs hs ts vm vq vf (.ref L) f1 f2 f3 f4 f5 f6 vt)) Q E s := by
  subst hb
  exact slots_read hs ts vm vq vf f1 f2 f3 f4 f5 f6 vt hL k
structure KIn where
  hs : Nat -> Int
  ts : Nat -> Tok
  (vm vq vf f1 f2 f3 f4 f5 f6 vt : Value)
  (L B nsA : Addr)
  (n nn nb : Nat)
  (t tn : Tok)
namespace KIn
noncomputable abbrev es (k : KIn) : Array DictEntry := kEs k.hs k.ts k.vm k.vq k.vf (.ref k.L) k.f1 k.f2 k.f3 k.f4 k.f5 k.f6 k.vt
structure Ok (k : KIn) (h : Heap) : Prop where
  hL : h.get? k.L = some { cls := .type "list",data := .seq #[.str (Str.ofString "obj") k.t] k.n }
  hB : h.get? k.B = some { cls := .type "tuple",data := .seq #[.type "object"] k.nb }
  hN : h.get? k.nsA = some { cls := .type "dict",data := .dict k.es k.nn }
  hsys : (k.nsA == sysModules) = false
end KIn
noncomputable def seg1 (k : KIn) : (T : Sem PySem.Fin) ×' (∀ {w : World} {A : Around} {s : Shared} {Q : PySem.Fin -> Shared -> Prop} {E : Value -> Shared -> Prop},k.Ok s.heap ->
    (∀ h',(∀ b o,s.heap.get? b = some o -> h'.get? b = some o) -> wpAny (MM w) A T Q E { s with heap := h' }) ->
    PLift (wpAny (MM w) A (Builtin.«type.__new__» ⟨[.type "type", .str (Str.ofString "K") k.tn, .ref k.B, .ref k.nsA], []⟩) Q E s)) := by
  apply PSigma.mk
  intro w A s Q E O K
  refine PLift.up ?_
  have e1 : isSubtype (Value.type "tuple") (Value.type "tuple") = pure true := by rw [isSubtype_type]; kernel_rfl
  have e2 : isSubtype (Value.type "dict") (Value.type "dict") = pure true := by rw [isSubtype_type]; kernel_rfl
  have e3 : isSubtype (Value.type "type") (Value.type ((Manifest.find? "object").elim "type" fun x => x.metatype)) = pure true := by rw [isSubtype_type]; kernel_rfl
  have e4 : isSubtype (Value.type "object") (Value.type "object") = pure true := by rw [isSubtype_type]; kernel_rfl
  have e5 : typeLookup (.type "dict") (Str.ofString "__iter__") = pure (some (.builtin "dict.__iter__")) := by rw [typeLookup_type,builtinLookup_eq_fast]; kernel_rfl
  obtain ⟨hL,hB,hN,hsys⟩ := O
  obtain ⟨hh,g,d,tk,os⟩ := s
  unfold Builtin.«type.__new__»
  wp_walk using slots_read'
  case hL => exact hL
  case hb => rfl
  intro h' hk
  exact K h' hk
end
section
section
variable {w : World} {α : Type} {A : Around} {E : Value -> Shared -> Prop} {s : Shared}
theorem ifF {Q : α -> Shared -> Prop} {b : Bool} {x y : Sem α} (hb : b = false) (h : wpAny (MM w) A y Q E s) : wpAny (MM w) A (if b = true then x else y) Q E s := by rw [if_neg (by rw [hb]; simp)]; exact h
end
noncomputable def kDict (es : Array DictEntry) (n : Nat) : Obj := { cls := .type "dict",data := .dict es n }
structure KS (h0 h : Heap) (ns a : Addr) (od oa : Obj) : Prop where
  keep : ∀ b o,h0.get? b = some o -> h.get? b = some o
  d : h.get? ns = some od
  c : h.get? a = some oa
  l0 : h0.objs.size <= ns
  l1 : ns < a
  sz : h0.objs.size <= h.objs.size
namespace KS
variable {h0 h : Heap} {ns a : Addr} {od oa : Obj}
theorem ne (S : KS h0 h ns a od oa) : ns ≠ a := Nat.ne_of_lt S.l1
theorem setC (S : KS h0 h ns a od oa) (f : Obj -> Obj) (hf : (f oa).isFreed = false) : KS h0 (h.update a f) ns a od (f oa) :=
  ⟨fun b o e => Heap.get?_update_of_ne f (Ne.symm (Nat.ne_of_lt (Nat.lt_of_lt_of_le (Heap.lt_size e) (Nat.le_trans S.l0 (Nat.le_of_lt S.l1))))) (S.keep b o e),Heap.get?_update_of_ne f (Ne.symm S.ne) S.d,Heap.get?_update_self f S.c hf,S.l0,S.l1,by rw [(Heap.SameBut.update (a := a) (h := h) (f := f)).1]; exact S.sz⟩
theorem setD (S : KS h0 h ns a od oa) (f : Obj -> Obj) (hf : (f od).isFreed = false) : KS h0 (h.update ns f) ns a (f od) oa :=
  ⟨fun b o e => Heap.get?_update_of_ne f (Ne.symm (Nat.ne_of_lt (Nat.lt_of_lt_of_le (Heap.lt_size e) S.l0))) (S.keep b o e),Heap.get?_update_self f S.d hf,Heap.get?_update_of_ne f S.ne S.c,S.l0,S.l1,by rw [(Heap.SameBut.update (a := ns) (h := h) (f := f)).1]; exact S.sz⟩
theorem push (S : KS h0 h ns a od oa) (o : Obj) : KS h0 (h.push o) ns a od oa :=
  ⟨fun b o' e => Heap.get?_push_of_some _ (S.keep b o' e),Heap.get?_push_of_some _ S.d,Heap.get?_push_of_some _ S.c,S.l0,S.l1,by rw [Heap.size_push]; exact Nat.le_succ_of_le S.sz⟩
theorem mono {h' : Heap} (S : KS h0 h ns a od oa) (k : ∀ b o,h.get? b = some o -> h'.get? b = some o) (z : h.objs.size <= h'.objs.size) : KS h0 h' ns a od oa :=
  ⟨fun b o e => k b o (S.keep b o e),k _ _ S.d,k _ _ S.c,S.l0,S.l1,Nat.le_trans S.sz z⟩
end KS
section
variable {w : World} {A : Around} {E : Value -> Shared -> Prop} {h0 h : Heap} {g : Array GenState} {d : Drawn} {t : Nat} {os : OsState} {ns a : Addr} {od oa : Obj} {name : Str}
theorem ks_alloc {o : Obj} {Q : Addr -> Shared -> Prop} (hk : ∀ b o,h0.get? b = some o -> h.get? b = some o) (hd : h.get? ns = some od) (hl : h0.objs.size <= ns) (hz : h0.objs.size <= h.objs.size)
    (hf : o.isFreed = false) (k : ∀ h' a,KS h0 h' ns a od o -> Q a ⟨h',g,d,t,os⟩) : wpAny (MM w) A (alloc o) Q E ⟨h,g,d,t,os⟩ :=
  wpAny_alloc (k _ _ ⟨fun b o' e => Heap.get?_push_of_some _ (hk b o' e),Heap.get?_push_of_some _ hd,Heap.get?_push_size _ hf,hl,Heap.lt_size hd,by rw [Heap.size_push]; exact Nat.le_succ_of_le hz⟩)
theorem ks_nsGet {r : Option Value} {Q : Option Value -> Shared -> Prop} (S : KS h0 h ns a od oa) (hl : nsLook name od = pure r) (hq : Q r ⟨h,g,d,t,os⟩) : wpAny (MM w) A (nsGet ns name) Q E ⟨h,g,d,t,os⟩ := by
  unfold nsGet
  refine wpAny_bind (wpAny_loadPart S.d ?_)
  rw [hl]; exact wpAny_pure hq
theorem nsGet_ex {r : Option Value} {o : Obj} {Q : Option Value -> Shared -> Prop} (S : h.get? a = some o) (hl : nsLook name o = pure r) (hq : Q r ⟨h,g,d,t,os⟩) : wpAny (MM w) A (nsGet a name) Q E ⟨h,g,d,t,os⟩ := by
  unfold nsGet
  refine wpAny_bind (wpAny_loadPart S ?_)
  rw [hl]; exact wpAny_pure hq
theorem ks_nsDel {Q : Bool -> Shared -> Prop} (S : KS h0 h ns a od oa) (hl : nsHas name od = pure true) (hf : (Obj.dropName name od).isFreed = false) (k : ∀ h',KS h0 h' ns a (Obj.dropName name od) oa -> Q true ⟨h',g,d,t,os⟩) : wpAny (MM w) A (nsDel ns name) Q E ⟨h,g,d,t,os⟩ := by
  unfold nsDel
  refine wpAny_bind (wpAny_loadPart S.d ?_)
  rw [hl]
  refine wpAny_bind (wpAny_pure ?_)
  rw [if_pos rfl]
  exact wpAny_bind (wpAny_updatePart S.d (wpAny_pure (k _ (S.setD _ hf))))
theorem ks_setSlotAt {i : Nat} {v : Option Value} {Q : Unit -> Shared -> Prop} (S : KS h0 h ns a od oa) (hi : i < sizeLine) (hf : ({ oa with slots := (oa.slots ++ Array.replicate (i + 1 - oa.slots.size) none).setIfInBounds i v } : Obj).isFreed = false)
    (k : ∀ h',KS h0 h' ns a od { oa with slots := (oa.slots ++ Array.replicate (i + 1 - oa.slots.size) none).setIfInBounds i v } -> Q () ⟨h',g,d,t,os⟩) : wpAny (MM w) A (setSlotAt a i v) Q E ⟨h,g,d,t,os⟩ := by
  unfold setSlotAt
  rw [if_neg (Nat.not_le.mpr hi)]
  exact wpAny_updatePart S.c (k _ (S.setC (fun o => { o with slots := (o.slots ++ Array.replicate (i + 1 - o.slots.size) none).setIfInBounds i v }) hf))
theorem ks_updateCls {f : ClassData -> ClassData} {cd : ClassData} {Q : Unit -> Shared -> Prop} (S : KS h0 h ns a od oa) (hd : oa.data = .cls cd) (hp : (Obj.mapCls f oa).data.pastItsLine = none) (hf : (Obj.mapCls f oa).isFreed = false)
    (k : ∀ h',KS h0 h' ns a od (Obj.mapCls f oa) -> Q () ⟨h',g,d,t,os⟩) : wpAny (MM w) A (updateCls a f) Q E ⟨h,g,d,t,os⟩ := by
  unfold updateCls
  refine wpAny_bind (wpAny_load S.c ?_)
  rw [hd]
  have S' := S.setC (Obj.mapCls f) hf
  exact wpAny_bind (wpAny_update S.c (wpAny_lookBehind S'.c hp (k _ S')))
end
noncomputable def kCls0 (k : KIn) (ns : Addr) (q : Str) : Obj := { cls := .type "type",data := .cls { name := Str.ofString "K",bases := [.type "object"],mro := [],ns := ns,qualname := q } }
section
variable (k : KIn)
theorem lk_qual : nsLook (Str.ofString "__qualname__") (kDict k.es 0) = pure (some k.vq) := by kernel_rfl
theorem lk_doc : nsLook (Str.ofString "__doc__") (kDict k.es 0) = pure none := by kernel_rfl
end
end
local macro_rules | `(tactic| wp_step) => `(tactic| first
  | with_reducible refine ifT (by assumption) ?_
  | with_reducible refine ifF (by assumption) ?_)
section
noncomputable abbrev kQ : Str := Str.ofString "cmp_to_key.<locals>.K"
noncomputable def seg2 (k : KIn) (tq : Tok) : (T : Addr -> Addr -> Sem PySem.Fin) ×' (∀ {w : World} {A : Around} {s : Shared} {Q : PySem.Fin -> Shared -> Prop} {E : Value -> Shared -> Prop},k.vq = .str kQ tq ->
    (∀ h' ns a,KS s.heap h' ns a (kDict k.es 0) (kCls0 k ns kQ) -> wpAny (MM w) A (T ns a) Q E { s with heap := h' }) -> 
    PLift (wpAny (MM w) A (seg1 k).1 Q E s)) := by
  apply PSigma.mk
  intro w A s Q E hq K
  refine PLift.up ?_
  obtain ⟨hh,g,d,tk,os⟩ := s
  delta seg1
  dsimp -zeta only
  refine wpAny_bind (wpAny_newObj_type ?_ (show 12 <= sizeLine + 1 by decide))
  dsimp -zeta only
  have l1 : ((Str.ofString "K").cps.any fun c => decide (55296 <= c) && decide (c <= 57343)) = false := by kernel_rfl
  have l2 : (Str.ofString "K").cps.contains 0 = false := by kernel_rfl
  have lm : (k.es.any fun x => x.key.isStr (Str.ofString "__module__")) = true := by kernel_rfl
  have lq := lk_qual k
  rw [hq] at lq
  have hns : (hh.push (kDict k.es 0)).get? hh.objs.size = some (kDict k.es 0) := Heap.get?_push_size _ rfl
  have hkp : ∀ b o,hh.get? b = some o -> (hh.push (kDict k.es 0)).get? b = some o := fun b o e => Heap.get?_push_of_some _ e
  have hz0 : hh.objs.size <= (hh.push (kDict k.es 0)).objs.size := by rw [Heap.size_push]; lia
  have hl0 : hh.objs.size <= hh.objs.size := Nat.le_refl _
  show wpAny _ _ _ _ _ ⟨hh.push (kDict k.es 0), _, _, _, _⟩
  generalize hh.push (kDict k.es 0) = h1 at hns hkp hz0 ⊢
  generalize hns' : hh.objs.size = ns at hns ⊢
  rw [hns'] at hz0
  have hl : hh.objs.size <= ns := by lia
  rw [<- hns'] at hz0
  wp_walk using nsGet_ex hns lq,nsGet_ex hns (lk_doc k),ks_alloc hkp hns hl hz0
  case hf => rfl
  intro h' a S
  exact K h' ns a S
end
section
noncomputable def kCls (cd : ClassData) (sl : Array (Option Value)) : Obj := { cls := .type "type",data := .cls cd,slots := sl }
noncomputable def slPut (sl : Array (Option Value)) (i : Nat) (v : Option Value) : Array (Option Value) := (sl ++ Array.replicate (i + 1 - sl.size) none).setIfInBounds i v
section
variable {w : World} {A : Around} {E : Value -> Shared -> Prop} {h0 h : Heap} {g : Array GenState} {d : Drawn} {t : Nat} {os : OsState} {ns a : Addr} {od oa : Obj} {name : Str}
theorem ks_slot {i : Nat} {v : Option Value} {cd : ClassData} {sl : Array (Option Value)} {Q : Unit -> Shared -> Prop} (S : KS h0 h ns a od (kCls cd sl)) (hi : i < sizeLine)
    (k : ∀ h',KS h0 h' ns a od (kCls cd (slPut sl i v)) -> Q () ⟨h',g,d,t,os⟩) : wpAny (MM w) A (setSlotAt a i v) Q E ⟨h,g,d,t,os⟩ :=
  ks_setSlotAt S hi rfl k
theorem ks_del {es es' : Array DictEntry} {n n' : Nat} {Q : Bool -> Shared -> Prop} (S : KS h0 h ns a (kDict es n) oa) (hl : nsHas name (kDict es n) = pure true) (he : Obj.dropName name (kDict es n) = kDict es' n') (k : ∀ h',KS h0 h' ns a (kDict es' n') oa -> Q true ⟨h',g,d,t,os⟩) : wpAny (MM w) A (nsDel ns name) Q E ⟨h,g,d,t,os⟩ :=
  ks_nsDel S hl (by rw [he]; rfl) (by rw [he]; exact k)
end
noncomputable def kCd (ns : Addr) : ClassData := { name := Str.ofString "K",bases := [.type "object"],mro := [],ns := ns,qualname := kQ }
theorem ks_upd {w : World} {A : Around} {E : Value -> Shared -> Prop} {h0 h : Heap} {g : Array GenState} {d : Drawn} {t : Nat} {os : OsState} {ns a : Addr} {od : Obj} {f : ClassData -> ClassData} {cd : ClassData} {sl : Array (Option Value)} {Q : Unit -> Shared -> Prop} (cd' : ClassData) (S : KS h0 h ns a od (kCls cd sl)) (he : f cd = cd') (hp : (Data.cls cd').pastItsLine = none)
    (k : ∀ h',KS h0 h' ns a od (kCls cd' sl) -> Q () ⟨h',g,d,t,os⟩) : wpAny (MM w) A (updateCls a f) Q E ⟨h,g,d,t,os⟩ := by
  subst he
  exact ks_updateCls S rfl hp rfl k
noncomputable def kCd1 (ns a : Addr) : ClassData := { kCd ns with mro := [.ref a, .type "object"] }
namespace KIn
noncomputable abbrev es1 (k : KIn) : Array DictEntry := k.es.eraseIdxIfInBounds 1
end KIn
section
variable (k : KIn)
theorem has_qual : nsHas (Str.ofString "__qualname__") (kDict k.es 0) = pure true := by kernel_rfl
theorem drop_qual : Obj.dropName (Str.ofString "__qualname__") (kDict k.es 0) = kDict k.es1 1 := by kernel_rfl
theorem lk1_new : nsLook (Str.ofString "__new__") (kDict k.es1 1) = pure none := by kernel_rfl
theorem lk1_isub : nsLook (Str.ofString "__init_subclass__") (kDict k.es1 1) = pure none := by kernel_rfl
theorem lk1_gi : nsLook (Str.ofString "__class_getitem__") (kDict k.es1 1) = pure none := by kernel_rfl
theorem lk1_cc : nsLook (Str.ofString "__classcell__") (kDict k.es1 1) = pure none := by kernel_rfl
theorem lk1_cd : nsLook (Str.ofString "__classdictcell__") (kDict k.es1 1) = pure none := by kernel_rfl
end
local macro_rules | `(tactic| wp_step) => `(tactic| first
  | ((with_reducible refine ks_slot (by assumption) ?hi ?_); (case hi => decide); intro h S)
  | (with_reducible refine ks_nsGet (by assumption) (by assumption) ?_))
noncomputable def kSl3 (B : Addr) (tn tq : Tok) : Array (Option Value) := slPut (slPut (slPut #[] 0 (some (.ref B))) 2 (some (.str (Str.ofString "K") tn))) 3 (some (.str kQ tq))
noncomputable def seg3 (k : KIn) (tq : Tok) : { T : Addr -> Addr -> Sem PySem.Fin // ∀ {w : World} {A : Around} {h0 h : Heap} {ns a : Addr} {g : Array GenState} {d : Drawn} {tk : Nat} {os : OsState} {Q : PySem.Fin -> Shared -> Prop} {E : Value -> Shared -> Prop},KS h0 h ns a (kDict k.es 0) (kCls0 k ns kQ) ->
    (∀ h',KS h0 h' ns a (kDict k.es1 1) (kCls (kCd1 ns a) (kSl3 k.B k.tn tq)) -> wpAny (MM w) A (T ns a) Q E ⟨h',g,d,tk,os⟩) ->
    wpAny (MM w) A ((seg2 k tq).1 ns a) Q E ⟨h,g,d,tk,os⟩ } := by
  apply Subtype.mk
  intro w A h0 h ns a g d tk os Q E S K
  delta seg2
  dsimp -zeta only
  have S : KS h0 h ns a (kDict k.es 0) (kCls (kCd ns) #[]) := S
  have e1 := lk1_new k
  have e2 := lk1_isub k
  have e3 := lk1_gi k
  have e4 := lk1_cc k
  have e5 := lk1_cd k
  have t1 : typeLookup (.type "type") (Str.ofString "mro") = pure (some (.builtin "type.mro")) := by rw [typeLookup_type,builtinLookup_eq_fast]; kernel_rfl
  have t2 : mroOf (.type "object") = pure [.type "object"] := by rw [mroOf_type]; kernel_rfl
  wp_walk using ks_del (by assumption) (has_qual k) (drop_qual k)
  intro h S
  wp_walk
  have flt : List.filter (fun x => x != Value.ref a) (Value.ref a :: (fun x => Value.type "object" :: x) []) = [.type "object"] := by simp
  rw [flt]
  wp_walk using ks_upd (kCd1 ns a) S
  case he => kernel_rfl
  case hp => kernel_rfl
  exact K
end
section
theorem lookup_own {w : World} {A : Around} {E : Value -> Shared -> Prop} {h : Heap} {g : Array GenState} {d : Drawn} {t : Nat} {os : OsState} {a : Addr} {od oa : Obj} {cd : ClassData} {name : Str} {v : Value} {ms : List Value} {Q : Option Value -> Shared -> Prop}
    (ha : h.get? a = some oa) (hd : oa.data = .cls cd) (hm : cd.mro = .ref a :: ms) (ho : h.get? cd.ns = some od) (hl : nsLook name od = pure (some v)) (k : Q (some v) ⟨h,g,d,t,os⟩) : wpAny (MM w) A (typeLookup (.ref a) name) Q E ⟨h,g,d,t,os⟩ := by
  obtain ⟨c,dd,dt,sl⟩ := oa
  cases hd
  unfold typeLookup
  wp_walk
  rw [hm]
  wp_walk using nsGet_ex ho hl
  exact k
theorem lookup_obj {w : World} {A : Around} {E : Value -> Shared -> Prop} {h : Heap} {g : Array GenState} {d : Drawn} {t : Nat} {os : OsState} {a : Addr} {od oa : Obj} {cd : ClassData} {name : Str} {r : Option Value} {Q : Option Value -> Shared -> Prop}
    (ha : h.get? a = some oa) (hd : oa.data = .cls cd) (hm : cd.mro = [.ref a, .type "object"]) (ho : h.get? cd.ns = some od) (hl : nsLook name od = pure none) (hb : builtinOwn "object" name = r) (k : Q r ⟨h,g,d,t,os⟩) : wpAny (MM w) A (typeLookup (.ref a) name) Q E ⟨h,g,d,t,os⟩ := by
  obtain ⟨c,dd,dt,sl⟩ := oa
  cases hd
  unfold typeLookup
  wp_walk
  rw [hm]
  wp_walk using nsGet_ex ho hl
  rw [hb]
  cases r
  all_goals (iterate 8 (first | done | exact k | wp_step))
end
section
theorem ks_slotAt {w : World} {A : Around} {E : Value -> Shared -> Prop} {h0 h : Heap} {g : Array GenState} {d : Drawn} {t : Nat} {os : OsState} {ns a : Addr} {od : Obj} {cd : ClassData} {sl : Array (Option Value)} {i : Nat} {r : Option Value} {Q : Option Value -> Shared -> Prop} (S : KS h0 h ns a od (kCls cd sl)) (he : (sl[i]?).join = r)
    (k : Q r ⟨h,g,d,t,os⟩) : wpAny (MM w) A (slotAt a i) Q E ⟨h,g,d,t,os⟩ := by
  subst he
  unfold slotAt
  exact wpAny_bind (wpAny_loadPart S.c (wpAny_pure k))
noncomputable def kSl4 (B : Addr) (tn tq : Tok) : Array (Option Value) := slPut (kSl3 B tn tq) 4 (some (.builtin "object.__new__"))
theorem kSl4_at {B : Addr} {tn tq : Tok} : ((kSl4 B tn tq)[4]?).join = some (.builtin "object.__new__") := by kernel_rfl
structure KT (h0 h : Heap) (ns a m : Addr) (od oa om : Obj) : Prop extends KS h0 h ns a od oa where
  mm : h.get? m = some om
  l2 : a < m
namespace KT
variable {h0 h : Heap} {ns a m : Addr} {od oa om : Obj}
theorem setC (S : KT h0 h ns a m od oa om) (f : Obj -> Obj) (hf : (f oa).isFreed = false) : KT h0 (h.update a f) ns a m od (f oa) om :=
  ⟨S.toKS.setC f hf,Heap.get?_update_of_ne f (Nat.ne_of_lt S.l2) S.mm,S.l2⟩
theorem setD (S : KT h0 h ns a m od oa om) (f : Obj -> Obj) (hf : (f od).isFreed = false) : KT h0 (h.update ns f) ns a m (f od) oa om :=
  ⟨S.toKS.setD f hf,Heap.get?_update_of_ne f (Nat.ne_of_lt (Nat.lt_trans S.l1 S.l2)) S.mm,S.l2⟩
theorem push (S : KT h0 h ns a m od oa om) (o : Obj) : KT h0 (h.push o) ns a m od oa om := ⟨S.toKS.push o,Heap.get?_push_of_some _ S.mm,S.l2⟩
end KT
section
variable {w : World} {A : Around} {E : Value -> Shared -> Prop} {h0 h : Heap} {g : Array GenState} {d : Drawn} {t : Nat} {os : OsState} {ns a m : Addr} {od oa om : Obj} {name : Str}
theorem kt_nsSet {v : Value} {es : Array DictEntry} {n : Nat} {es' : Int -> Tok -> Array DictEntry} {n' : Nat} {Q : Unit -> Shared -> Prop} (S : KT h0 h ns a m (kDict es n) oa om) (hr : aRefKeyMayBeTheName name es = false)
    (he : ∀ hash tk,Obj.putName name hash (.str name tk) v (kDict es n) = kDict (es' hash tk) n')
    (k : ∀ h' hash tk,KT h0 h' ns a m (kDict (es' hash tk) n') oa om -> Q () ⟨h',g,d,t + 1,os⟩) : wpAny (MM w) A (nsSet ns name v) Q E ⟨h,g,d,t,os⟩ := by
  unfold nsSet strHash
  refine wpAny_bind (wpAny_bind (wpAny_askSetting ?_))
  refine wpAny_pure ?_
  refine wpAny_bind (wpAny_mkText ?_)
  refine wpAny_bind (wpAny_loadPart S.d ?_)
  dsimp only [kDict]
  rw [hr]
  refine wpAny_updatePart S.d ?_
  have key : ∀ H,KT h0 (h.update ns (Obj.putName name H (.str name t) v)) ns a m (kDict (es' H t) n') oa om := fun H => by rw [<- he]; exact S.setD _ (by rw [he]; rfl)
  exact k _ _ _ (key _)
theorem kt_nsSetV {v : Value} {es : Array DictEntry} {n : Nat} (es' : Int -> Tok -> Array DictEntry) (n' : Nat) {Q : Unit -> Shared -> Prop} (S : KT h0 h ns a m (kDict es n) oa om) (hz : es.size <= sizeLine) (hr : aRefKeyMayBeTheName name es = false)
    (he : ∀ hash tk,Obj.putName name hash (.str name tk) v (kDict es n) = kDict (es' hash tk) n')
    (k : ∀ h' hash tk,KT h0 h' ns a m (kDict (es' hash tk) n') oa om -> Q () ⟨h',g,d,t + 1,os⟩) : wpAny (MM w) A (nsSetByValue ns name v) Q E ⟨h,g,d,t,os⟩ := by
  unfold nsSetByValue
  refine wpAny_bind (wpAny_loadPart S.d ?_)
  dsimp only [kDict]
  rw [decide_eq_false (Nat.not_lt.mpr hz),Bool.false_and]
  exact kt_nsSet (es' := es') (n' := n') S hr he k
theorem ks_newMem {T : String} {vs : List Value} {Q : Value -> Shared -> Prop} (S : KS h0 h ns a od oa) (hz : vs.length <= sizeLine + 2)
    (k : ∀ h' m,KT h0 h' ns a m od oa { cls := .type T,data := .fields vs.toArray } -> Q (.ref m) ⟨h',g,d,t,os⟩) : wpAny (MM w) A (newFields T vs) Q E ⟨h,g,d,t,os⟩ := by
  unfold newFields
  exact wpAny_newObj_type (k _ _ ⟨S.push _,Heap.get?_push_size _ rfl,Heap.lt_size S.c⟩) (by simpa [sizeOk] using hz)
theorem kt_slot {i : Nat} {v : Option Value} {cd : ClassData} {sl : Array (Option Value)} {Q : Unit -> Shared -> Prop} (S : KT h0 h ns a m od (kCls cd sl) om) (hi : i < sizeLine)
    (k : ∀ h',KT h0 h' ns a m od (kCls cd (slPut sl i v)) om -> Q () ⟨h',g,d,t,os⟩) : wpAny (MM w) A (setSlotAt a i v) Q E ⟨h,g,d,t,os⟩ := by
  unfold setSlotAt
  rw [if_neg (Nat.not_le.mpr hi)]
  exact wpAny_updatePart S.c (k _ (S.setC (fun o => { o with slots := (o.slots ++ Array.replicate (i + 1 - o.slots.size) none).setIfInBounds i v }) rfl))
theorem kt_upd {f : ClassData -> ClassData} {cd : ClassData} {sl : Array (Option Value)} {Q : Unit -> Shared -> Prop} (cd' : ClassData) (S : KT h0 h ns a m od (kCls cd sl) om) (he : f cd = cd') (hp : (Data.cls cd').pastItsLine = none)
    (k : ∀ h',KT h0 h' ns a m od (kCls cd' sl) om -> Q () ⟨h',g,d,t,os⟩) : wpAny (MM w) A (updateCls a f) Q E ⟨h,g,d,t,os⟩ := by
  subst he
  unfold updateCls
  refine wpAny_bind (wpAny_load S.c ?_)
  have S' := S.setC (Obj.mapCls f) rfl
  exact wpAny_bind (wpAny_update S.c (wpAny_lookBehind S'.c hp (k _ S')))
end
noncomputable def kMem (a : Addr) (t : Tok) (b : Nat) : Obj := { cls := .type "member_descriptor",data := .fields #[.str (Str.ofString "obj") t, .ref a, .builtin "proto.slot", .builtin "proto.slot#set",rawInt b] }
noncomputable def kCd2 (ns a : Addr) : ClassData := { kCd1 ns a with hasDict := false,slotNames := [Str.ofString "obj"] }
namespace KIn
noncomputable abbrev es2 (k : KIn) (m : Addr) (hash : Int) (tk : Tok) : Array DictEntry := k.es1.push ⟨hash, .str (Str.ofString "obj") tk, .ref m⟩
end KIn
section
variable (k : KIn)
theorem lk1_obj : nsLook (Str.ofString "obj") (kDict k.es1 1) = pure none := by kernel_rfl
theorem rk1_obj : aRefKeyMayBeTheName (Str.ofString "obj") k.es1 = false := by kernel_rfl
theorem put_obj (m : Addr) (hash : Int) (tk : Tok) : Obj.putName (Str.ofString "obj") hash (.str (Str.ofString "obj") tk) (.ref m) (kDict k.es1 1) = kDict (k.es2 m hash tk) 2 := by kernel_rfl
end
theorem ks_install (k : KIn) {w : World} {A : Around} {E : Value -> Shared -> Prop} {h0 h : Heap} {g : Array GenState} {d : Drawn} {t : Nat} {os : OsState} {ns a : Addr} {sl : Array (Option Value)} {Q : Unit -> Shared -> Prop} {bs : List Value} (S : KS h0 h ns a (kDict k.es1 1) (kCls (kCd1 ns a) sl)) (hb : bs = [.type "object"])
    (K : ∀ h' m hash tk t' tk',KT h0 h' ns a m (kDict (k.es2 m hash tk) 2) (kCls (kCd2 ns a) sl) (kMem a tk' 0) -> Q () ⟨h',g,d,t',os⟩) :
    wpAny (MM w) A (Builtin.Slots.install (.ref a) ns bs kPlan) Q E ⟨h,g,d,t,os⟩ := by
  subst hb
  have hp : kPlan = { names := [Str.ofString "obj"],dict := false,weak := false,inherited := [] } := rfl
  rw [hp]
  have e1 := lk1_obj k
  have e2 : (([] : List Str).filter (fun x => x.length != 0)).length + [Str.ofString "obj"].length = 1 := rfl
  unfold Builtin.Slots.install
  dsimp -zeta only
  rw [e2]
  wp_walk using ks_nsGet S e1,ks_newMem S
  case hz => exact Nat.le_of_ble_eq_true rfl
  intro h m S
  wp_walk using kt_nsSetV (k.es2 m) 2 S
  case hz => exact Nat.le_of_ble_eq_true (by kernel_rfl)
  case hr => exact rk1_obj k
  case he => exact put_obj k m
  intro h hash tk S
  wp_walk using kt_upd (kCd2 ns a) S
  case he => kernel_rfl
  case hp => kernel_rfl
  intro h S
  exact K _ m hash tk _ _ S
end
section
namespace KIn
noncomputable abbrev es3 (k : KIn) (m : Addr) (hash : Int) (tk : Tok) (hash2 : Int) (tk2 : Tok) : Array DictEntry := (k.es2 m hash tk).push ⟨hash2, .str (Str.ofString "__doc__") tk2, .none⟩
end KIn
section
variable (k : KIn) (m : Addr) (hash : Int) (tk : Tok) (hash2 : Int) (tk2 : Tok)
theorem lk2_doc : nsLook (Str.ofString "__doc__") (kDict (k.es2 m hash tk) 2) = pure none := by kernel_rfl
theorem rk2_doc : aRefKeyMayBeTheName (Str.ofString "__doc__") (k.es2 m hash tk) = false := by kernel_rfl
theorem put_doc : Obj.putName (Str.ofString "__doc__") hash2 (.str (Str.ofString "__doc__") tk2) .none (kDict (k.es2 m hash tk) 2) = kDict (k.es3 m hash tk hash2 tk2) 3 := by kernel_rfl
theorem lk3_eq : nsLook (Str.ofString "__eq__") (kDict (k.es3 m hash tk hash2 tk2) 3) = pure (some k.f4) := by kernel_rfl
theorem lk3_hash : nsLook (Str.ofString "__hash__") (kDict (k.es3 m hash tk hash2 tk2) 3) = pure (some .none) := by kernel_rfl
end
theorem kt_slot' {w : World} {A : Around} {E : Value -> Shared -> Prop} {h0 h : Heap} {g : Array GenState} {d : Drawn} {t : Nat} {os : OsState} {ns a m : Addr} {od om : Obj} {i : Nat} {v : Option Value} (v' : Option Value) {cd : ClassData} {sl : Array (Option Value)} {Q : Unit -> Shared -> Prop} (S : KT h0 h ns a m od (kCls cd sl) om) (he : v = v') (hi : i < sizeLine)
    (k : ∀ h',KT h0 h' ns a m od (kCls cd (slPut sl i v')) om -> Q () ⟨h',g,d,t,os⟩) : wpAny (MM w) A (setSlotAt a i v) Q E ⟨h,g,d,t,os⟩ := by
  subst he
  exact kt_slot S hi k
noncomputable def kSl5 (B : Addr) (tn tq : Tok) : Array (Option Value) := slPut (kSl4 B tn tq) 5 (some (.bool false))
local macro_rules | `(tactic| wp_step) => `(tactic| first
  | ((with_reducible refine ks_slot (by assumption) ?hi ?_); (case hi => decide); intro h S)
  | (with_reducible refine ks_nsGet (KT.toKS (by assumption)) (by assumption) ?_)
  | (with_reducible refine ks_nsGet (by assumption) (by assumption) ?_)
  | (with_reducible refine ks_slotAt (by assumption) (by assumption) ?_))
noncomputable def Stop (p : Prop) : Prop := p
theorem tryStop {M : Model} {A : Around} {α : Type} {E : Value -> Shared -> Prop} {s : Shared} {vs : List Value} {m : Sem α} {k : Value -> Sem α} {Q : α -> Shared -> Prop} (h : Stop (wpAny M A m Q (fun e s' => wpAny M A (k e) Q E s') s)) :
    wpAny M A (Sem.tryCatch (holding vs m) k) Q E s := wpAny_tryCatch (wpAny_holding h)
noncomputable def seg4 (k : KIn) (tq : Tok) : { T : Addr -> Addr -> Sem Unit // ∀ {w : World} {A : Around} {h0 h : Heap} {ns a : Addr} {g : Array GenState} {d : Drawn} {tk : Nat} {os : OsState} {Q : PySem.Fin -> Shared -> Prop} {E : Value -> Shared -> Prop},KS h0 h ns a (kDict k.es1 1) (kCls (kCd1 ns a) (kSl3 k.B k.tn tq)) ->
    (∀ h' m hash tk2 tk3 hash4 tk4 t' E',KT h0 h' ns a m (kDict (k.es3 m hash tk2 hash4 tk4) 3) (kCls (kCd2 ns a) (kSl5 k.B k.tn tq)) (kMem a tk3 0) -> wpAny (MM w) A (T ns a) (fun _ s' => Q (.done (.ret (.ref a))) s') E' ⟨h',g,d,t',os⟩) ->
    wpAny (MM w) A ((seg3 k tq).1 ns a) Q E ⟨h,g,d,tk,os⟩ } := by
  apply Subtype.mk
  intro w A h0 h ns a g d tk os Q E S K
  delta seg3
  dsimp -zeta only
  have e1 : Bind.madeBy (.type "object") = pure (some "object.__new__") := madeBy_type (c := .type "object") (tl := []) (by rw [mroOf_type]; kernel_rfl) (by rw [typeLookup_type,builtinLookup_eq_fast]; kernel_rfl) (by decide +kernel)
  have e2 := lk1_new k
  have e3 := @kSl4_at k.B k.tn tq
  have e4 : builtinOwn "object" (Str.ofString "__new__") = some (.builtin "object.__new__") := by kernel_rfl
  have e5 : (!("object.__new__".endsWith ".__new__")) = false := by decide +kernel
  wp_walk using ks_slot S
  case hi => decide
  intro h S
  have S : KS h0 h ns a (kDict k.es1 1) (kCls (kCd1 ns a) (kSl4 k.B k.tn tq)) := S
  have Sc : h.get? a = some { cls := .type "type",data := .cls { name := Str.ofString "K",bases := [.type "object"],mro := [.ref a, .type "object"],ns := ns,qualname := kQ },slots := kSl4 k.B k.tn tq } := S.c
  wp_walk
  refine lookup_obj (cd := kCd1 ns a) S.c rfl rfl S.d e2 e4 ?_
  wp_walk using ks_install k S
  case hb => rfl
  intro h m hash tk2 tk tk3 S
  have t1 : typeLookup (.type "object") (Str.ofString "__weakref__") = pure none := by rw [typeLookup_type,builtinLookup_eq_fast]; kernel_rfl
  have p1 : kPlan.dict = false := rfl
  have p2 : kPlan.weak = false := rfl
  have l2 := lk2_doc k m hash tk2
  wp_walk using kt_slot' (some (.bool false)) S
  case he => kernel_rfl
  case hi => decide
  intro h S
  have S : KT h0 h ns a m (kDict (k.es2 m hash tk2) 2) (kCls (kCd2 ns a) (kSl5 k.B k.tn tq)) (kMem a tk3 0) := S
  wp_walk using kt_nsSet (es' := k.es3 m hash tk2) (n' := 3) S
  case hr => exact rk2_doc k m hash tk2
  case he => exact put_doc k m hash tk2
  intro h hash4 tk4 S
  have l3 := lk3_eq k m hash tk2 hash4 tk4
  have l4 := lk3_hash k m hash tk2 hash4 tk4
  wp_walk using tryStop
  delta Stop
  refine wpAny_mono (Q := fun _ s' => Q (.done (.ret (.ref a))) s') (K h m hash tk2 tk3 hash4 tk4 _ _ S) (fun _ s' q => ?_) (fun _ _ e => e)
  wp_walk
  exact q
end
section
theorem slot_cmd_get : PySem.Slot "classmethod_descriptor" "__get__" "classmethod_descriptor.__get__" := .of (owner := "classmethod_descriptor") (n := "__get__") (by rw [typeLookup_type,builtinLookup_eq_fast]; kernel_rfl) (by decide +kernel) (by decide +kernel) (by decide +kernel)
  (by first | exact .inl (by decide +kernel) | exact .inr (by decide +kernel)) (by rw [isSubtype_type]; kernel_rfl)
theorem entry_cmd_get : entryFor table "classmethod_descriptor.__get__" = some Builtin.«classmethod_descriptor.__get__» := entryFor_of_tree (by kernel_rfl)
theorem args_cmd_get (a b c : Value) : argsOk "classmethod_descriptor.__get__" ⟨[a,b,c], []⟩ := by unfold argsOk; kernel_rfl
section
variable {w : World} {A : Around} {E : Value -> Shared -> Prop} {h : Heap} {g : Array GenState} {d : Drawn} {t : Nat} {os : OsState} {a : Addr} {oa : Obj} {cd : ClassData}
theorem classData_at {Q : ClassData -> Shared -> Prop} (ha : h.get? a = some oa) (hd : oa.data = .cls cd) (q : Q cd ⟨h,g,d,t,os⟩) : wpAny (MM w) A (classData a) Q E ⟨h,g,d,t,os⟩ := by
  unfold classData
  refine wpAny_bind (wpAny_load ha ?_)
  rw [hd]; exact wpAny_pure q
theorem mro_at {Q : List Value -> Shared -> Prop} (ha : h.get? a = some oa) (hd : oa.data = .cls cd) (q : Q cd.mro ⟨h,g,d,t,os⟩) : wpAny (MM w) A (mroOf (.ref a)) Q E ⟨h,g,d,t,os⟩ := by
  unfold mroOf
  exact wpAny_bind (classData_at ha hd (wpAny_pure q))
theorem sub_at {b : Value} {r : Bool} {Q : Bool -> Shared -> Prop} (ha : h.get? a = some oa) (hd : oa.data = .cls cd) (hm : cd.mro = [.ref a, .type "object"]) (hb : ([.ref a, .type "object"] : List Value).contains b = r) (q : Q r ⟨h,g,d,t,os⟩) : wpAny (MM w) A (isSubtype (.ref a) b) Q E ⟨h,g,d,t,os⟩ := by
  unfold isSubtype
  refine wpAny_bind (mro_at ha hd ?_)
  rw [hm]
  wp_walk
  rw [hb]; exact q
theorem call_super_cls {Q : Value -> Shared -> Prop} (ha : h.get? a = some oa) (hd : oa.data = .cls cd) (hm : cd.mro = [.ref a, .type "object"])
    (hq : ∀ h',h'.get? h.objs.size = some { cls := .type "super",dict := none,data := .fields #[.ref a, .ref a, .ref a],slots := #[] } -> (∀ y o,h.get? y = some o -> h'.get? y = some o) -> Q (.ref h.objs.size) ⟨h',g,d,t,os⟩) :
    wpAny (MM w) A (call (.type "super") [.ref a, .ref a]) Q E ⟨h,g,d,t,os⟩ := by
  refine ks_callType_codesW (Q₁ := fun obj s₁ => obj = .ref h.objs.size ∧ s₁ = ⟨h.push { cls := .type "super",data := .fields #[.none, .none, .none] },g,d,t,os⟩) F.ks_called_super (ks_wpAny_checkTypeCall_super ha hd) F.ks_entry_super_init
    (ks_code_super_new _ _ ⟨rfl,rfl⟩) fun obj s₁ h₁ => ?_
  obtain ⟨rfl,rfl⟩ := h₁
  have up : ∀ y o,h.get? y = some o -> (h.push { cls := .type "super",data := .fields #[.none, .none, .none] }).get? y = some o := fun y o e => Heap.get?_push_of_some _ e
  have hso : (h.push { cls := .type "super",data := .fields #[.none, .none, .none] }).get? h.objs.size = some { cls := .type "super",dict := none,data := .fields #[.none, .none, .none],slots := #[] } := Heap.get?_push_at rfl rfl
  have ha' := up _ _ ha
  refine ⟨⟨_,hso,rfl⟩,F.ks_initArgs_super _ _ _, ?_⟩
  have hb : ([.ref a, .type "object"] : List Value).contains (.ref a) = true := by simp
  unfold Builtin.«super.__init__» noKeywords
  repeat (first | (with_reducible refine ks_wpAny_isType_cls ha' hd ?_) | (with_reducible refine sub_at ha' hd hm hb ?_) | (with_reducible refine ks_wpAny_super_set3 hso ?_) | wp_step)
  all_goals (intro h' e k; exact ⟨rfl,hq h' e fun y o ey => k y o (Nat.ne_of_lt (Heap.lt_size ey)) (up y o ey)⟩)
theorem notOpaque {what how : String} {oS : Obj} {Q : Unit -> Shared -> Prop} (hS : h.get? cStatics = some oS) (hl : nsLook (Str.ofString "thirdparty.any") oS = pure none) (q : Q () ⟨h,g,d,t,os⟩) : wpAny (MM w) A (notOfAnOpaqueClass what how (.ref a)) Q E ⟨h,g,d,t,os⟩ := by
  unfold notOfAnOpaqueClass opaqueClassAbove anyOpaqueLoaded
  wp_walk using nsGet_ex hS hl
  exact q
theorem super_ga {so : Addr} {oS : Obj} {tk : Tok} {Q : PySem.Fin -> Shared -> Prop} (ha : h.get? a = some oa) (hd : oa.data = .cls cd) (hm : cd.mro = [.ref a, .type "object"]) (hS : h.get? cStatics = some oS) (hl : nsLook (Str.ofString "thirdparty.any") oS = pure none)
    (hso : h.get? so = some { cls := .type "super",dict := none,data := .fields #[.ref a, .ref a, .ref a],slots := #[] })
    (hq : Q (.done (.ret (.ref h.objs.size))) ⟨h.push { cls := .type "builtin_function_or_method",data := .fields #[.builtin "object.__init_subclass__", .ref a] },g,d,t,os⟩) :
    wpAny (MM w) A (Builtin.«super.__getattribute__» ⟨[.ref so, .str (Str.ofString "__init_subclass__") tk], []⟩) Q E ⟨h,g,d,t,os⟩ := by
  have hdt : ({ cls := .type "super",dict := none,data := .fields #[.ref a, .ref a, .ref a],slots := #[] } : Obj).data = .fields #[.ref a, .ref a, .ref a] := rfl
  have f0 : (#[.ref a, .ref a, .ref a] : Array Value)[0]? = some (.ref a) := rfl
  have f1 : (#[.ref a, .ref a, .ref a] : Array Value)[1]? = some (.ref a) := rfl
  have f2 : (#[.ref a, .ref a, .ref a] : Array Value)[2]? = some (.ref a) := rfl
  have hn : (Str.ofString "__init_subclass__" == Str.ofString "__class__") = false := by kernel_rfl
  have h1 : (Value.ref a == Value.ref a) = true := by simp
  have hdrop : (([.ref a, .type "object"] : List Value).dropWhile (· != .ref a)).drop 1 = [.type "object"] := by simp
  have o1 : classOwn (.type "object") (Str.ofString "__init_subclass__") = pure (some (.builtin "object.__init_subclass__")) := by kernel_rfl
  have o2 : typeOf (.builtin "object.__init_subclass__") = pure (.type "classmethod_descriptor") := by kernel_rfl
  have o3 : typeLookup (.type "classmethod_descriptor") (Str.ofString "__get__") = pure (some (.builtin "classmethod_descriptor.__get__")) := slot_cmd_get.lookup
  have hT : ∀ s : Shared,s.TypeIs (.builtin "object.__init_subclass__") "classmethod_descriptor" := fun s => o2
  unfold Builtin.«super.__getattribute__»
  repeat (first
    | (with_reducible refine wpAny_field hso hdt f0 ?_) | (with_reducible refine wpAny_field hso hdt f1 ?_) | (with_reducible refine wpAny_field hso hdt f2 ?_)
    | (with_reducible refine notOpaque hS hl ?_)
    | (with_reducible refine mro_at ha hd ?_; rw [hm,hdrop])
    | (with_reducible refine wpAny_call_entry slot_cmd_get (hT _) entry_cmd_get ?_ (args_cmd_get _ _ _); rw [if_pos h1])
    | wp_step)
  refine sub_at (r := true) ha hd hm (by kernel_rfl) ?_
  wp_walk
  refine ⟨_,rfl, ?_⟩
  wp_walk
  exact hq
end
end
section
theorem plain_isub : plainId "object.__init_subclass__" = true := by decide +kernel
theorem entry_isub : entryFor table "object.__init_subclass__" = some Builtin.«object.__init_subclass__» := entryFor_of_tree (by kernel_rfl)
section
variable {w : World} {A : Around} {E : Value -> Shared -> Prop} {h : Heap} {g : Array GenState} {d : Drawn} {t : Nat} {os : OsState} {a : Addr} {oa : Obj} {cd : ClassData}
noncomputable def kBound (a : Addr) : Obj := { cls := .type "builtin_function_or_method",data := .fields #[.builtin "object.__init_subclass__", .ref a] }
theorem getattr_isub {so : Addr} {oS : Obj} {Q : Value -> Shared -> Prop} (ha : h.get? a = some oa) (hd : oa.data = .cls cd) (hm : cd.mro = [.ref a, .type "object"]) (hS : h.get? cStatics = some oS) (hl : nsLook (Str.ofString "thirdparty.any") oS = pure none)
    (hso : h.get? so = some { cls := .type "super",dict := none,data := .fields #[.ref a, .ref a, .ref a],slots := #[] })
    (hq : Q (.ref h.objs.size) ⟨h.push (kBound a),g,d,t + 1,os⟩) :
    wpAny (MM w) A (getAttr (.ref so) (Str.ofString "__init_subclass__")) Q E ⟨h,g,d,t,os⟩ := by
  have hlk := F.ks_slot_super_ga.lookup
  have hbi := F.ks_slot_super_ga.bind (.ref so)
  have hT : ∀ t',(⟨h,g,d,t',os⟩ : Shared).TypeIs (.ref so) "super" := fun _ => ⟨_,hso,rfl⟩
  have hT0 := hT t
  have hT1 := hT (t + 1)
  unfold getAttr getAttrBy
  refine wpAny_bind (wpAny_mkText ?_)
  dsimp only
  repeat (first | ((with_reducible show wpAny _ _ (call (.builtin "super.__getattribute__") _) _ _ _); (show wpAny _ _ (call (.builtin "super.__getattribute__") (.ref so :: [.str (Str.ofString "__init_subclass__") t])) _ _ _); (refine wpAny_call_entry F.ks_slot_super_ga (hT _) F.ks_entry_super_ga (super_ga ha hd hm hS hl hso ⟨_,rfl, ?_⟩) (F.ks_gaArgs_super _ _))) | wp_step)
  exact hq
theorem checkNoArgs {id full short : String} {r : Value} {Q : Unit -> Shared -> Prop} {s : Shared} (hf : (full != "*") = true) (hs : (short != "*") = true) (hq : Q () s) :
    wpAny (MM w) A (Bind.checkArgs id { machinery := .noArgs,full := full,short := short,receiver := .cls,params := [] } ⟨[r], []⟩) Q E s := by
  unfold Bind.checkArgs Bind.printed
  dsimp only
  rw [hf,hs]
  refine wpAny_bind (wpAny_pure (wpAny_bind (wpAny_pure ?_)))
  refine wpAny_onRaise ?_
  exact wpAny_pure hq
theorem call_isub {b ns : Addr} {sl : Array (Option Value)} {Q : Value -> Shared -> Prop} (ha : h.get? a = some (kCls (kCd2 ns a) sl)) (hb : h.get? b = some (kBound a)) (hq : Q .none ⟨h,g,d,t,os⟩) : wpAny (MM w) A (call (.ref b) []) Q E ⟨h,g,d,t,os⟩ := by
  refine wpAny_call (codeAny_of_tree ?_)
  show wpAny _ A.in1 (callAny (.ref b) _) _ _ _
  unfold kBound at hb
  unfold kCls at ha
  have t1 : isSubtype (Value.type "type") (Value.type "module") = pure false := by rw [isSubtype_type]; kernel_rfl
  have t2 : (Manifest.varargsMethods.contains "object.__init_subclass__" || false) = false := by decide +kernel
  have t3 : (toString (kCd2 ns a).qualname.toString ++ toString "." ++ toString (Bind.lastOf "object.__init_subclass__") != "*") = true := by kernel_rfl
  have t4 : ("__init_subclass__" != "*") = true := by decide +kernel
  have hc : ∀ {A : Around} {E : Value -> Shared -> Prop} {Q : ClassData -> Shared -> Prop},Q (kCd2 ns a) ⟨h,g,d,t,os⟩ -> wpAny (MM w) A (classData a) Q E ⟨h,g,d,t,os⟩ := fun q => classData_at ha rfl q
  wp_walk using hc,checkNoArgs t3 t4
  refine ⟨plainId_quiet plain_isub _,codeAny_builtin entry_isub ?_⟩
  rw [Around.under_plainId plain_isub _]
  unfold Builtin.«object.__init_subclass__»
  wp_walk
  exact hq
end
end
section
theorem forIn_skip {w : World} {A : Around} {α β : Type} {E : Value -> Shared -> Prop} {s : Shared} {Q : β -> Shared -> Prop} {b : β} {f : α -> β -> Sem (ForInStep β)} : ∀ {l : List α},(∀ e ∈ l,wpAny (MM w) A (f e b) (fun r s' => r = .yield b ∧ s' = s) E s) -> Q b s -> wpAny (MM w) A (forIn l b f) Q E s
  | [], _,q => wpAny_pure q
  | e :: l,h,q => by
    rw [List.forIn_cons]
    refine wpAny_bind (wpAny_mono (h e (List.mem_cons_self ..)) (fun r s' hr => ?_) fun _ _ z => z)
    obtain ⟨rfl,rfl⟩ := hr
    exact forIn_skip (fun e' m => h e' (List.mem_cons_of_mem _ m)) q
theorem forIn_skipA {w : World} {A : Around} {α β : Type} {E : Value -> Shared -> Prop} {s : Shared} {Q : β -> Shared -> Prop} {b : β} {f : α -> β -> Sem (ForInStep β)} {l : Array α} (h : ∀ e ∈ l.toList,wpAny (MM w) A (f e b) (fun r s' => r = .yield b ∧ s' = s) E s) (q : Q b s) : wpAny (MM w) A (forIn l b f) Q E s := by
  rw [<- Array.forIn_toList]
  exact forIn_skip h q
noncomputable def Tame (h : Heap) (v : Value) : Prop := ∃ T,(∀ g d t os,(⟨h,g,d,t,os⟩ : Shared).TypeIs v T) ∧ typeLookup (.type T) (Str.ofString "__set_name__") = pure none
noncomputable def setNone (T : String) : Prop := typeLookup (.type T) (Str.ofString "__set_name__") = pure none
theorem sn_str : setNone "str" := by unfold setNone; rw [typeLookup_type,builtinLookup_eq_fast]; kernel_rfl
theorem sn_int : setNone "int" := by unfold setNone; rw [typeLookup_type,builtinLookup_eq_fast]; kernel_rfl
theorem sn_list : setNone "list" := by unfold setNone; rw [typeLookup_type,builtinLookup_eq_fast]; kernel_rfl
theorem sn_tuple : setNone "tuple" := by unfold setNone; rw [typeLookup_type,builtinLookup_eq_fast]; kernel_rfl
theorem sn_fn : setNone "function" := by unfold setNone; rw [typeLookup_type,builtinLookup_eq_fast]; kernel_rfl
theorem sn_none : setNone "NoneType" := by unfold setNone; rw [typeLookup_type,builtinLookup_eq_fast]; kernel_rfl
theorem sn_mem : setNone "member_descriptor" := by unfold setNone; rw [typeLookup_type,builtinLookup_eq_fast]; kernel_rfl
noncomputable def NoId : Value -> Prop
  | .builtin _ => False
  | _ => True
theorem wpAny_tameSet {w : World} {A : Around} {E : Value -> Shared -> Prop} {h : Heap} {g : Array GenState} {d : Drawn} {t : Nat} {os : OsState} {v : Value} {Q : Option Value -> Shared -> Prop} (x : Tame h v) (q : Q none ⟨h,g,d,t,os⟩) : wpAny (MM w) A (specialOf v (Str.ofString "__set_name__")) Q E ⟨h,g,d,t,os⟩ := by
  obtain ⟨T,a,b⟩ := x
  exact wpAny_specialOf (a _ _ _ _) b q
theorem laid_no {k v : Value} (h : NoId v) : Builtin.laidUnderItsOwnName k v = false := by
  cases k <;> cases v <;> first | rfl | exact h.elim
theorem seg5 (k : KIn) (tq : Tok) {w : World} {A : Around} {h0 h : Heap} {ns a m : Addr} {hash : Int} {tk2 tk3 tk4 : Tok} {hash4 : Int} {g : Array GenState} {d : Drawn} {tk : Nat} {os : OsState} {Q : Unit -> Shared -> Prop} {E : Value -> Shared -> Prop}
    (S : KT h0 h ns a m (kDict (k.es3 m hash tk2 hash4 tk4) 3) (kCls (kCd2 ns a) (kSl5 k.B k.tn tq)) (kMem a tk3 0)) 
    (hv : ∀ e ∈ (k.es3 m hash tk2 hash4 tk4).toList,(∃ x t,e.key = .str x t) ∧ NoId e.val ∧ Tame h e.val) {oS : Obj} (hS : h0.get? cStatics = some oS) (hl : nsLook (Str.ofString "thirdparty.any") oS = pure none)
    (K : ∀ h' t',KT h0 h' ns a m (kDict (k.es3 m hash tk2 hash4 tk4) 3) (kCls (kCd2 ns a) (kSl5 k.B k.tn tq)) (kMem a tk3 0) -> Q () ⟨h',g,d,t',os⟩) :
    wpAny (MM w) A ((seg4 k tq).1 ns a) Q E ⟨h,g,d,tk,os⟩ := by
  delta seg4
  dsimp -zeta only
  wp_walk using forIn_skipA,wpAny_dictEntries S.d rfl
  case h =>
    intro e he
    obtain ⟨⟨x,t,hx⟩,hn,ht⟩ := hv e he
    rw [hx]
    wp_walk
    exact ⟨rfl,rfl⟩
  wp_walk using forIn_skipA,wpAny_dictEntries S.d rfl
  case h =>
    intro e he
    obtain ⟨⟨x,t,hx⟩,hn,ht⟩ := hv e he
    have hl := laid_no (k := e.key) hn
    wp_walk using wpAny_tameSet ht
    exact ⟨rfl,rfl⟩
  refine wpAny_bind (call_super_cls S.c rfl rfl fun h2 e2 k2 => ?_)
  have z2 : h.objs.size < h2.objs.size := Heap.lt_size e2
  have S2 : KT h0 h2 ns a m (kDict (k.es3 m hash tk2 hash4 tk4) 3) (kCls (kCd2 ns a) (kSl5 k.B k.tn tq)) (kMem a tk3 0) := ⟨S.toKS.mono k2 (Nat.le_of_lt z2),k2 _ _ S.mm,S.l2⟩
  refine wpAny_bind (wpAny_holding (getattr_isub S2.c rfl rfl (S2.keep _ _ hS) hl e2 ?_))
  have S3 := S2.push (kBound a)
  refine wpAny_bind (call_isub S3.c (Heap.get?_push_size _ rfl) ?_)
  exact wpAny_pure (K _ _ S3)
namespace KIn
structure Vals (k : KIn) (tq : Tok) (h : Heap) : Prop where
  vm : ∃ x t,k.vm = .str x t
  vq : k.vq = .str kQ tq
  vf : ∃ i t,k.vf = .int i t
  f1 : ∃ a o,k.f1 = .ref a ∧ h.get? a = some o ∧ o.cls = .type "function"
  f2 : ∃ a o,k.f2 = .ref a ∧ h.get? a = some o ∧ o.cls = .type "function"
  f3 : ∃ a o,k.f3 = .ref a ∧ h.get? a = some o ∧ o.cls = .type "function"
  f4 : ∃ a o,k.f4 = .ref a ∧ h.get? a = some o ∧ o.cls = .type "function"
  f5 : ∃ a o,k.f5 = .ref a ∧ h.get? a = some o ∧ o.cls = .type "function"
  f6 : ∃ a o,k.f6 = .ref a ∧ h.get? a = some o ∧ o.cls = .type "function"
  vt : ∃ a o,k.vt = .ref a ∧ h.get? a = some o ∧ o.cls = .type "tuple"
end KIn
theorem Tame.ref {h : Heap} {v : Value} {T : String} (x : ∃ a o,v = .ref a ∧ h.get? a = some o ∧ o.cls = .type T) (e : setNone T) : NoId v ∧ Tame h v := by
  obtain ⟨a,o,rfl,ho,hc⟩ := x
  exact ⟨trivial,T,fun _ _ _ _ => ⟨o,ho,hc⟩,e⟩
theorem vals_tame (k : KIn) {tq : Tok} {h0 h : Heap} {ns a m : Addr} {hash : Int} {tk2 tk3 tk4 : Tok} {hash4 : Int} (V : k.Vals tq h0) (O : k.Ok h0)
    (S : KT h0 h ns a m (kDict (k.es3 m hash tk2 hash4 tk4) 3) (kCls (kCd2 ns a) (kSl5 k.B k.tn tq)) (kMem a tk3 0)) :
    ∀ e ∈ (k.es3 m hash tk2 hash4 tk4).toList,(∃ x t,e.key = .str x t) ∧ NoId e.val ∧ Tame h e.val := by
  have hl : (k.es3 m hash tk2 hash4 tk4).toList = [⟨k.hs 0, .str (Str.ofString "__module__") (k.ts 0),k.vm⟩,⟨k.hs 2, .str (Str.ofString "__firstlineno__") (k.ts 2),k.vf⟩,⟨k.hs 3, .str (Str.ofString "__slots__") (k.ts 3), .ref k.L⟩,
    ⟨k.hs 4, .str (Str.ofString "__init__") (k.ts 4),k.f1⟩,⟨k.hs 5, .str (Str.ofString "__lt__") (k.ts 5),k.f2⟩,⟨k.hs 6, .str (Str.ofString "__gt__") (k.ts 6),k.f3⟩,⟨k.hs 7, .str (Str.ofString "__eq__") (k.ts 7),k.f4⟩,
    ⟨k.hs 8, .str (Str.ofString "__le__") (k.ts 8),k.f5⟩,⟨k.hs 9, .str (Str.ofString "__ge__") (k.ts 9),k.f6⟩,⟨k.hs 10, .str (Str.ofString "__hash__") (k.ts 10), .none⟩,⟨k.hs 11, .str (Str.ofString "__static_attributes__") (k.ts 11),k.vt⟩,
    ⟨hash, .str (Str.ofString "obj") tk2, .ref m⟩,⟨hash4, .str (Str.ofString "__doc__") tk4, .none⟩] := by kernel_rfl
  rw [hl]
  have fn : ∀ v : Value,(∃ a o,v = .ref a ∧ h0.get? a = some o ∧ o.cls = .type "function") -> NoId v ∧ Tame h v := fun v x =>
    Tame.ref (T := "function") (let ⟨a,o,e,ho,c⟩ := x; ⟨a,o,e,S.keep _ _ ho,c⟩) sn_fn
  intro e he
  simp only [List.mem_cons,List.not_mem_nil,or_false] at he
  rcases he with rfl | rfl | rfl | rfl | rfl | rfl | rfl | rfl | rfl | rfl | rfl | rfl | rfl
  . obtain ⟨x,t,hx⟩ := V.vm
    exact ⟨⟨_, _,rfl⟩,by rw [hx]; trivial,by rw [hx]; exact ⟨"str",fun _ _ _ _ => rfl,sn_str⟩⟩
  . obtain ⟨x,t,hx⟩ := V.vf
    exact ⟨⟨_, _,rfl⟩,by rw [hx]; trivial,by rw [hx]; exact ⟨"int",fun _ _ _ _ => rfl,sn_int⟩⟩
  . exact ⟨⟨_, _,rfl⟩,trivial, "list",fun _ _ _ _ => ⟨_,S.keep _ _ O.hL,rfl⟩,sn_list⟩
  . exact ⟨⟨_, _,rfl⟩,fn _ V.f1⟩
  . exact ⟨⟨_, _,rfl⟩,fn _ V.f2⟩
  . exact ⟨⟨_, _,rfl⟩,fn _ V.f3⟩
  . exact ⟨⟨_, _,rfl⟩,fn _ V.f4⟩
  . exact ⟨⟨_, _,rfl⟩,fn _ V.f5⟩
  . exact ⟨⟨_, _,rfl⟩,fn _ V.f6⟩
  . exact ⟨⟨_, _,rfl⟩,trivial, "NoneType",fun _ _ _ _ => rfl,sn_none⟩
  . exact ⟨⟨_, _,rfl⟩,Tame.ref (T := "tuple") (let ⟨a,o,e,ho,c⟩ := V.vt; ⟨a,o,e,S.keep _ _ ho,c⟩) sn_tuple⟩
  . exact ⟨⟨_, _,rfl⟩,trivial, "member_descriptor",fun _ _ _ _ => ⟨_,S.mm,rfl⟩,sn_mem⟩
  . exact ⟨⟨_, _,rfl⟩,trivial, "NoneType",fun _ _ _ _ => rfl,sn_none⟩
structure KMade (k : KIn) (tq : Tok) (h : Heap) (ns a m : Addr) (hash : Int) (tk2 tk3 : Tok) (hash4 : Int) (tk4 : Tok) : Prop where
  d : h.get? ns = some (kDict (k.es3 m hash tk2 hash4 tk4) 3)
  c : h.get? a = some (kCls (kCd2 ns a) (kSl5 k.B k.tn tq))
  mm : h.get? m = some (kMem a tk3 0)
theorem type_new (k : KIn) {tq : Tok} {w : World} {A : Around} {h : Heap} {g : Array GenState} {d : Drawn} {t : Nat} {os : OsState} {Q : PySem.Fin -> Shared -> Prop} {E : Value -> Shared -> Prop} (O : k.Ok h) (V : k.Vals tq h)
    {oS : Obj} (hS : h.get? cStatics = some oS) (hl : nsLook (Str.ofString "thirdparty.any") oS = pure none)
    (K : ∀ h' ns a m hash tk2 tk3 hash4 tk4 t',(∀ b o,h.get? b = some o -> h'.get? b = some o) -> (∀ b o,h.get? b = some o -> b < ns) -> KMade k tq h' ns a m hash tk2 tk3 hash4 tk4 -> Q (.done (.ret (.ref a))) ⟨h',g,d,t',os⟩) :
    wpAny (MM w) A (Builtin.«type.__new__» ⟨[.type "type", .str (Str.ofString "K") k.tn, .ref k.B, .ref k.nsA], []⟩) Q E ⟨h,g,d,t,os⟩ := by
  refine ((seg1 k).2 O fun h1 k1 => ?_).down
  have O1 : k.Ok h1 := ⟨k1 _ _ O.hL,k1 _ _ O.hB,k1 _ _ O.hN,O.hsys⟩
  have V1 : k.Vals tq h1 := ⟨V.vm,V.vq,V.vf,let ⟨a,o,e,x,c⟩ := V.f1; ⟨a,o,e,k1 _ _ x,c⟩,let ⟨a,o,e,x,c⟩ := V.f2; ⟨a,o,e,k1 _ _ x,c⟩,let ⟨a,o,e,x,c⟩ := V.f3; ⟨a,o,e,k1 _ _ x,c⟩,
    let ⟨a,o,e,x,c⟩ := V.f4; ⟨a,o,e,k1 _ _ x,c⟩,let ⟨a,o,e,x,c⟩ := V.f5; ⟨a,o,e,k1 _ _ x,c⟩,let ⟨a,o,e,x,c⟩ := V.f6; ⟨a,o,e,k1 _ _ x,c⟩,let ⟨a,o,e,x,c⟩ := V.vt; ⟨a,o,e,k1 _ _ x,c⟩⟩
  refine ((seg2 k tq).2 V.vq fun h2 ns a S2 => ?_).down
  refine (seg3 k tq).2 S2 fun h3 S3 => ?_
  refine (seg4 k tq).2 S3 fun h4 m hash tk2 tk3 hash4 tk4 t4 E' S4 => ?_
  refine seg5 k tq S4 (vals_tame k V1 O1 S4) (k1 _ _ hS) hl fun h5 t5 S5 => ?_
  exact K h5 ns a m hash tk2 tk3 hash4 tk4 t5 (fun b o e => S5.keep b o (k1 b o e)) (fun b o e => Nat.lt_of_lt_of_le (Heap.lt_size (k1 b o e)) S5.l0) ⟨S5.d,S5.c,S5.mm⟩
end
section
theorem plain_tnew : plainId "type.__new__" = true := by decide +kernel
theorem entry_tnew : entryFor table "type.__new__" = some Builtin.«type.__new__» := entryFor_of_tree (by kernel_rfl)
theorem plain_tinit : plainId "type.__init__" = true := by decide +kernel
theorem entry_tinit : entryFor table "type.__init__" = some Builtin.«type.__init__» := entryFor_of_tree (by kernel_rfl)
theorem slot_tinit : PySem.Slot "type" "__init__" "type.__init__" := .of (owner := "type") (n := "__init__") (by rw [typeLookup_type,builtinLookup_eq_fast]; kernel_rfl) (by decide +kernel) (by decide +kernel) (by decide +kernel)
  (by first | exact .inl (by decide +kernel) | exact .inr (by decide +kernel)) (by rw [isSubtype_type]; kernel_rfl)
theorem args_tinit (a b c d : Value) : argsOk "type.__init__" ⟨[a,b,c,d], []⟩ := by unfold argsOk; kernel_rfl
theorem call_type (k : KIn) {tq : Tok} {w : World} {A : Around} {h : Heap} {g : Array GenState} {d : Drawn} {t : Nat} {os : OsState} {Q : Value -> Shared -> Prop} {E : Value -> Shared -> Prop} (O : k.Ok h) (V : k.Vals tq h)
    {oS : Obj} (hS : h.get? cStatics = some oS) (hl : nsLook (Str.ofString "thirdparty.any") oS = pure none)
    (K : ∀ h' ns a m hash tk2 tk3 hash4 tk4 t',(∀ b o,h.get? b = some o -> h'.get? b = some o) -> (∀ b o,h.get? b = some o -> b < ns) -> KMade k tq h' ns a m hash tk2 tk3 hash4 tk4 -> Q (.ref a) ⟨h',g,d,t',os⟩) :
    wpAny (MM w) A (call (.type "type") [.str (Str.ofString "K") k.tn, .ref k.B, .ref k.nsA]) Q E ⟨h,g,d,t,os⟩ := by
  refine wpAny_call (codeAny_of_tree ?_)
  show wpAny _ A.in1 (callAny (.type "type") _) _ _ _
  refine wpAny_pure ⟨Code.quiet_builtin _ (by decide +kernel),codeAny_builtin F.entry_type_call ?_⟩
  rw [Around.under_plain (weight_type_call_type "type" _ []) rfl]
  have m1 : Bind.madeBy (.type "type") = pure (some "type.__new__") := madeBy_type (c := .type "type") (tl := [.type "object"]) (by rw [mroOf_type]; kernel_rfl) (by rw [typeLookup_type,builtinLookup_eq_fast]; kernel_rfl) (by decide +kernel)
  have ck : checkBuiltinCall "type.__new__" ⟨[.type "type", .str (Str.ofString "K") k.tn, .ref k.B, .ref k.nsA], []⟩ = pure () := by kernel_rfl
  unfold Builtin.«type.__call__»
  repeat (first | ((with_reducible refine wpAny_call (codeAny_call_builtin plain_tnew entry_tnew (wpAny_of_eq ck (type_new k O V hS hl fun h' ns a m hash tk2 tk3 hash4 tk4 t' k1 fr M => ?_))))) | wp_step)
  have hT : ∀ t',(⟨h',g,d,t',os⟩ : Shared).TypeIs (.ref a) "type" := fun _ => ⟨_,M.c,rfl⟩
  have hT0 := hT t'
  have t2 : isSubtype (Value.type "type") (Value.type "type") = pure true := by rw [isSubtype_type]; kernel_rfl
  have t3 := slot_tinit.lookup
  have t4 := slot_tinit.bind (.ref a)
  have Mc := M.c
  unfold kCls at Mc
  repeat (first | ((with_reducible show wpAny _ _ (call (.builtin "type.__init__") _) _ _ _); (show wpAny _ _ (call (.builtin "type.__init__") (.ref a :: [.str (Str.ofString "K") k.tn, .ref k.B, .ref k.nsA])) _ _ _); (refine wpAny_call_entry slot_tinit (hT _) entry_tinit ?_ (args_tinit _ _ _ _)); (unfold Builtin.«type.__init__»)) | (refine ⟨_,rfl, ?_⟩) | wp_step)
  exact K _ _ _ _ _ _ _ _ _ _ k1 fr M
end
section
structure CB (T : Addr) (h0 h : Heap) (ns c P : Addr) (es : Array DictEntry) (n : Nat) (ps : Array Value) (fs : List (Addr × Obj)) : Prop where
  keep : ∀ b o,b ≠ T -> h0.get? b = some o -> h.get? b = some o
  d : h.get? ns = some (kDict es n)
  t : h.get? P = some (tabObj ps)
  cd : CodeHd h c P
  np : ns ≠ P
  fs : ∀ p ∈ fs,h.get? p.1 = some p.2 ∧ p.1 ≠ ns ∧ p.1 ≠ P
  ln : h0.objs.size <= ns
  lp : h0.objs.size <= P
  tr : TriplesOk ps.toList
theorem CodeHd.but {h h' : Heap} {c P : Addr} (x : CodeHd h c P) (k : ∀ o,h.get? c = some o -> h'.get? c = some o) : CodeHd h' c P := by
  obtain ⟨o,vs,file,tf,flags,tg,inF,text,tt,e,r⟩ := x
  exact ⟨o,vs,file,tf,flags,tg,inF,text,tt,k _ e,r⟩
namespace CB
variable {T : Addr} {h0 h h' : Heap} {ns c P : Addr} {es : Array DictEntry} {n : Nat} {ps : Array Value} {fs : List (Addr × Obj)}
theorem cne (S : CB T h0 h ns c P es n ps fs) : c ≠ P := by
  obtain ⟨o,vs, _, _, _, _, _, _, _, _, _, _, _, _, _, _, _, _,hne⟩ := S.cd
  exact hne
theorem cns (S : CB T h0 h ns c P es n ps fs) : c ≠ ns := by
  obtain ⟨o,vs, _, _, _, _, _, _, _,e,hc,hd, _⟩ := S.cd
  rintro rfl
  rw [S.d] at e
  cases e
  exact absurd (Value.type.inj hc) (by decide)
theorem mono (S : CB T h0 h ns c P es n ps fs) (k : ∀ b o,h.get? b = some o -> h'.get? b = some o) : CB T h0 h' ns c P es n ps fs :=
  ⟨fun b o hb e => k _ _ (S.keep b o hb e),k _ _ S.d,k _ _ S.t,S.cd.keeps k,S.np,fun p hp => ⟨k _ _ (S.fs p hp).1,(S.fs p hp).2⟩,S.ln,S.lp,S.tr⟩
theorem setD (S : CB T h0 h ns c P es n ps fs) {f : Obj -> Obj} {es' : Array DictEntry} {n' : Nat} (hf : f (kDict es n) = kDict es' n') : CB T h0 (h.update ns f) ns c P es' n' ps fs := by
  have other : ∀ b o,b ≠ ns -> h.get? b = some o -> (h.update ns f).get? b = some o := fun b o hb e => Heap.get?_update_of_ne f (Ne.symm hb) e
  refine ⟨fun b o hb e => other _ _ (Nat.ne_of_lt (Nat.lt_of_lt_of_le (Heap.lt_size e) S.ln)) (S.keep b o hb e), ?_,other _ _ (Ne.symm S.np) S.t,CodeHd.but S.cd fun o e => other _ _ S.cns e,S.np,fun p hp => ⟨other _ _ (S.fs p hp).2.1 (S.fs p hp).1,(S.fs p hp).2⟩,S.ln,S.lp,S.tr⟩
  have := Heap.get?_update_self f S.d (by rw [hf]; rfl)
  rw [this,hf]
theorem add (S : CB T h0 h ns c P es n ps fs) {a : Addr} {o : Obj} (ha : h.get? a = some o) (h1 : a ≠ ns) (h2 : a ≠ P) : CB T h0 h ns c P es n ps ((a,o) :: fs) :=
  ⟨S.keep,S.d,S.t,S.cd,S.np,fun p hp => by
    rcases List.mem_cons.mp hp with rfl | hp
    . exact ⟨ha,h1,h2⟩
    . exact S.fs p hp,S.ln,S.lp,S.tr⟩
theorem grow (S : CB T h0 h ns c P es n ps fs) {ps' : Array Value} (hx : Heap.ExtBut P h h') (ht : h'.get? P = some (tabObj ps')) (tr : TriplesOk ps'.toList) : CB T h0 h' ns c P es n ps' fs :=
  ⟨fun b o hb e => hx _ _ (Nat.ne_of_lt (Nat.lt_of_lt_of_le (Heap.lt_size e) S.lp)) (S.keep b o hb e),hx _ _ S.np S.d,ht,CodeHd.but S.cd fun o e => hx _ _ S.cne e,S.np,fun p hp => ⟨hx _ _ (S.fs p hp).2.2 (S.fs p hp).1,(S.fs p hp).2⟩,S.ln,S.lp,tr⟩
end CB
section
variable {w : World} {A : Around} {E : Value -> Shared -> Prop} {T : Addr} {h0 h : Heap} {g : Array GenState} {d : Drawn} {t : Nat} {os : OsState} {ns c P : Addr} {es : Array DictEntry} {n : Nat} {ps : Array Value} {fs : List (Addr × Obj)} {name : Str} {env : Env}
theorem cb_nsSet {v : Value} {es' : Int -> Tok -> Array DictEntry} {n' : Nat} {Q : Unit -> Shared -> Prop} (S : CB T h0 h ns c P es n ps fs) (hr : aRefKeyMayBeTheName name es = false)
    (he : ∀ hash tk,Obj.putName name hash (.str name tk) v (kDict es n) = kDict (es' hash tk) n')
    (k : ∀ h' hash tk,CB T h0 h' ns c P (es' hash tk) n' ps fs -> Q () ⟨h',g,d,t + 1,os⟩) : wpAny (MM w) A (nsSet ns name v) Q E ⟨h,g,d,t,os⟩ := by
  unfold nsSet strHash
  refine wpAny_bind (wpAny_bind (wpAny_askSetting ?_))
  refine wpAny_pure ?_
  refine wpAny_bind (wpAny_mkText ?_)
  refine wpAny_bind (wpAny_loadPart S.d ?_)
  dsimp only [kDict]
  rw [hr]
  refine wpAny_updatePart S.d ?_
  exact k _ _ _ (S.setD (he _ _))
theorem cb_store {v : Value} {es' : Int -> Tok -> Array DictEntry} {n' : Nat} {Q : Unit -> Shared -> Prop} (S : CB T h0 h ns c P es n ps fs) (hl : env.locals = ns) (hs : storeName env name v = localSet env name v) (hr : aRefKeyMayBeTheName name es = false)
    (he : ∀ hash tk,Obj.putName name hash (.str name tk) v (kDict es n) = kDict (es' hash tk) n')
    (k : ∀ h' hash tk,CB T h0 h' ns c P (es' hash tk) n' ps fs -> Q () ⟨h',g,d,t + 1,os⟩) : wpAny (MM w) A (storeName env name v) Q E ⟨h,g,d,t,os⟩ := by
  rw [hs]
  unfold localSet
  rw [hl]
  refine wpAny_bind (wpAny_load S.d ?_)
  exact cb_nsSet S hr he k
theorem put_new {hash : Int} {key v : Value} (hn : es.findIdx? (fun e => e.key.isStr name) = none) : Obj.putName name hash key v (kDict es n) = kDict (es.push ⟨hash,key,v⟩) (n + 1) := by
  rw [Obj.putName_eq]
  unfold kDict Obj.putNameByArray
  dsimp only
  rw [hn]
theorem put_old {hash : Int} {key v : Value} {i : Nat} (hn : es.findIdx? (fun e => e.key.isStr name) = some i) : Obj.putName name hash key v (kDict es n) = kDict (es.modify i fun e => { e with val := v }) n := by
  rw [Obj.putName_eq]
  unfold kDict Obj.putNameByArray
  dsimp only
  rw [hn]
theorem cb_def {params : Arguments} {body : List Stmt} {scope : Scope} {pos : Pos} {clos : List (Str × Addr)} {es' : Value -> Int -> Tok -> Array DictEntry} {n' : Nat} {mg : Str -> Option Value} {Q : Flow -> Shared -> Prop} {Pl : Addr} (S : CB T h0 h ns c P es n ps fs) (hl : env.locals = ns) (hs : ∀ v,storeName env name v = localSet env name v) (hr : aRefKeyMayBeTheName name es = false)
    (he : ∀ v hash tk,Obj.putName name hash (.str name tk) v (kDict es n) = kDict (es' v hash tk) n')
    (hd0 : params.defaults = []) (hk0 : params.kw_defaults = []) (ha : annTrees params none env = []) (hcl : closureFor scope env = pure clos) (hge : env.globals = mainGlobals) (hcode : env.code = .ref c)
    (hgT : mainGlobals ≠ T) (hg : h0.Ns mainGlobals mg) (hb : h0.BuiltinsAt mg Pl) (hbT : ∀ bm,mg "__builtins__" = some (.ref bm) -> bm ≠ T) (hnf : codeAmong pos ps.toList = none)
    (k : ∀ h' f oc c' doc ctv hash tk tk',CB T h0 h' ns c P (es' (.ref f) hash tk) n' (ps ++ #[rawInt pos.line,rawInt pos.col, .ref c']) ((f, { cls := .type "function",data := .func (fnX name (qualnameIn env name name) params body scope clos .none .none doc ((mg "__name__").getD .none) none (.ref c') ctv) }) :: (c',oc) :: fs) ->
      (∃ vs t,oc.data = .fields vs ∧ vs[1]? = some (.str (qualnameIn env name name) t)) -> Q .next ⟨h',g,d,tk',os⟩) :
    wpAny (MM w) A (exec (.FunctionDef name params body [] none [] scope none name pos) env) Q E ⟨h,g,d,t,os⟩ := by
  refine nestDef_K hd0 hk0 ha ?_
  have hg' : h.Ns mainGlobals mg := by
    obtain ⟨o,es2,ep,e,r⟩ := hg
    exact ⟨o,es2,ep,S.keep _ _ hgT e,r⟩
  have hgP : mainGlobals ≠ P := by
    obtain ⟨o,es2,ep,e,r⟩ := hg
    exact Nat.ne_of_lt (Nat.lt_of_lt_of_le (Heap.lt_size e) S.lp)
  have hb' : h.BuiltinsAt mg P := by
    obtain ⟨bm,o,e1,e2,e3,e4,e5,r⟩ := hb
    exact ⟨bm,o,e1,e2,e3,Nat.ne_of_lt (Nat.lt_of_lt_of_le (Heap.lt_size e5) S.lp),S.keep _ _ (hbT _ e1) e5,r⟩
  refine makeFunction_K hcl hge hg' hcode S.cd S.t S.tr hnf hgP hb' fun c' ctv doc h' tk hext hge' hlt hrec htb => ?_
  have S1 := S.grow hext htb (by
    have : (ps ++ #[rawInt pos.line,rawInt pos.col,Value.ref c']).toList = ps.toList ++ [rawInt pos.line,rawInt pos.col, .ref c'] := by simp
    rw [this]; exact TriplesOk_snoc _ _ _ _ S.tr)
  obtain ⟨c2,oc,vs,t2,hc2,hoc,hdv,hv1⟩ := hrec
  cases hc2
  have lt1 : ns < h.objs.size := Heap.lt_size S.d
  have lt2 : P < h.objs.size := Heap.lt_size S.t
  have S2 := S1.add hoc (Nat.ne_of_gt (Nat.lt_of_lt_of_le lt1 hge')) (Nat.ne_of_gt (Nat.lt_of_lt_of_le lt2 hge'))
  have S3 := S2.mono (h' := h'.push (fnMade name (qualnameIn env name name) params body scope clos doc ((mg "__name__").getD .none) c' ctv)) fun b o e => Heap.get?_push_of_some _ e
  have S4 := S3.add (a := h'.objs.size) (Heap.get?_push_size _ rfl) (Nat.ne_of_gt (Nat.lt_trans (Nat.lt_of_lt_of_le lt1 hge') hlt)) (Nat.ne_of_gt (Nat.lt_trans (Nat.lt_of_lt_of_le lt2 hge') hlt))
  exact cb_store S4 hl (hs _) hr (he _) fun h3 hash tk3 S5 => k h3 _ oc c' doc ctv hash tk3 _ S5 ⟨vs,t2,hdv,hv1⟩
end
end
section
noncomputable def clsBody : Stmt -> List Stmt
  | .ClassDef _ _ _ b _ _ _ _ _ _ _ => b
  | _ => []
noncomputable def clsScope : Stmt -> Scope
  | .ClassDef _ _ _ _ _ _ s _ _ _ _ => s
  | _ => default
noncomputable def kStmt : Stmt := ((bodyOf (stmtAt 9)).head?).getD default
noncomputable def kEnv (ns fr c cell : Addr) : Env := { scope := clsScope kStmt,locals := ns,globals := mainGlobals,qual := kQ ++ ".",code := .ref c,frame := some fr,builtins := builtinsNs,cells := [(Str.ofString "mycmp",cell)] }
noncomputable def kFn (i : Nat) : Stmt := ((clsBody kStmt)[i]?).getD default
noncomputable def kFd (i : Nat) (nm : Str) (cell : Addr) (mg : Str -> Option Value) (clos : List (Str × Addr)) (doc cv ctv : Value) : FuncData := fnX nm (kQ ++ "." ++ nm) (paramsOf (kFn i)) (bodyOf (kFn i)) (scopeOf (kFn i)) clos .none .none doc ((mg "__name__").getD .none) none cv ctv
noncomputable def kE3 (hs : Nat -> Int) (ts : Nat -> Tok) (m0 : Value) (tq : Tok) (vf : Value) : Array DictEntry := #[⟨hs 0, .str (Str.ofString "__module__") (ts 0),m0⟩,⟨hs 1, .str (Str.ofString "__qualname__") (ts 1), .str kQ tq⟩,⟨hs 2, .str (Str.ofString "__firstlineno__") (ts 2),vf⟩]
structure KF (h : Heap) (i : Nat) (nm : Str) (clos : List (Str × Addr)) (cell : Addr) (mg : Str -> Option Value) (f : Addr) : Prop where
  ex : ∃ doc cv ctv,h.get? f = some { cls := .type "function",data := .func (kFd i nm cell mg clos doc cv ctv) } ∧ h.CodeRec cv (kQ ++ "." ++ nm)
theorem KF.of {T : Addr} {h0 h : Heap} {ns c P : Addr} {es : Array DictEntry} {n : Nat} {ps : Array Value} {fs : List (Addr × Obj)} (S : CB T h0 h ns c P es n ps fs) {i : Nat} {nm : Str} {clos : List (Str × Addr)} {cell : Addr} {mg : Str -> Option Value} {f c' : Addr} {oc : Obj} {doc ctv : Value}
    (h1 : (f, { cls := .type "function",data := .func (kFd i nm cell mg clos doc (.ref c') ctv) }) ∈ fs) (h2 : (c',oc) ∈ fs) (h3 : ∃ vs t,oc.data = .fields vs ∧ vs[1]? = some (.str (kQ ++ "." ++ nm) t)) : KF h i nm clos cell mg f := by
  obtain ⟨vs,t,e1,e2⟩ := h3
  exact ⟨doc, .ref c',ctv,(S.fs _ h1).1,c',oc,vs,t,rfl,(S.fs _ h2).1,e1,e2⟩
structure KBody (h : Heap) (cell : Addr) (mg : Str -> Option Value) (L : Addr) (tL : Tok) (f1 f2 f3 f4 f5 f6 : Addr) : Prop where
  hL : h.get? L = some { cls := .type "list",data := .seq #[.str (Str.ofString "obj") tL] }
  k1 : KF h 2 (Str.ofString "__init__") [] cell mg f1
  k2 : KF h 3 (Str.ofString "__lt__") [(Str.ofString "mycmp",cell)] cell mg f2
  k3 : KF h 4 (Str.ofString "__gt__") [(Str.ofString "mycmp",cell)] cell mg f3
  k4 : KF h 5 (Str.ofString "__eq__") [(Str.ofString "mycmp",cell)] cell mg f4
  k5 : KF h 6 (Str.ofString "__le__") [(Str.ofString "mycmp",cell)] cell mg f5
  k6 : KF h 7 (Str.ofString "__ge__") [(Str.ofString "mycmp",cell)] cell mg f6
theorem k_body {w : World} {A : Around} {E : Value -> Shared -> Prop} {T : Addr} {h0 h : Heap} {g : Array GenState} {d : Drawn} {t : Nat} {os : OsState} {ns fr c P cell Pl : Addr} {hs : Nat -> Int} {ts : Nat -> Tok} {m0 vf : Value} {tq : Tok} {mg : Str -> Option Value} {Q : Flow -> Shared -> Prop}
    (S : CB T h0 h ns c P (kE3 hs ts m0 tq vf) 3 #[] []) (hgT : mainGlobals ≠ T) (hg : h0.Ns mainGlobals mg) (hb : h0.BuiltinsAt mg Pl) (hbT : ∀ bm,mg "__builtins__" = some (.ref bm) -> bm ≠ T)
    (K : ∀ h' hs' ts' vm tm L tL f1 f2 f3 f4 f5 f6 n' ps fs t',vm = .str (Str.ofString "cpy313.functools") tm -> CB T h0 h' ns c P (((kEs hs' ts' vm (.str kQ tq) vf (.ref L) (.ref f1) (.ref f2) (.ref f3) (.ref f4) (.ref f5) (.ref f6) .none).pop)) n' ps fs -> KBody h' cell mg L tL f1 f2 f3 f4 f5 f6 -> Q .next ⟨h',g,d,t',os⟩) :
    wpAny (MM w) A (execs (clsBody kStmt) (kEnv ns fr c cell)) Q E ⟨h,g,d,t,os⟩ := by
  refine wpAny_execs_cons (wpAny_Assign_Name (wpAny_Constant_str ?_))
  refine cb_store (es' := fun _ _ => (kE3 hs ts m0 tq vf).modify 0 fun e => { e with val := .str (Str.ofString "cpy313.functools") t }) S rfl (by kernel_rfl) (by kernel_rfl) (fun hash tk => put_old (i := 0) (by kernel_rfl)) fun h1 _ _ S => ?_
  try dsimp only
  have S : CB T h0 h1 ns c P #[⟨hs 0, .str (Str.ofString "__module__") (ts 0), .str (Str.ofString "cpy313.functools") t⟩,⟨hs 1, .str (Str.ofString "__qualname__") (ts 1), .str kQ tq⟩,⟨hs 2, .str (Str.ofString "__firstlineno__") (ts 2),vf⟩] 3 #[] [] := S
  refine wpAny_execs_cons (wpAny_Assign_Name (wpAny_List (args_cons (wpAny_Constant_str (args_nil ⟨Nat.le_of_ble_eq_true rfl, ?_⟩)))))
  try dsimp only
  have SL := (S.mono (h' := h1.push { cls := .type "list",data := .seq #[.str (Str.ofString "obj") (t + 1 + 1)] }) fun b o e => Heap.get?_push_of_some _ e).add (a := h1.objs.size) (Heap.get?_push_size _ rfl) (Nat.ne_of_gt (Heap.lt_size S.d)) (Nat.ne_of_gt (Heap.lt_size S.t))
  generalize h1.objs.size = L at SL ⊢
  refine cb_store (es' := fun hash tk => Array.push _ ⟨hash, .str (Str.ofString "__slots__") tk, .ref L⟩) SL rfl (by kernel_rfl) (by kernel_rfl) (fun hash tk => put_new (by kernel_rfl)) fun h2 H3 T3 S => ?_
  try dsimp only
  refine wpAny_execs_cons (cb_def (clos := []) (es' := fun v hash tk => Array.push _ ⟨hash, .str (Str.ofString "__init__") tk,v⟩) S rfl (fun v => by kernel_rfl) (by kernel_rfl) (fun v hash tk => put_new (by kernel_rfl)) rfl rfl rfl (by kernel_rfl) rfl rfl hgT hg hb hbT (by kernel_rfl) fun h3 f1 oc1 c1 doc1 ctv1 H4 T4 t4 S g1 => ?_)
  try dsimp only
  refine wpAny_execs_cons (cb_def (clos := [(Str.ofString "mycmp",cell)]) (es' := fun v hash tk => Array.push _ ⟨hash, .str (Str.ofString "__lt__") tk,v⟩) S rfl (fun v => by kernel_rfl) (by kernel_rfl) (fun v hash tk => put_new (by kernel_rfl)) rfl rfl rfl (by kernel_rfl) rfl rfl hgT hg hb hbT (by kernel_rfl) fun h4 f2 oc2 c2 doc2 ctv2 H5 T5 t5 S g2 => ?_)
  try dsimp only
  refine wpAny_execs_cons (cb_def (clos := [(Str.ofString "mycmp",cell)]) (es' := fun v hash tk => Array.push _ ⟨hash, .str (Str.ofString "__gt__") tk,v⟩) S rfl (fun v => by kernel_rfl) (by kernel_rfl) (fun v hash tk => put_new (by kernel_rfl)) rfl rfl rfl (by kernel_rfl) rfl rfl hgT hg hb hbT (by kernel_rfl) fun h5 f3 oc3 c3 doc3 ctv3 H6 T6 t6 S g3 => ?_)
  try dsimp only
  refine wpAny_execs_cons (cb_def (clos := [(Str.ofString "mycmp",cell)]) (es' := fun v hash tk => Array.push _ ⟨hash, .str (Str.ofString "__eq__") tk,v⟩) S rfl (fun v => by kernel_rfl) (by kernel_rfl) (fun v hash tk => put_new (by kernel_rfl)) rfl rfl rfl (by kernel_rfl) rfl rfl hgT hg hb hbT (by kernel_rfl) fun h6 f4 oc4 c4 doc4 ctv4 H7 T7 t7 S g4 => ?_)
  try dsimp only
  refine wpAny_execs_cons (cb_def (clos := [(Str.ofString "mycmp",cell)]) (es' := fun v hash tk => Array.push _ ⟨hash, .str (Str.ofString "__le__") tk,v⟩) S rfl (fun v => by kernel_rfl) (by kernel_rfl) (fun v hash tk => put_new (by kernel_rfl)) rfl rfl rfl (by kernel_rfl) rfl rfl hgT hg hb hbT (by kernel_rfl) fun h7 f5 oc5 c5 doc5 ctv5 H8 T8 t8 S g5 => ?_)
  try dsimp only
  refine wpAny_execs_cons (cb_def (clos := [(Str.ofString "mycmp",cell)]) (es' := fun v hash tk => Array.push _ ⟨hash, .str (Str.ofString "__ge__") tk,v⟩) S rfl (fun v => by kernel_rfl) (by kernel_rfl) (fun v hash tk => put_new (by kernel_rfl)) rfl rfl rfl (by kernel_rfl) rfl rfl hgT hg hb hbT (by kernel_rfl) fun h8 f6 oc6 c6 doc6 ctv6 H9 T9 t9 S g6 => ?_)
  try dsimp only
  refine wpAny_execs_cons (wpAny_Assign_Name (Constant_none ?_))
  refine cb_store (es' := fun hash tk => Array.push _ ⟨hash, .str (Str.ofString "__hash__") tk, .none⟩) S rfl (by kernel_rfl) (by kernel_rfl) (fun hash tk => put_new (by kernel_rfl)) fun h9 H10 T10 S => ?_
  refine wpAny_execs_nil ?_
  refine K h9 (fun i => match i with | 0 => hs 0 | 1 => hs 1 | 2 => hs 2 | 3 => H3 | 4 => H4 | 5 => H5 | 6 => H6 | 7 => H7 | 8 => H8 | 9 => H9 | _ => H10) (fun i => match i with | 0 => ts 0 | 1 => ts 1 | 2 => ts 2 | 3 => T3 | 4 => T4 | 5 => T5 | 6 => T6 | 7 => T7 | 8 => T8 | 9 => T9 | _ => T10) (.str (Str.ofString "cpy313.functools") t) t L (t + 1 + 1) f1 f2 f3 f4 f5 f6 _ _ _ _ rfl S ?_
  have hL := (S.fs (L, { cls := .type "list",data := .seq #[.str (Str.ofString "obj") (t + 1 + 1)] }) (by simp)).1
  refine ⟨hL, ?_, ?_, ?_, ?_, ?_, ?_⟩
  . exact KF.of S (c' := c1) (oc := oc1) (doc := doc1) (ctv := ctv1) (List.mem_of_getElem? (i := 10) (by kernel_rfl)) (List.mem_of_getElem? (i := 11) rfl) g1
  . exact KF.of S (c' := c2) (oc := oc2) (doc := doc2) (ctv := ctv2) (List.mem_of_getElem? (i := 8) (by kernel_rfl)) (List.mem_of_getElem? (i := 9) rfl) g2
  . exact KF.of S (c' := c3) (oc := oc3) (doc := doc3) (ctv := ctv3) (List.mem_of_getElem? (i := 6) (by kernel_rfl)) (List.mem_of_getElem? (i := 7) rfl) g3
  . exact KF.of S (c' := c4) (oc := oc4) (doc := doc4) (ctv := ctv4) (List.mem_of_getElem? (i := 4) (by kernel_rfl)) (List.mem_of_getElem? (i := 5) rfl) g4
  . exact KF.of S (c' := c5) (oc := oc5) (doc := doc5) (ctv := ctv5) (List.mem_of_getElem? (i := 2) (by kernel_rfl)) (List.mem_of_getElem? (i := 3) rfl) g5
  . exact KF.of S (c' := c6) (oc := oc6) (doc := doc6) (ctv := ctv6) (List.mem_of_getElem? (i := 0) (by kernel_rfl)) (List.mem_of_getElem? (i := 1) rfl) g6
end
section
theorem class_code {w : World} {A : Around} {E : Value -> Shared -> Prop} {s : Shared} {env : Env} {c P : Addr} {ps : Array Value} {pos : Pos} {fl : Nat} {name qual : Str} {scope : Scope} {Q : Value -> Shared -> Prop}
    (hc : env.code = .ref c) (C : CodeHd s.heap c P) (hP : s.heap.get? P = some (tabObj ps)) (ht : TriplesOk ps.toList) (hnf : codeAmong pos ps.toList = none)
    (k : ∀ c' P' h' tk,Heap.ExtBut P s.heap h' -> s.heap.objs.size <= c' -> s.heap.objs.size <= P' -> CodeHd h' c' P' -> h'.get? P' = some (tabObj #[]) -> h'.get? P = some (tabObj (ps ++ #[rawInt pos.line,rawInt pos.col, .ref c'])) -> Q (.ref c') { s with heap := h',toks := tk }) :
    wpAny (MM w) A (classCode env pos fl name qual scope) Q E s := by
  obtain ⟨o,vs,file,tf,flags,tg,inF,text,tt,ho,hcl,hd,h11',h11,h18,h7,h9,h10,hne⟩ := C
  unfold classCode codeAt
  rw [hc,if_neg (show ¬ ((Value.ref c == Value.none) = true) from Bool.false_ne_true)]
  refine wpAny_bind (wpAny_fieldsOf ho hd ?_)
  rw [h11]
  refine wpAny_bind (wpAny_fieldsOf hP rfl ?_)
  rw [hnf,h18,h7,h9,h10]
  refine wpAny_bind (wpAny_newCodeX fun c' P' h' tk keep sc sP isC tab rec' => ?_)
  have hP' := keep _ _ hP
  have ltP : P < s.heap.objs.size := Heap.lt_size hP
  refine wpAny_bind (wpAny_updateFieldsOfTheText hP' rfl ?_)
  generalize hF : Obj.mapFields (fun vs => if (codeAmong pos vs.toList).isSome = true then vs else vs ++ #[rawInt pos.line,rawInt pos.col,Value.ref c']) = F
  have hFP : F (tabObj ps) = tabObj (ps ++ #[rawInt pos.line,rawInt pos.col, .ref c']) := by
    rw [<- hF]
    simp only [Obj.mapFields,hnf]
    rfl
  have hnew : (h'.update P F).get? P = some (tabObj (ps ++ #[rawInt pos.line,rawInt pos.col, .ref c'])) := by
    rw [Heap.get?_update_self F hP' (by rw [hFP]; rfl),hFP]
  have oth : ∀ b o,b ≠ P -> h'.get? b = some o -> (h'.update P F).get? b = some o := fun b o hb e => Heap.get?_update_of_ne F (Ne.symm hb) e
  refine wpAny_bind (wpAny_fieldsOf hnew rfl ?_)
  have hl : (ps ++ #[rawInt pos.line,rawInt pos.col,Value.ref c']).toList = ps.toList ++ [rawInt pos.line,rawInt pos.col, .ref c'] := by simp
  rw [hl,codeAmong_snoc _ ht hnf]
  have hcP : c' ≠ P := Nat.ne_of_gt (Nat.lt_of_lt_of_le ltP sc)
  have hPP : P' ≠ P := Nat.ne_of_gt (Nat.lt_of_lt_of_le ltP sP)
  exact wpAny_pure (k c' P' _ tk (fun b o hb e => oth _ _ hb (keep _ _ e)) sc sP (CodeHd.but (CodeHd.of isC tab) fun o e => oth _ _ hcP e) (oth _ _ hPP tab.2) hnew)
end
section
theorem slot_tga : PySem.Slot "type" "__getattribute__" "type.__getattribute__" := .of (owner := "type") (n := "__getattribute__") (by rw [typeLookup_type,builtinLookup_eq_fast]; kernel_rfl) (by decide +kernel) (by decide +kernel) (by decide +kernel)
  (by first | exact .inl (by decide +kernel) | exact .inr (by decide +kernel)) (by rw [isSubtype_type]; kernel_rfl)
theorem entry_tga : entryFor table "type.__getattribute__" = some Builtin.«type.__getattribute__» := entryFor_of_tree (by kernel_rfl)
theorem args_tga (a b : Value) : argsOk "type.__getattribute__" ⟨[a,b], []⟩ := by unfold argsOk; kernel_rfl
section
variable {w : World} {A : Around} {E : Value -> Shared -> Prop} {h : Heap} {g : Array GenState} {d : Drawn} {t : Nat} {os : OsState}
theorem tga_prepare {tk : Tok} {Q : PySem.Fin -> Shared -> Prop} 
    (hq : Q (.done (.ret (.ref h.objs.size))) ⟨h.push { cls := .type "builtin_function_or_method",data := .fields #[.builtin "type.__prepare__", .type "type"] },g,d,t,os⟩) :
    wpAny (MM w) A (Builtin.«type.__getattribute__» ⟨[.type "type", .str (Str.ofString "__prepare__") tk], []⟩) Q E ⟨h,g,d,t,os⟩ := by
  have o2 : typeOf (.builtin "type.__prepare__") = pure (.type "classmethod_descriptor") := by kernel_rfl
  have o3 : typeLookup (.type "classmethod_descriptor") (Str.ofString "__get__") = pure (some (.builtin "classmethod_descriptor.__get__")) := slot_cmd_get.lookup
  have o4 : typeLookup (.type "classmethod_descriptor") (Str.ofString "__set__") = pure none := by rw [typeLookup_type,builtinLookup_eq_fast]; kernel_rfl
  have o5 : typeLookup (.type "classmethod_descriptor") (Str.ofString "__delete__") = pure none := by rw [typeLookup_type,builtinLookup_eq_fast]; kernel_rfl
  have o6 : typeLookup (.type "type") (Str.ofString "__prepare__") = pure (some (.builtin "type.__prepare__")) := by rw [typeLookup_type,builtinLookup_eq_fast]; kernel_rfl
  have o7 : opaqueClassAbove (.type "type") = pure none := by kernel_rfl
  have o8 : typeOf (.type "type") = pure (.type "type") := by kernel_rfl
  have o9 : isSubtype (Value.type "type") (Value.type (".".intercalate ("type.__prepare__".cutAt '.').dropLast)) = pure true := by rw [isSubtype_type]; kernel_rfl
  have hT : ∀ s : Shared,s.TypeIs (.builtin "type.__prepare__") "classmethod_descriptor" := fun s => o2
  unfold Builtin.«type.__getattribute__»
  repeat (first
    | (with_reducible refine wpAny_call_entry slot_cmd_get (hT _) entry_cmd_get ?_ (args_cmd_get _ _ _))
    | wp_step)
  refine ⟨_,rfl, ?_⟩
  wp_walk
  exact hq
noncomputable def kPrep : Obj := { cls := .type "builtin_function_or_method",data := .fields #[.builtin "type.__prepare__", .type "type"] }
theorem getattr_prepare {Q : Option Value -> Shared -> Prop}
    (hq : Q (some (.ref h.objs.size)) ⟨h.push kPrep,g,d,t + 1,os⟩) :
    wpAny (MM w) A (getAttr? (.type "type") (Str.ofString "__prepare__")) Q E ⟨h,g,d,t,os⟩ := by
  have hlk := slot_tga.lookup
  have hbi := slot_tga.bind (.type "type")
  have o8 : typeOf (.type "type") = pure (.type "type") := by kernel_rfl
  have hT : ∀ t',(⟨h,g,d,t',os⟩ : Shared).TypeIs (.type "type") "type" := fun _ => o8
  unfold getAttr?
  refine wpAny_bind (wpAny_mkText ?_)
  dsimp only
  unfold getAttrBy? getAttrBy
  repeat (first | ((with_reducible show wpAny _ _ (call (.builtin "type.__getattribute__") _) _ _ _); (show wpAny _ _ (call (.builtin "type.__getattribute__") (.type "type" :: [.str (Str.ofString "__prepare__") t])) _ _ _); (refine wpAny_call_entry slot_tga (hT _) entry_tga (tga_prepare ⟨_,rfl, ?_⟩) (args_tga _ _))) | wp_step)
  exact hq
end
end
section
theorem plain_prep : plainId "type.__prepare__" = true := by decide +kernel
theorem entry_prep : entryFor table "type.__prepare__" = some Builtin.«type.__prepare__» := entryFor_of_tree (by kernel_rfl)
section
variable {w : World} {A : Around} {E : Value -> Shared -> Prop} {h : Heap} {g : Array GenState} {d : Drawn} {t : Nat} {os : OsState}
theorem checkHand {id full short : String} {r x y : Value} {Q : Unit -> Shared -> Prop} {s : Shared} (hf : (full != "*") = true) (hs : (short != "*") = true) (hq : Q () s) :
    wpAny (MM w) A (Bind.checkArgs id { machinery := .hand,full := full,short := short,receiver := .cls,params := [] } ⟨[r,x,y], []⟩) Q E s := by
  unfold Bind.checkArgs Bind.printed
  dsimp only
  rw [hf,hs]
  refine wpAny_bind (wpAny_pure (wpAny_bind (wpAny_pure ?_)))
  refine wpAny_onRaise ?_
  exact wpAny_pure hq
theorem call_prep {b : Addr} {x y : Value} {Q : Value -> Shared -> Prop} (hb : h.get? b = some kPrep) (hq : Q (.ref h.objs.size) ⟨h.push (kDict #[] 0),g,d,t,os⟩) : wpAny (MM w) A (call (.ref b) [x,y]) Q E ⟨h,g,d,t,os⟩ := by
  refine wpAny_call (codeAny_of_tree ?_)
  show wpAny _ A.in1 (callAny (.ref b) _) _ _ _
  unfold kPrep at hb
  have t1 : isSubtype (Value.type "type") (Value.type "module") = pure false := by rw [isSubtype_type]; kernel_rfl
  have t2 : (Manifest.varargsMethods.contains "type.__prepare__" || false) = false := by decide +kernel
  have o8 : typeOf (.type "type") = pure (.type "type") := by kernel_rfl
  have t3 : isSubtype (Value.type ((Manifest.find? "type").elim "type" fun x => x.metatype)) (Value.type "module") = pure false := by rw [isSubtype_type]; kernel_rfl
  have t4 : (toString (Bind.lastOf "type") ++ toString "." ++ toString (Bind.lastOf "type.__prepare__") != "*") = true := by decide +kernel
  have t5 : ("__prepare__" != "*") = true := by decide +kernel
  wp_walk using checkHand t4 t5
  refine ⟨plainId_quiet plain_prep _,codeAny_builtin entry_prep ?_⟩
  rw [Around.under_plainId plain_prep _]
  unfold Builtin.«type.__prepare__» newDict
  wp_walk
  exact hq
end
end
section
theorem ifGtF {w : World} {α : Type} {A : Around} {E : Value -> Shared -> Prop} {s : Shared} {Q : α -> Shared -> Prop} {a b : Nat} {x y : Sem α} (hb : a <= b) (h : wpAny (MM w) A y Q E s) : wpAny (MM w) A (if a > b then x else y) Q E s := by rw [if_neg (Nat.not_lt.mpr hb)]; exact h
theorem if20 {w : World} {α : Type} {A : Around} {E : Value -> Shared -> Prop} {s : Shared} {Q : α -> Shared -> Prop} {a : Nat} {x y : Sem α} (hb : a = 1) (h : wpAny (MM w) A y Q E s) : wpAny (MM w) A (if a > 2 ^ 20 then x else y) Q E s := ifGtF (by subst hb; decide) h
local macro_rules | `(tactic| wp_step) => `(tactic| first
  | ((with_reducible refine if20 ?hh ?_); (case hh => rfl)))
noncomputable def kPos : Pos := match kStmt with | .ClassDef _ _ _ _ _ _ _ _ _ _ p => p | _ => default
noncomputable def kStat : List Str := [Str.ofString "obj"]
structure BF (h : Heap) (c0 T : Addr) (ps0 : Array Value) (mg : Str -> Option Value) (oS : Obj) : Prop where
  cd : CodeHd h c0 T
  t : h.get? T = some (tabObj ps0)
  tr : TriplesOk ps0.toList
  nf : codeAmong kPos ps0.toList = none
  g : h.Ns mainGlobals mg
  b : h.BuiltinsAt mg T
  gT : mainGlobals ≠ T
  sT : cStatics ≠ T
  nm : ∃ v,mg (Str.ofString "__name__") = some v
  s : h.get? cStatics = some oS
  ts : nsLook (Str.ofString "thirdparty.any") oS = pure none
  lim : h.NoLimit
theorem call_prepK {w : World} {A : Around} {E : Value -> Shared -> Prop} {h : Heap} {g : Array GenState} {d : Drawn} {t : Nat} {os : OsState} {b : Addr} {x y : Value} {kw : List (Str × Value)} {Q : Value -> Shared -> Prop} (hk : kw = []) (hb : h.get? b = some kPrep)
    (k : ∀ h' ns,h'.get? ns = some (kDict #[] 0) -> (∀ b o,h.get? b = some o -> h'.get? b = some o) -> h.objs.size <= ns -> Q (.ref ns) ⟨h',g,d,t,os⟩) : wpAny (MM w) A (call (.ref b) [x,y] kw) Q E ⟨h,g,d,t,os⟩ := by
  subst hk
  exact call_prep hb (k _ _ (Heap.get?_push_size _ rfl) (fun b o e => Heap.get?_push_of_some _ e) (Nat.le_refl _))
theorem enterStop {w : World} {A : Around} {E : Value -> Shared -> Prop} {s : Shared} {Q : Unit -> Shared -> Prop} (hl : s.heap.NoLimit) (hd : A.depth < 900) (h : Stop (Q () s)) : wpAny (MM w) A enterFrame Q E s := wpAny_enterFrame hl (Nat.lt_trans hd (by decide)) h
noncomputable def PrepOk (mc : Value) : Prop := ∀ {w : World} {A : Around} {E : Value -> Shared -> Prop} {h : Heap} {g : Array GenState} {d : Drawn} {t : Nat} {os : OsState} {Q : Option Value -> Shared -> Prop},Q (some (.ref h.objs.size)) ⟨h.push kPrep,g,d,t + 1,os⟩ -> wpAny (MM w) A (getAttr? mc (Str.ofString "__prepare__")) Q E ⟨h,g,d,t,os⟩
structure B1 (h0 h : Heap) (T B ns c P : Addr) (b : Value) : Prop where
  keep : Heap.ExtBut T h0 h
  hB : h.get? B = some { cls := .type "tuple",data := .seq #[b] }
  d : h.get? ns = some (kDict #[] 0)
  cd : CodeHd h c P
  t : h.get? P = some (tabObj #[])
  np : ns ≠ P
  lB : h0.objs.size <= B
  ln : h0.objs.size <= ns
  lp : h0.objs.size <= P
  nB : B ≠ ns
  pB : B ≠ P
  eB : B = h0.objs.size
  bn : B < ns
  bp : B < P
  tt : ∃ qs,h.get? T = some (tabObj qs)
noncomputable def bseg1 (name qual : Str) (b mc : Value) (body : List Stmt) (scope : Scope) (st : List Str) (pos : Pos) (fl : Nat) (cell : Addr) : { R : Addr -> Addr -> Addr -> Addr -> Tok -> Sem Value // ∀ {w : World} {A : Around} {E : Value -> Shared -> Prop} {h : Heap} {g : Array GenState} {d : Drawn} {t : Nat} {os : OsState} {env : Env} {c0 T : Addr} {ps0 : Array Value} {mg : Str -> Option Value} {oS : Obj} {Q : Value -> Shared -> Prop}
    (i1 : isType b = pure true) (i2 : typeOf b = pure mc) (i3 : isType mc = pure true) (i4 : isSubtype mc mc = pure true) (i5 : PrepOk mc)
    (l1 : (scope.names.lookup (Str.ofString "__class__") == some NameKind.cell) = false) (l2 : (scope.names.lookup (Str.ofString "__classdict__") == some NameKind.cell) = false)
    (F : BF h c0 T ps0 mg oS) (hpos : kPos = pos) (hge : env.globals = mainGlobals) (hco : env.code = .ref c0) (hcl : closureFor scope env = pure [(Str.ofString "mycmp",cell)]) (hdep : A.depth < 900)
    (K : ∀ h' B ns fr c P t' tn,B1 h h' T B ns c P b -> wpAny (MM w) A (R B ns fr c tn) Q E ⟨h',g,d,t',os⟩), 
    wpAny (MM w) A (buildClass name qual [b] [] body scope st fl env pos none) Q E ⟨h,g,d,t,os⟩ } := by
  apply Subtype.mk
  intro w A E h g d t os env c0 T ps0 mg oS Q i1 i2 i3 i4 i5 l1 l2 F hpos hge hco hcl hdep K
  unfold PrepOk at i5
  unfold buildClass
  repeat (first | (with_reducible refine i5 ?_) | (with_reducible refine call_prepK ?hk (Heap.get?_push_size _ rfl) ?kk) | wp_step)
  case hk => rfl
  have hB0 : ((h.push { cls := .type "tuple",data := .seq #[b] }).push kPrep).get? h.objs.size = some { cls := .type "tuple",data := .seq #[b] } := Heap.get?_push_of_some _ (Heap.get?_push_size _ rfl)
  have hk0 : ∀ b' o,h.get? b' = some o -> ((h.push { cls := .type "tuple",data := .seq #[b] }).push kPrep).get? b' = some o := fun b' o e => Heap.get?_push_of_some _ (Heap.get?_push_of_some _ e)
  have hz0 : h.objs.size < ((h.push { cls := .type "tuple",data := .seq #[b] }).push kPrep).objs.size := Heap.lt_size hB0
  generalize (h.push { cls := .type "tuple",data := .seq #[b] }).push kPrep = h1 at hB0 hk0 hz0 ⊢
  have hlB : h.objs.size <= h.objs.size := Nat.le_refl _
  generalize hBe : h.objs.size = B at hB0 hz0 hlB ⊢
  intro h2 ns hns hk1 hln
  have hsys : (ns == sysModules) = false := by
    have h3 : cStatics < h.objs.size := Heap.lt_size F.s
    have : (2 : Nat) < h.objs.size := h3
    have : (1 : Nat) < ns := by lia
    exact beq_eq_false_iff_ne.mpr (Nat.ne_of_gt this)
  have gi : typeLookup (.type "dict") (Str.ofString "__getitem__") = pure (some (.builtin "dict.__getitem__")) := by rw [typeLookup_type,builtinLookup_eq_fast]; kernel_rfl
  have hTd : ∀ t',(⟨h2,g,d,t',os⟩ : Shared).TypeIs (.ref ns) "dict" := fun _ => ⟨_,hns,rfl⟩
  have hTd0 := hTd (t + 1 + 1)
  have kk : ∀ b' o,h.get? b' = some o -> h2.get? b' = some o := fun b' o e => hk1 _ _ (hk0 _ _ e)
  have cd2 : CodeHd h2 c0 T := F.cd.keeps kk
  have t2 := kk _ _ F.t
  have nf2 : codeAmong pos ps0.toList = none := hpos ▸ F.nf
  obtain ⟨oG,esG,epG,hG,rG⟩ := F.g
  obtain ⟨bm,ob,hb1,hb2,hb3,hb4,hb5,hb6,hb7,hb8⟩ := F.b
  repeat (first | (with_reducible refine class_code hco cd2 t2 F.tr nf2 ?c5) | wp_step)
  intro c P h3 tk3 hext hc3 hP3 cd3 hP hT3
  have g3 : h3.Ns mainGlobals mg := ⟨oG,esG,epG,hext _ _ F.gT (kk _ _ hG),rG⟩
  have bT : bm ≠ T := hb4
  have hb5' : h3.get? bm = some ob := hext _ _ bT (kk _ _ hb5)
  have lim3 : h3.NoLimit := Heap.NoLimit.extBut (F.lim.keeps kk) hext F.sT
  repeat (first | (with_reducible refine wpAny_builtinsFor g3 hb1 hb2 hb5' hb6 hb7 hb8 ?_) | (with_reducible refine wpAny_nsGet g3 ?_) | (with_reducible refine enterStop ?e1 hdep ?e2) | (rw [hge]) | wp_step)
  case e1 => exact lim3.keeps fun b o e => Heap.get?_push_of_some _ e
  case e2 =>
    delta Stop
    dsimp only at hext hc3 hP3 ⊢
    have lns : ns < h2.objs.size := Heap.lt_size hns
    have lB : B < h2.objs.size := Heap.lt_size (hk1 _ _ hB0)
    have z2 : h.objs.size <= h2.objs.size := by lia
    have nT : ns ≠ T := Nat.ne_of_gt (Nat.lt_of_lt_of_le (Heap.lt_size F.t) (by lia))
    have bT2 : B ≠ T := Nat.ne_of_gt (Nat.lt_of_lt_of_le (Heap.lt_size F.t) (by lia))
    have lBn : B < ns := Nat.lt_of_lt_of_le hz0 hln
    have lBP : B < P := Nat.lt_of_lt_of_le lB hP3
    have S1 : B1 h h3 T B ns c P b := ⟨fun b' o hb e => hext _ _ hb (kk _ _ e),hext _ _ bT2 (hk1 _ _ hB0),hext _ _ nT hns,cd3,hP,Nat.ne_of_lt (by lia),by lia,by lia,by lia,Nat.ne_of_lt (by lia),Nat.ne_of_lt (by lia),hBe.symm,lBn,lBP,⟨_,hT3⟩⟩
    have S2 : ∀ o,B1 h (h3.push o) T B ns c P b := fun o => ⟨fun b' o' hb e => Heap.get?_push_of_some _ (S1.keep b' o' hb e),Heap.get?_push_of_some _ S1.hB,Heap.get?_push_of_some _ S1.d,S1.cd.keeps fun b o e => Heap.get?_push_of_some _ e,Heap.get?_push_of_some _ S1.t,S1.np,S1.lB,S1.ln,S1.lp,S1.nB,S1.pB,S1.eB,S1.bn,S1.bp,let ⟨qs,e⟩ := S1.tt; ⟨qs,Heap.get?_push_of_some _ e⟩⟩
    generalize hfo : ({ cls := .type "frame",slots := #[some (Value.ref c),some (Value.ref mainGlobals),some (Value.ref ns),none,some ((mg (Str.ofString "__name__")).getD Value.none),none,some (Value.ref builtinsNs)] } : Obj) = fo
    have S3 := S2 fo
    generalize h3.push fo = h4 at S3 ⊢
    generalize h3.objs.size = fr
    exact K h4 B ns fr c P tk3 t S3
end
section
theorem get_push_inv {h : Heap} {o o' : Obj} {a : Addr} (e : (h.push o).get? a = some o') : h.get? a = some o' ∨ (a = h.objs.size ∧ o = o') := by
  obtain ⟨e1,e2⟩ := Heap.get?_some_iff.mp e
  cases h with
  | mk objs =>
    simp only [Heap.push,Array.getElem?_push] at e1
    split at e1
    . rename_i he
      cases e1
      exact .inr ⟨he,rfl⟩
    . exact .inl (Heap.get?_some_iff.mpr ⟨e1,e2⟩)
theorem cb_store2 {w : World} {A : Around} {E : Value -> Shared -> Prop} {T : Addr} {h0 h : Heap} {g : Array GenState} {d : Drawn} {t : Nat} {os : OsState} {ns c P : Addr} {es : Array DictEntry} {n : Nat} {ps : Array Value} {fs : List (Addr × Obj)} {name : Str} {env : Env} {v : Value} {es' : Int -> Tok -> Array DictEntry} {n' : Nat} {Q : Unit -> Shared -> Prop} (S : CB T h0 h ns c P es n ps fs) (hl : env.locals = ns) (hs : storeName env name v = localSet env name v) (hr : aRefKeyMayBeTheName name es = false)
    (he : ∀ hash tk,Obj.putName name hash (.str name tk) v (kDict es n) = kDict (es' hash tk) n')
    (k : ∀ h' hash tk,(∀ b o,b ≠ ns -> h.get? b = some o -> h'.get? b = some o) -> CB T h0 h' ns c P (es' hash tk) n' ps fs -> Q () ⟨h',g,d,t + 1,os⟩) : wpAny (MM w) A (storeName env name v) Q E ⟨h,g,d,t,os⟩ := by
  rw [hs]
  unfold localSet
  rw [hl]
  refine wpAny_bind (wpAny_load S.d ?_)
  show wpAny _ _ (nsSet ns name v) _ _ _
  unfold nsSet strHash
  refine wpAny_bind (wpAny_bind (wpAny_askSetting ?_))
  refine wpAny_pure ?_
  refine wpAny_bind (wpAny_mkText ?_)
  refine wpAny_bind (wpAny_loadPart S.d ?_)
  dsimp only [kDict]
  rw [hr]
  refine wpAny_updatePart S.d ?_
  exact k _ _ _ (fun b o hb e => Heap.get?_update_of_ne _ (Ne.symm hb) e) (S.setD (he _ _))
theorem cb_start {h0 h : Heap} {T B ns c P : Addr} {b : Value} (S : B1 h0 h T B ns c P b) (hT : T < h0.objs.size) : CB T (h0.push { cls := .type "tuple",data := .seq #[b] }) h ns c P #[] 0 #[] [] := by
  refine ⟨fun a o ha e => ?_,S.d,S.t,S.cd,S.np,fun p hp => (nomatch hp), ?_, ?_,trivial⟩
  . rcases get_push_inv e with e | ⟨rfl,rfl⟩
    . exact S.keep _ _ ha e
    . rw [<- S.eB]; exact S.hB
  . rw [Heap.size_push, <- S.eB]; exact S.bn
  . rw [Heap.size_push, <- S.eB]; exact S.bp
theorem KF.but {h h' : Heap} {ns : Addr} {es : Array DictEntry} {n i : Nat} {nm : Str} {clos : List (Str × Addr)} {cell f : Addr} {mg : Str -> Option Value} (x : KF h i nm clos cell mg f) (hd : h.get? ns = some (kDict es n)) (k : ∀ b o,b ≠ ns -> h.get? b = some o -> h'.get? b = some o) : KF h' i nm clos cell mg f := by
  obtain ⟨doc,cv,ctv,e,q,oc,vs,t,e1,e2,e3,e4⟩ := x
  refine ⟨doc,cv,ctv,k _ _ ?_ e,q,oc,vs,t,e1,k _ _ ?_ e2,e3,e4⟩
  . rintro rfl
    rw [hd] at e
    have := congrArg (fun o : Option Obj => o.map (·.cls)) e
    exact absurd (Value.type.inj (Option.some.inj this)) (by decide)
  . rintro rfl
    rw [hd] at e2
    have e5 : kDict es n = oc := Option.some.inj e2
    rw [<- e5] at e3
    cases e3
theorem KBody.but {h h' : Heap} {ns : Addr} {es : Array DictEntry} {n : Nat} {cell : Addr} {mg : Str -> Option Value} {L f1 f2 f3 f4 f5 f6 : Addr} {tL : Tok} (x : KBody h cell mg L tL f1 f2 f3 f4 f5 f6) (hd : h.get? ns = some (kDict es n)) (k : ∀ b o,b ≠ ns -> h.get? b = some o -> h'.get? b = some o) : KBody h' cell mg L tL f1 f2 f3 f4 f5 f6 := by
  refine ⟨k _ _ ?_ x.hL,x.k1.but hd k,x.k2.but hd k,x.k3.but hd k,x.k4.but hd k,x.k5.but hd k,x.k6.but hd k⟩
  rintro rfl
  have e := x.hL
  rw [hd] at e
  have := congrArg (fun o : Option Obj => o.map (·.cls)) e
  exact absurd (Value.type.inj (Option.some.inj this)) (by decide)
theorem KBody.mono {h h' : Heap} {cell : Addr} {mg : Str -> Option Value} {L f1 f2 f3 f4 f5 f6 : Addr} {tL : Tok} (x : KBody h cell mg L tL f1 f2 f3 f4 f5 f6) (k : ∀ b o,h.get? b = some o -> h'.get? b = some o) : KBody h' cell mg L tL f1 f2 f3 f4 f5 f6 := by
  have kf : ∀ {i nm clos f},KF h i nm clos cell mg f -> KF h' i nm clos cell mg f := fun {i nm clos f} y => by
    obtain ⟨doc,cv,ctv,e,r⟩ := y
    exact ⟨doc,cv,ctv,k _ _ e,r.keeps k⟩
  exact ⟨k _ _ x.hL,kf x.k1,kf x.k2,kf x.k3,kf x.k4,kf x.k5,kf x.k6⟩
theorem KF.fn {h : Heap} {i : Nat} {nm : Str} {clos : List (Str × Addr)} {cell f : Addr} {mg : Str -> Option Value} (x : KF h i nm clos cell mg f) : ∃ a o,(Value.ref f) = .ref a ∧ h.get? a = some o ∧ o.cls = .type "function" := by
  obtain ⟨doc,cv,ctv,e, _⟩ := x
  exact ⟨_, _,rfl,e,rfl⟩
inductive KCls (cell : Addr) (mg : Str -> Option Value) (h : Heap) (a : Addr) : Prop
  | mk (k : KIn) (tq : Tok) (ns m : Addr) (hash : Int) (tk2 tk3 : Tok) (hash4 : Int) (tk4 tL : Tok) (f1 f2 f3 f4 f5 f6 : Addr) (KM : KMade k tq h ns a m hash tk2 tk3 hash4 tk4) (KB : KBody h cell mg k.L tL f1 f2 f3 f4 f5 f6) (e1 : k.f1 = .ref f1) (e2 : k.f2 = .ref f2) (e3 : k.f3 = .ref f3) (e4 : k.f4 = .ref f4) (e5 : k.f5 = .ref f5) (e6 : k.f6 = .ref f6)
noncomputable def KStay (T : Addr) (h0 h : Heap) (cell : Addr) (mg : Str -> Option Value) (a : Addr) : Prop :=
  ∀ b o es n,b ≠ T -> h0.get? b = some o -> o.data = .dict es n -> ∀ h',(∀ x y,x ≠ b -> h.get? x = some y -> h'.get? x = some y) -> KCls cell mg h' a
theorem KF.but2 {h h' : Heap} {b : Addr} {o : Obj} {es : Array DictEntry} {n i : Nat} {nm : Str} {clos : List (Str × Addr)} {cell f : Addr} {mg : Str -> Option Value} (x : KF h i nm clos cell mg f) (hd : h.get? b = some o) (ho : o.data = .dict es n) (k : ∀ y z,y ≠ b -> h.get? y = some z -> h'.get? y = some z) : KF h' i nm clos cell mg f := by
  obtain ⟨doc,cv,ctv,e,q,oc,vs,t,e1,e2,e3,e4⟩ := x
  refine ⟨doc,cv,ctv,k _ _ ?_ e,q,oc,vs,t,e1,k _ _ ?_ e2,e3,e4⟩
  . rintro rfl
    rw [hd] at e
    rw [Option.some.inj e] at ho
    cases ho
  . rintro rfl
    rw [hd] at e2
    rw [Option.some.inj e2,e3] at ho
    cases ho
theorem KBody.but2 {h h' : Heap} {b : Addr} {o : Obj} {es : Array DictEntry} {n : Nat} {cell : Addr} {mg : Str -> Option Value} {L f1 f2 f3 f4 f5 f6 : Addr} {tL : Tok} (x : KBody h cell mg L tL f1 f2 f3 f4 f5 f6) (hd : h.get? b = some o) (ho : o.data = .dict es n) (k : ∀ y z,y ≠ b -> h.get? y = some z -> h'.get? y = some z) : KBody h' cell mg L tL f1 f2 f3 f4 f5 f6 := by
  refine ⟨k _ _ ?_ x.hL,x.k1.but2 hd ho k,x.k2.but2 hd ho k,x.k3.but2 hd ho k,x.k4.but2 hd ho k,x.k5.but2 hd ho k,x.k6.but2 hd ho k⟩
  rintro rfl
  have e := x.hL
  rw [hd] at e
  rw [Option.some.inj e] at ho
  cases ho
theorem KMade.but2 {k : KIn} {tq : Tok} {h h' : Heap} {ns a m : Addr} {hash : Int} {tk2 tk3 tk4 : Tok} {hash4 : Int} {b : Addr} {o : Obj} {es : Array DictEntry} {n : Nat} (x : KMade k tq h ns a m hash tk2 tk3 hash4 tk4) (hb : b < ns) (hd : h.get? b = some o) (ho : o.data = .dict es n) (kp : ∀ y z,y ≠ b -> h.get? y = some z -> h'.get? y = some z) : KMade k tq h' ns a m hash tk2 tk3 hash4 tk4 := by
  refine ⟨kp _ _ (Nat.ne_of_gt hb) x.d,kp _ _ ?_ x.c,kp _ _ ?_ x.mm⟩
  . rintro rfl
    have e := x.c
    rw [hd] at e
    rw [Option.some.inj e] at ho
    cases ho
  . rintro rfl
    have e := x.mm
    rw [hd] at e
    rw [Option.some.inj e] at ho
    cases ho
theorem class_tail {w : World} {A : Around} {E : Value -> Shared -> Prop} {h0 h : Heap} {g : Array GenState} {d : Drawn} {t : Nat} {os : OsState} {T B ns fr c P cell c0 : Addr} {tn : Tok} {ps0 : Array Value} {mg : Str -> Option Value} {oS : Obj} {fl : Nat} {Q : Value -> Shared -> Prop}
    (S : B1 h0 h T B ns c P (.type "object")) (F : BF h0 c0 T ps0 mg oS)
    (K : ∀ h' a t',(∀ b o,b ≠ T -> h0.get? b = some o -> h'.get? b = some o) -> KCls cell mg h' a -> KStay T h0 h' cell mg a -> (∃ qs,h'.get? T = some (tabObj qs)) -> Q (.ref a) ⟨h',g,d,t',os⟩) :
    wpAny (MM w) A ((bseg1 (Str.ofString "K") kQ (.type "object") (.type "type") (clsBody kStmt) (clsScope kStmt) kStat kPos fl cell).1 B ns fr c tn) Q E ⟨h,g,d,t,os⟩ := by
  obtain ⟨qs,hq⟩ := S.tt
  have hTl : T < h0.objs.size := Heap.lt_size F.t
  obtain ⟨hR,hRz,hRT,hRo⟩ : ∃ hR : Heap,hR.objs.size = h0.objs.size + 1 ∧ hR.get? T = some (tabObj qs) ∧ ∀ b,b ≠ T -> hR.get? b = (h0.push { cls := .type "tuple",data := .seq #[.type "object"] }).get? b :=
    ⟨(h0.push { cls := .type "tuple",data := .seq #[.type "object"] }).update T fun _ => tabObj qs,by rw [Heap.size_update,Heap.size_push],Heap.get?_update_self _ (Heap.get?_push_of_some _ F.t) rfl,fun b hb => Heap.get?_update_ne _ _ _ _ hb⟩
  obtain ⟨T',hT'⟩ : ∃ T' : Nat,T' = h0.objs.size + 1 := ⟨_,rfl⟩
  have lo : ∀ b o,h0.get? b = some o -> b ≠ T' := fun b o e => Nat.ne_of_lt (Nat.lt_of_lt_of_le (Heap.lt_size e) (by rw [hT']; exact Nat.le_succ _))
  have hR1 : ∀ b o,b ≠ T -> h0.get? b = some o -> hR.get? b = some o := fun b o hb e => (hRo b hb).trans (Heap.get?_push_of_some _ e)
  have S0 : CB T' hR h ns c P #[] 0 #[] [] := by
    refine ⟨fun a o ha e => ?_,S.d,S.t,S.cd,S.np,fun p hp => (nomatch hp), ?_, ?_,trivial⟩
    . by_cases hb : a = T
      . subst hb
        rw [hRT] at e
        cases e
        exact hq
      . rw [hRo a hb] at e
        rcases get_push_inv e with e | ⟨rfl,rfl⟩
        . exact S.keep _ _ hb e
        . rw [<- S.eB]; exact S.hB
    . rw [hRz, <- S.eB]; exact S.bn
    . rw [hRz, <- S.eB]; exact S.bp
  have gT' : mainGlobals ≠ T' := by
    obtain ⟨o,es2,ep,e,r⟩ := F.g
    exact lo _ _ e
  have Fg : hR.Ns mainGlobals mg := by
    obtain ⟨o,es2,ep,e,r⟩ := F.g
    exact ⟨o,es2,ep,hR1 _ _ F.gT e,r⟩
  have Fb : hR.BuiltinsAt mg T := by
    obtain ⟨bm,o,e1,e2,e3,e4,e5,r⟩ := F.b
    exact ⟨bm,o,e1,e2,e3,e4,hR1 _ _ e4 e5,r⟩
  have FbT : ∀ bm,mg "__builtins__" = some (.ref bm) -> bm ≠ T' := by
    obtain ⟨bm,o,e1,e2,e3,e4,e5,r⟩ := F.b
    intro bm' e
    rw [e1] at e; cases e; exact lo _ _ e5
  have g1 : h.Ns mainGlobals mg := by
    obtain ⟨o,es2,ep,e,r⟩ := F.g
    exact ⟨o,es2,ep,S.keep _ _ F.gT e,r⟩
  obtain ⟨v0,hv0⟩ := F.nm
  delta bseg1
  dsimp -zeta only
  have hEnv : ∀ (x : Str) (v : Value),kEnv ns fr c cell = kEnv ns fr c cell := fun _ _ => rfl
  refine wpAny_bind (wpAny_onRaise ?_)
  show wpAny _ _ (do
      let v <- loadName (kEnv ns fr c cell) (Str.ofString "__name__")
      storeName (kEnv ns fr c cell) (Str.ofString "__module__") v
      let q <- mkText kQ
      storeName (kEnv ns fr c cell) (Str.ofString "__qualname__") q
      let l <- mkInt ↑fl
      storeName (kEnv ns fr c cell) (Str.ofString "__firstlineno__") l
      pure ()) _ _ _
  have nl : nsLook (Str.ofString "__name__") (kDict #[] 0) = pure none := by kernel_rfl
  have a1 : ((kEnv ns fr c cell).scope.kind.isAnnotationScope && (kEnv ns fr c cell).kindOf (Str.ofString "__classdict__") == some .free && Str.ofString "__name__" != Str.ofString "__classdict__") = false := by kernel_rfl
  have a2 : (kEnv ns fr c cell).blockKind = .class := by kernel_rfl
  have a3 : (kEnv ns fr c cell).kindOf (Str.ofString "__name__") = none := by kernel_rfl
  have a4 : (!compilersOwnNames.contains (Str.ofString "__name__")) = false := by decide +kernel
  refine wpAny_bind ?_
  unfold loadName
  rw [if_neg (by rw [a1]; simp),a2,a3]
  dsimp only
  rw [a4]
  unfold localGet
  refine wpAny_bind (wpAny_bind (wpAny_load S.d ?_))
  show wpAny _ _ (nsGet ns (Str.ofString "__name__")) _ _ _
  refine nsGet_ex S.d nl ?_
  unfold loadGlobal
  refine wpAny_bind (wpAny_nsGet g1 ?_)
  rw [hv0]
  refine wpAny_pure ?_
  refine wpAny_bind (cb_store (es' := fun hash tk => Array.push _ ⟨hash, .str (Str.ofString "__module__") tk,v0⟩) S0 rfl (by kernel_rfl) (by kernel_rfl) (fun hash tk => put_new (by kernel_rfl)) fun h1 H0 T0 S1 => ?_)
  refine wpAny_bind (wpAny_mkText ?_)
  try dsimp only
  refine wpAny_bind (cb_store (es' := fun hash tk => Array.push _ ⟨hash, .str (Str.ofString "__qualname__") tk, .str kQ (t + 1)⟩) S1 rfl (by kernel_rfl) (by kernel_rfl) (fun hash tk => put_new (by kernel_rfl)) fun h2 H1 T1 S2 => ?_)
  refine wpAny_bind (wpAny_mkInt ?_)
  try dsimp only
  refine wpAny_bind (cb_store (es' := fun hash tk => Array.push _ ⟨hash, .str (Str.ofString "__firstlineno__") tk, .int fl (t + 1 + 1 + 1)⟩) S2 rfl (by kernel_rfl) (by kernel_rfl) (fun hash tk => put_new (by kernel_rfl)) fun h3 H2 T2 S3 => ?_)
  refine wpAny_pure ?_
  have S3 : CB T' hR h3 ns c P (kE3 (fun i => match i with | 0 => H0 | 1 => H1 | _ => H2) (fun i => match i with | 0 => T0 | 1 => T1 | _ => T2) v0 (t + 1) (.int fl (t + 1 + 1 + 1))) 3 #[] [] := S3
  refine wpAny_bind (wpAny_run (codeAny_body ?b1 ?b2 (k_body S3 gT' Fg Fb FbT fun h4 hs ts vm tm L tL f1 f2 f3 f4 f5 f6 n' ps fs t4 hvm S4 KB => ?_)))
  case b1 => kernel_rfl
  case b2 => kernel_rfl
  refine wpAny_bind (wpAny_onRaise ?_)
  have km : List.mapM mkText kStat = (mkText (Str.ofString "obj") >>= fun v => pure [v]) := by
    show List.mapM mkText [Str.ofString "obj"] = _
    simp only [List.mapM_cons,List.mapM_nil,pure_bind]
  rw [km]
  refine wpAny_bind (wpAny_bind (wpAny_mkText (wpAny_pure ?_)))
  refine wpAny_bind (wpAny_newTextTuple ?_)
  try dsimp only
  have S5 := (S4.mono (h' := h4.push { cls := .type "tuple",data := .seq #[.str (Str.ofString "obj") t4] }) fun b o e => Heap.get?_push_of_some _ e).add (a := h4.objs.size) (Heap.get?_push_size _ rfl) (Nat.ne_of_gt (Heap.lt_size S4.d)) (Nat.ne_of_gt (Heap.lt_size S4.t))
  have KB5 := KB.mono (h' := h4.push { cls := .type "tuple",data := .seq #[.str (Str.ofString "obj") t4] }) fun b o e => Heap.get?_push_of_some _ e
  generalize h4.objs.size = tup at S5 ⊢
  generalize h4.push { cls := .type "tuple",data := .seq #[.str (Str.ofString "obj") t4] } = h5 at S5 KB5 ⊢
  refine wpAny_bind (cb_store2 (env := kEnv ns fr c cell) (es' := fun hash tk => Array.push _ ⟨hash, .str (Str.ofString "__static_attributes__") tk, .ref tup⟩) S5 rfl (by kernel_rfl) (by kernel_rfl) (fun hash tk => put_new (by kernel_rfl)) fun h6 H11 T11 k6 S6 => ?_)
  have KB6 := KB5.but S5.d k6
  refine wpAny_pure ?_
  rw [if_neg (by simp)]
  refine wpAny_bind ?_
  show wpAny _ _ (call (.type "type") [.str (Str.ofString "K") tn, .ref B, .ref ns]) _ _ _
  have hkb : ∀ b o,b ≠ T -> h0.get? b = some o -> h6.get? b = some o := fun b o hb e => S6.keep b o (lo b o e) (hR1 b o hb e)
  have hkT : h6.get? T = some (tabObj qs) := S6.keep T _ (lo _ _ F.t) hRT
  have hkB : h6.get? B = some { cls := .type "tuple",data := .seq #[.type "object"] } := S6.keep B _ (Nat.ne_of_lt (by rw [hT',S.eB]; exact Nat.lt_succ_self _)) (by rw [hRo B (Ne.symm (Nat.ne_of_lt (Nat.lt_of_lt_of_le (Heap.lt_size F.t) S.lB))),S.eB]; exact Heap.get?_push_size _ rfl)
  have ktup := (S6.fs (tup, { cls := .type "tuple",data := .seq #[.str (Str.ofString "obj") t4] }) (List.mem_cons_self ..)).1
  have hS6 := hkb _ _ F.sT F.s
  let k : KIn := { hs := fun i => if i = 11 then H11 else hs i,ts := fun i => if i = 11 then T11 else ts i,vm := vm,vq := .str kQ (t + 1),vf := .int fl (t + 1 + 1 + 1),f1 := .ref f1,f2 := .ref f2,f3 := .ref f3,f4 := .ref f4,f5 := .ref f5,f6 := .ref f6,vt := .ref tup,L := L,B := B,nsA := ns,n := 0,nn := n' + 1,nb := 0,t := tL,tn := tn }
  have O : k.Ok h6 := by
    refine ⟨KB6.hL,hkB, ?_, ?_⟩
    . rw [S6.d]
      exact congrArg (fun es => some (kDict es (n' + 1))) (by kernel_rfl)
    . have h3 : cStatics < h0.objs.size := Heap.lt_size F.s
      have h4 : (2 : Nat) < h0.objs.size := h3
      have h5 : h0.objs.size <= ns := S.ln
      exact beq_eq_false_iff_ne.mpr (Nat.ne_of_gt (show (1 : Nat) < ns by omega))
  have V : k.Vals (t + 1) h6 := ⟨⟨_, _,hvm⟩,rfl,⟨_, _,rfl⟩,KB6.k1.fn,KB6.k2.fn,KB6.k3.fn,KB6.k4.fn,KB6.k5.fn,KB6.k6.fn,⟨_, _,rfl,ktup,rfl⟩⟩
  refine call_type k O V hS6 F.ts fun h7 ns7 a7 m7 hash7 tk72 tk73 hash74 tk74 t7 k7 fr7 M7 => ?_
  refine wpAny_pure (K h7 a7 t7 (fun b o hb e => k7 _ _ (hkb b o hb e)) ⟨k,t + 1,ns7,m7,hash7,tk72,tk73,hash74,tk74,tL,f1,f2,f3,f4,f5,f6,M7,KB6.mono k7,rfl,rfl,rfl,rfl,rfl,rfl⟩ (fun b o es n hb e ho h8 k8 => ⟨k,t + 1,ns7,m7,hash7,tk72,tk73,hash74,tk74,tL,f1,f2,f3,f4,f5,f6,M7.but2 (fr7 _ _ (hkb b o hb e)) (k7 _ _ (hkb b o hb e)) ho k8,(KB6.mono k7).but2 (k7 _ _ (hkb b o hb e)) ho k8,rfl,rfl,rfl,rfl,rfl,rfl⟩) ⟨qs,k7 _ _ hkT⟩)
end
section
noncomputable def kPx : Pos := match kStmt with | .ClassDef _ (.Name _ p :: _) _ _ _ _ _ _ _ _ _ => p | _ => default
theorem kStmt_eq : kStmt = .ClassDef (Str.ofString "K") [.Name (Str.ofString "object") kPx] [] (clsBody kStmt) [] [] (clsScope kStmt) none (Str.ofString "K") kStat kPos := by kernel_rfl
structure BG (h : Heap) (mg : Str -> Option Value) : Prop where
  b : ∃ mb,h.Ns builtinsNs mb ∧ mb (Str.ofString "__build_class__") = some (.builtin "__build_class__") ∧ mb (Str.ofString "object") = some (.type "object")
  go : mg (Str.ofString "object") = none
theorem evalArgs_two {w : World} {A : Around} {E : Value -> Shared -> Prop} {s : Shared} {f : Value} {args : List (Bool × Sem Value)} {Q : Args -> Shared -> Prop}
    (h : wpAny (MM w) A (spliced args) (fun vs s' => Q ⟨vs, []⟩ s') E s) : wpAny (MM w) A (evalArgs f false args []) Q E s := by
  unfold evalArgs
  show wpAny (MM w) A (spliced args >>= _) Q E s
  refine wpAny_bind (wpAny_mono h (fun vs s' h' => ?_) fun _ _ x => x)
  refine wpAny_holding ?_
  exact wpAny_bind (wpAny_pure (wpAny_bind (wpAny_pure (wpAny_pure h'))))
theorem tyMeta : typeOf (.type "object") = pure (.type "type") := by kernel_rfl
theorem exec_class {w : World} {A : Around} {E : Value -> Shared -> Prop} {h : Heap} {g : Array GenState} {d : Drawn} {t : Nat} {os : OsState} {T cell c0 : Addr} {ps0 : Array Value} {mg : Str -> Option Value} {oS : Obj} {env : Env} {Q : Flow -> Shared -> Prop}
    (F : BF h c0 T ps0 mg oS) (G : BG h mg) (hge : env.globals = mainGlobals) (hbu : env.builtins = builtinsNs) (hco : env.code = .ref c0) (hk : env.scope.kind = .function) (ho : env.kindOf (Str.ofString "object") = some .globalImplicit) (hK : env.kindOf (Str.ofString "K") = some .local) (hq : env.qual = Str.ofString "cmp_to_key.<locals>.")
    (hcl : closureFor (clsScope kStmt) env = pure [(Str.ofString "mycmp",cell)]) (hdep : A.depth < 900)
    (K : ∀ h' a t',(∀ b o,b ≠ T -> h.get? b = some o -> h'.get? b = some o) -> KCls cell mg h' a -> KStay T h h' cell mg a -> (∃ qs,h'.get? T = some (tabObj qs)) -> wpAny (MM w) A (storeName env (Str.ofString "K") (.ref a)) (fun _ s' => Q .next s') E ⟨h',g,d,t',os⟩) :
    wpAny (MM w) A (exec kStmt env) Q E ⟨h,g,d,t,os⟩ := by
  obtain ⟨mb,hb,hbc,hbo⟩ := G.b
  rw [kStmt_eq,arm_exec_ClassDef]
  refine wpAny_bind (wpAny_pure ?_)
  refine wpAny_bind (wpAny_standAt ?_)
  unfold buildClassGuard
  rw [hbu]
  refine wpAny_bind (wpAny_bind (wpAny_nsGet hb ?_))
  rw [hbc]
  refine wpAny_pure ?_
  refine wpAny_bind (wpAny_holding ?_)
  have hg : h.Ns env.globals mg := by rw [hge]; exact F.g
  have hb' : h.Ns env.builtins mb := by rw [hbu]; exact hb
  have hqn : qualnameIn env (Str.ofString "K") (Str.ofString "K") = kQ := by
    unfold qualnameIn
    rw [if_neg (by rw [hK]; decide),hq]
    kernel_rfl
  refine wpAny_bind ?_
  refine evalArgs_two (args_cons (wpAny_Name (ks_loadName_global hk ho (loadGlobal_builtin hg G.go hb' hbo ?_)) (by decide)) rfl)
  refine args_nil ?_
  refine wpAny_bind (wpAny_standAt (wpAny_holding ?_))
  show wpAny _ _ (buildClass (Str.ofString "K") (qualnameIn env (Str.ofString "K") (Str.ofString "K")) [.type "object"] [] (clsBody kStmt) (clsScope kStmt) kStat (firstLineOf [] kPos) env kPos none) _ _ _
  rw [hqn]
  refine (bseg1 (Str.ofString "K") kQ (.type "object") (.type "type") (clsBody kStmt) (clsScope kStmt) kStat kPos (firstLineOf [] kPos) cell).2 rfl tyMeta rfl (by rw [isSubtype_type]; kernel_rfl) (fun q => getattr_prepare q) (by decide +kernel) (by decide +kernel) F rfl hge hco hcl hdep fun h1 B ns fr c P t1 tn S1 => ?_
  refine class_tail S1 F fun h2 a t2 k2 C2 Y2 TT2 => ?_
  refine wpAny_bind (wpAny_pure (wpAny_bind (wpAny_standAt (wpAny_bind (wpAny_bindName ?_)))))
  exact wpAny_mono (K h2 a t2 k2 C2 Y2 TT2) (fun _ s' q => wpAny_pure q) fun _ _ e => e
end
section
theorem cmpBody_eq : bodyOf (stmtAt 9) = [kStmt, .Return (some (.Name (Str.ofString "K") (match (bodyOf (stmtAt 9)) with | [_, .Return (some (.Name _ p)) _] => p | _ => default))) (match (bodyOf (stmtAt 9)) with | [_, .Return _ q] => q | _ => default)] := by kernel_rfl
theorem BF.keeps {h h' : Heap} {c0 T : Addr} {ps0 : Array Value} {mg : Str -> Option Value} {oS : Obj} (F : BF h c0 T ps0 mg oS) (k : ∀ b o,h.get? b = some o -> h'.get? b = some o) : BF h' c0 T ps0 mg oS :=
  ⟨F.cd.keeps k,k _ _ F.t,F.tr,F.nf,let ⟨o,es,ep,e,r⟩ := F.g; ⟨o,es,ep,k _ _ e,r⟩,let ⟨bm,o,e1,e2,e3,e4,e5,r⟩ := F.b; ⟨bm,o,e1,e2,e3,e4,k _ _ e5,r⟩,F.gT,F.sT,F.nm,k _ _ F.s,F.ts,F.lim.keeps k⟩
theorem BG.keeps {h h' : Heap} {mg : Str -> Option Value} (G : BG h mg) (k : ∀ b o,h.get? b = some o -> h'.get? b = some o) : BG h' mg :=
  ⟨let ⟨mb,⟨o,es,ep,e,r⟩,q⟩ := G.b; ⟨mb,⟨o,es,ep,k _ _ e,r⟩,q⟩,G.go⟩
noncomputable abbrev cmpFd (pm cd doc : Value) : FuncData := docDef (Str.ofString "cmp_to_key") (paramsOf (stmtAt 9)) (bodyOf (stmtAt 9)) (scopeOf (stmtAt 9)) pm cd doc
theorem call_cmp {w : World} {A : Around} {E : Value -> Shared -> Prop} {h : Heap} {g : Array GenState} {d : Drawn} {t : Nat} {os : OsState} {f T c0 : Addr} {ps0 : Array Value} {mg : Str -> Option Value} {oS o : Obj} {pm doc lam : Value} {Q : Value -> Shared -> Prop}
    (ho : h.get? f = some o) (hd : o.data = .func (cmpFd pm (.ref c0) doc)) (hcd : h.CodeRec (.ref c0) (Str.ofString "cmp_to_key")) (F : BF h c0 T ps0 mg oS) (G : BG h mg) (hdep : A.depth < 800)
    (K : ∀ h' a cell t',(∀ b o,b ≠ T -> h.get? b = some o -> h'.get? b = some o) -> h.objs.size <= cell -> h'.IsCell cell (some lam) -> KCls cell mg h' a -> (∃ qs,h'.get? T = some (tabObj qs)) -> Q (.ref a) ⟨h',g,d,t',os⟩) :
    wpAny (MM w) A (call (.ref f) [lam]) Q E ⟨h,g,d,t,os⟩ := by
  have hc : (scopeOf (stmtAt 9)).names.lookup (Str.ofString "mycmp") = some .cell := by decide +kernel
  have hsome := cellsFrom_has (scopeOf (stmtAt 9)).names (h.objs.size + 1) [] (Str.ofString "mycmp") hc
  refine wpAny_call (codeAny_call_cells (binds := [(Str.ofString "mycmp",lam)]) (Nat.lt_trans hdep (by decide)) ho hd F.lim hcd rfl (by with_unfolding_all rfl) rfl ?_ (fun s₁ x => ?_) (by rfl) (by rfl) (by rfl))
  . intro y hy
    rw [List.mem_singleton] at hy
    subst hy
    exact .inr ⟨hc,hsome⟩
  . obtain ⟨h₁,tk₁,rfl⟩ := x.toInCall.same
    obtain ⟨cell,hcell⟩ := Option.isSome_iff_exists.mp hsome
    have above : h.objs.size <= cell := Nat.le_trans x.toInCall.fresh (Nat.le_of_lt (x.above _ _ (mem_of_lookup hcell)))
    have hkc : (callEnvC (cmpFd pm (.ref c0) doc) h.objs.size f).kindOf (Str.ofString "mycmp") = some .cell := hc
    have hb := bindC_at (kindOf := (callEnvC (cmpFd pm (.ref c0) doc) h.objs.size f).kindOf) [Str.ofString "mycmp"] [lam] (fun _ => none) (i := 0) (by simp) rfl rfl hkc
    have isc : h₁.IsCell cell (some lam) := by
      have e1 := x.cell (Str.ofString "mycmp") cell hcell
      have e2 : bindC (callEnvC (cmpFd pm (.ref c0) doc) h.objs.size f).kindOf [(Str.ofString "mycmp",lam)] (fun _ => none) (Str.ofString "mycmp") = some lam := hb
      exact e2 ▸ e1
    have keep1 : ∀ b o,h.get? b = some o -> h₁.get? b = some o := x.toInCall.keep
    have hns := x.toInCall.ns
    have hcl : closureFor (clsScope kStmt) (callEnvC (cmpFd pm (.ref c0) doc) h.objs.size f) = pure [(Str.ofString "mycmp",cell)] := by
      refine (closureFor_eq _ _ fun y hy hf => ?_).trans ?_
      . have hy' : y.1 = Str.ofString "mycmp" := by
          have : ∀ z ∈ (clsScope kStmt).names,z.2 = .free -> z.1 = Str.ofString "mycmp" := by decide +kernel
          exact this y hy hf
        rw [hy']
        show ((cellsFrom (h.objs.size + 1) (scopeOf (stmtAt 9)).names []).lookup _).isSome = true
        rw [hcell]; rfl
      . have e1 : closeOf (callEnvC (cmpFd pm (.ref c0) doc) h.objs.size f) (clsScope kStmt).names [] = (match (cellsFrom (h.objs.size + 1) (scopeOf (stmtAt 9)).names []).lookup (Str.ofString "mycmp") with | some a => [(Str.ofString "mycmp",a)] | none => []) := by kernel_rfl
        rw [e1,hcell]
    have hL : (callEnvC (cmpFd pm (.ref c0) doc) h.objs.size f).locals = h.objs.size := rfl
    rw [show (callEnvC (cmpFd pm (.ref c0) doc) (Shared.mk h g d t os).heap.objs.size f) = callEnvC (cmpFd pm (.ref c0) doc) h.objs.size f from rfl]
    generalize hE : callEnvC (cmpFd pm (.ref c0) doc) h.objs.size f = env at hcl hL hns ⊢
    have z1 : env.globals = mainGlobals := by rw [<- hE]; rfl
    have z2 : env.builtins = builtinsNs := by rw [<- hE]; rfl
    have z3 : env.code = .ref c0 := by rw [<- hE]; rfl
    have z4 : env.scope = scopeOf (stmtAt 9) := by rw [<- hE]; rfl
    have z5 : env.qual = Str.ofString "cmp_to_key.<locals>." := by rw [<- hE]; kernel_rfl
    have z6 : env.scope.kind = .function := by rw [z4]; rfl
    have z7 : env.kindOf (Str.ofString "object") = some .globalImplicit := by rw [Env.kindOf,z4]; decide +kernel
    have z8 : env.kindOf (Str.ofString "K") = some .local := by rw [Env.kindOf,z4]; decide +kernel
    show wpAny (MM w) (A.deeper env) (execs (bodyOf (stmtAt 9)) env) _ _ ⟨h₁,g,d,tk₁,os⟩
    rw [cmpBody_eq]
    have F1 := F.keeps keep1
    refine wpAny_execs_cons (exec_class F1 (G.keeps keep1) z1 z2 z3 z6 z7 z8 z5 hcl (by show A.depth + 1 < 900; lia) fun h2 a t2 k2 C2 Y2 TT2 => ?_)
    have LT : env.locals ≠ T := by rw [hL]; exact Nat.ne_of_gt (Heap.lt_size F.t)
    have CT : cell ≠ T := Nat.ne_of_gt (Nat.lt_of_lt_of_le (Heap.lt_size F.t) above)
    obtain ⟨oL,esL,epL,eL,dL,rL⟩ := hns
    refine wpAny_storeName_local z8 ⟨oL,esL,epL,k2 _ _ LT eL,dL,rL⟩ (fun h3 n3 sb3 => ?_) (by rw [z6]; rfl)
    refine wpAny_execs_cons (wpAny_Return_some (wpAny_Name (wpAny_loadName_local (v := .ref a) z6 z8 n3 (by simp) ?_) (by decide)))
    have k3 : ∀ x y,x ≠ env.locals -> h2.get? x = some y -> h3.get? x = some y := fun x y hx e => (sb3.2 x hx).trans e
    refine K h3 a cell _ (fun b o hb e => k3 _ _ ?_ (k2 _ _ hb (keep1 _ _ e))) above ?_ (Y2 env.locals oL esL epL LT eL dL h3 k3) (let ⟨qs,e⟩ := TT2; ⟨qs,k3 _ _ (Ne.symm LT) e⟩)
    . rw [hL]; exact Nat.ne_of_lt (Heap.lt_size e)
    . obtain ⟨oc,ec,rc⟩ := isc
      refine ⟨oc,k3 _ _ ?_ (k2 _ _ CT ec),rc⟩
      rintro rfl
      have eL' : h₁.get? env.locals = some oL := eL
      rw [eL'] at ec
      rw [Option.some.inj ec,rc] at dL
      cases dL
end
section
structure KH (h : Heap) (C ns m : Addr) (k : KIn) (tq : Tok) (hash : Int) (tk2 tk3 : Tok) (hash4 : Int) (tk4 : Tok) : Prop extends KMade k tq h ns C m hash tk2 tk3 hash4 tk4
section
variable {w : World} {h : Heap} {C ns m : Addr} {k : KIn} {tq : Tok} {hash : Int} {tk2 tk3 tk4 : Tok} {hash4 : Int}
noncomputable abbrev LK (w : World) (h : Heap) {α : Type} (t : Sem α) (r : α) : Prop := Looks (MM w) h t r
theorem lk_mro (M : KMade k tq h ns C m hash tk2 tk3 hash4 tk4) : LK w h (mroOf (.ref C)) [.ref C, .type "object"] := fun A Q E s kp q => by
  obtain ⟨hh,g,d,t,os⟩ := s
  exact mro_at (kp _ _ M.c) rfl q
theorem lk_sub (M : KMade k tq h ns C m hash tk2 tk3 hash4 tk4) {b : Value} {r : Bool} (hb : ([.ref C, .type "object"] : List Value).contains b = r) : LK w h (isSubtype (.ref C) b) r := fun A Q E s kp q => by
  obtain ⟨hh,g,d,t,os⟩ := s
  exact sub_at (kp _ _ M.c) rfl rfl hb q
theorem lk_own (M : KMade k tq h ns C m hash tk2 tk3 hash4 tk4) {name : Str} {v : Value} (hl : nsLook name (kDict (k.es3 m hash tk2 hash4 tk4) 3) = pure (some v)) : LK w h (typeLookup (.ref C) name) (some v) := fun A Q E s kp q => by
  obtain ⟨hh,g,d,t,os⟩ := s
  exact lookup_own (kp _ _ M.c) rfl rfl (kp _ _ M.d) hl q
theorem lk_obj (M : KMade k tq h ns C m hash tk2 tk3 hash4 tk4) {name : Str} {r : Option Value} (hl : nsLook name (kDict (k.es3 m hash tk2 hash4 tk4) 3) = pure none) (hb : builtinOwn "object" name = r) : LK w h (typeLookup (.ref C) name) r := fun A Q E s kp q => by
  obtain ⟨hh,g,d,t,os⟩ := s
  exact lookup_obj (kp _ _ M.c) rfl rfl (kp _ _ M.d) hl hb q
theorem slotK {A : Around} {E : Value -> Shared -> Prop} {g : Array GenState} {d : Drawn} {t : Nat} {os : OsState} {Q : Option Value -> Shared -> Prop} {h' : Heap} (hc : h'.get? C = some (kCls (kCd2 ns C) (kSl5 k.B k.tn tq))) (q : Q (some (.builtin "object.__new__")) ⟨h',g,d,t,os⟩) : wpAny (MM w) A (slotAt C 4) Q E ⟨h',g,d,t,os⟩ := by
  unfold slotAt
  refine wpAny_bind (wpAny_loadPart hc (wpAny_pure ?_))
  refine Eq.mpr (congrArg (fun r => Q r ⟨h',g,d,t,os⟩) (?_ : _ = some (.builtin "object.__new__"))) q
  kernel_rfl
theorem lk_made (M : KMade k tq h ns C m hash tk2 tk3 hash4 tk4) : LK w h (Bind.madeBy (.ref C)) (some "object.__new__") := fun A Q E s kp q => by
  obtain ⟨hh,g,d,t,os⟩ := s
  have hm : (kCd2 ns C).mro = [.ref C, .type "object"] := rfl
  unfold Bind.madeBy
  refine wpAny_bind (mro_at (kp _ _ M.c) rfl ?_)
  rw [hm]
  repeat (first | (with_reducible refine slotK (k := k) (tq := tq) (ns := ns) (kp _ _ M.c) ?_) | wp_step)
  exact q
theorem lk_base (M : KMade k tq h ns C m hash tk2 tk3 hash4 tk4) : LK w h (Bind.staticBase (.ref C)) (.ref C) := fun A Q E s kp q => by
  unfold Bind.staticBase
  refine wpAny_bind (lk_mro M A _ E s kp ?_)
  rw [List.forIn_cons]
  exact wpAny_bind (wpAny_bind (wpAny_bind (lk_made M A _ E s kp (wpAny_pure (wpAny_pure (wpAny_pure q))))))
theorem lk_type (M : KMade k tq h ns C m hash tk2 tk3 hash4 tk4) : LK w h (typeOf (.ref C)) (.type "type") := fun A Q E s kp q => by
  obtain ⟨hh,g,d,t,os⟩ := s
  have hc := kp _ _ M.c
  exact wpAny_typeOf (T := "type") ⟨_,hc,rfl⟩ q
theorem makes_K (M : KMade k tq h ns C m hash tk2 tk3 hash4 tk4) : Makes (MM w) h C := by
  refine ⟨⟨_, _, _, _,M.c,rfl,rfl,rfl⟩,lk_made M,lk_base M,lk_sub M (by simp),lk_sub M (by simp),fun A Q E s kp q => ?_,fun A Q E s kp q => ?_⟩
  . unfold specialOf
    refine wpAny_bind (lk_type M A _ E s kp ?_)
    exact wpAny_of_eq (by rw [typeLookup_type,builtinLookup_eq_fast]; kernel_rfl : typeLookup (.type "type") (Str.ofString "__call__") = pure (some (.builtin "type.__call__"))) q
  . unfold isInstance
    refine wpAny_bind (lk_type M A _ E s kp ?_)
    exact wpAny_of_eq (by rw [isSubtype_type]; kernel_rfl : isSubtype (.type "type") (.type "type") = pure true) q
end
end
section
theorem slot_osa : PySem.Slot "object" "__setattr__" "object.__setattr__" := .of (owner := "object") (n := "__setattr__") (by rw [typeLookup_type,builtinLookup_eq_fast]; kernel_rfl) (by decide +kernel) (by decide +kernel) (by decide +kernel)
  (by first | exact .inl (by decide +kernel) | exact .inr (by decide +kernel)) (by rw [isSubtype_type]; kernel_rfl)
theorem slot_mset : PySem.Slot "member_descriptor" "__set__" "member_descriptor.__set__" := .of (owner := "member_descriptor") (n := "__set__") (by rw [typeLookup_type,builtinLookup_eq_fast]; kernel_rfl) (by decide +kernel) (by decide +kernel) (by decide +kernel)
  (by first | exact .inl (by decide +kernel) | exact .inr (by decide +kernel)) (by rw [isSubtype_type]; kernel_rfl)
theorem entry_osa : entryFor table "object.__setattr__" = some Builtin.«object.__setattr__» := entryFor_of_tree (by kernel_rfl)
theorem entry_mset : entryFor table "member_descriptor.__set__" = some Builtin.«member_descriptor.__set__» := entryFor_of_tree (by kernel_rfl)
theorem args_mset (a b c : Value) : argsOk "member_descriptor.__set__" ⟨[a,b,c], []⟩ := by unfold argsOk; kernel_rfl
theorem entry_pset : entryFor table "proto.slot#set" = some Builtin.«proto.slot#set» := entryFor_of_tree (by kernel_rfl)
theorem plain_pset : plainId "proto.slot#set" = true := by decide +kernel
section
variable {w : World} {A : Around} {E : Value -> Shared -> Prop} {h : Heap} {g : Array GenState} {d : Drawn} {t : Nat} {os : OsState} {C ns m x dx : Addr} {k : KIn} {tq : Tok} {hash : Int} {tk2 tk3 tk4 : Tok} {hash4 : Int}
theorem lk3_obj : nsLook (Str.ofString "obj") (kDict (k.es3 m hash tk2 hash4 tk4) 3) = pure (some (.ref m)) := by kernel_rfl
theorem lk3_setattr : nsLook (Str.ofString "__setattr__") (kDict (k.es3 m hash tk2 hash4 tk4) 3) = pure none := by kernel_rfl
noncomputable abbrev kInst (C dx : Addr) (sl : Array (Option Value)) : Obj := { cls := .ref C,dict := some dx,data := .plain,slots := sl }
theorem call_entry2 {s : Shared} {T : String} {name : Str} {id : String} {b : Builtin} {self : Value} {rest : List Value} {Q : Value -> Shared -> Prop} (h : PySem.Slot T name id) (hT : s.TypeIs self T) (hb : entryFor table id = some b) (ha : argsOk id ⟨self :: rest, []⟩)
    (hc : wpAny (MM w) A.in1 (b ⟨self :: rest, []⟩) (fun fin s' => match fin with
      | .done f => (match f with | .ret v => Q v s' | _ => False)
      | .again c' => c'.quiet = true ∧ codeAny (MM w) A c' (fun r s'' => match r with | .ok (.ret v) => Q v s'' | .ok _ => False | .error e => E e s'') s') E s) :
    wpAny (MM w) A (call (.builtin id) (self :: rest)) Q E s := by
  refine wpAny_call (codeAny_call_builtin h.plain hb (h.check _ _ _ _ _ _ _ _ hT ha (wpAny_mono hc (fun fin s' h' => ?_) fun _ _ h' => h')))
  cases fin with
  | done f => cases f <;> first | exact h' | exact h'.elim
  | again c => exact h'
noncomputable def kMemF (C : Addr) (tk3 : Tok) : Array Value := #[.str (Str.ofString "obj") tk3, .ref C, .builtin "proto.slot", .builtin "proto.slot#set",rawInt 0]
theorem slot_target {Q : Addr × Nat × Str -> Shared -> Prop} (M : KMade k tq h ns C m hash tk2 tk3 hash4 tk4) {sl : Array (Option Value)} (hx : h.get? x = some (kInst C dx sl)) (q : Q (x,0,Str.ofString "obj") ⟨h,g,d,t,os⟩) : wpAny (MM w) A (Builtin.Slots.target (.ref x) (.ref m)) Q E ⟨h,g,d,t,os⟩ := by
  have f0 : (kMemF C tk3)[0]? = some (.str (Str.ofString "obj") tk3) := rfl
  have f4 : (kMemF C tk3)[4]? = some (rawInt 0) := rfl
  have tx : LK w h (typeOf (.ref x)) (.ref C) := (Looks.ld hx).andThen .now
  unfold Builtin.Slots.target
  refine wpAny_bind (wpAny_field (vs := kMemF C tk3) M.mm rfl f4 ?_)
  refine wpAny_bind (wpAny_field (vs := kMemF C tk3) M.mm rfl f0 ?_)
  refine wpAny_bind (Looks.at tx ?_)
  show wpAny _ _ (Builtin.Slots.slotNamesOf (.ref C) >>= _) _ _ _
  unfold Builtin.Slots.slotNamesOf
  refine wpAny_bind (wpAny_bind (classData_at M.c rfl (wpAny_pure ?_)))
  show wpAny _ _ (if (kCd2 ns C).slotNames.length <= Int.toNat 0 then _ else _) _ _ _
  rw [if_neg (show ¬ ((kCd2 ns C).slotNames.length <= Int.toNat 0) from (by decide : ¬ (1 <= 0)))]
  exact wpAny_pure q
theorem pset {v : Value} {sl : Array (Option Value)} {Q : PySem.Fin -> Shared -> Prop} (M : KMade k tq h ns C m hash tk2 tk3 hash4 tk4) (hx : h.get? x = some (kInst C dx sl))
    (K : ∀ h',(∀ b o,b ≠ x -> h.get? b = some o -> h'.get? b = some o) -> h'.get? x = some (kInst C dx (slPut sl 0 (some v))) -> Q (.done (.ret .none)) ⟨h',g,d,t,os⟩) :
    wpAny (MM w) A (Builtin.«proto.slot#set» ⟨[.ref x,v, .ref m], []⟩) Q E ⟨h,g,d,t,os⟩ := by
  unfold Builtin.«proto.slot#set»
  refine wpAny_bind (slot_target M hx ?_)
  show wpAny _ _ (setSlotAt x 0 (some v) >>= fun _ => ret .none) _ _ _
  unfold setSlotAt
  rw [if_neg (by decide)]
  refine wpAny_bind (wpAny_updatePart hx ?_)
  refine wpAny_pure (K _ (fun b o hb e => Heap.get?_update_of_ne _ (Ne.symm hb) e) ?_)
  exact Heap.get?_update_self (fun o => { o with slots := (o.slots ++ Array.replicate (0 + 1 - o.slots.size) none).setIfInBounds 0 (some v) }) hx rfl
end
end
section
section
variable {w : World} {A : Around} {E : Value -> Shared -> Prop} {h : Heap} {g : Array GenState} {d : Drawn} {t : Nat} {os : OsState} {C ns m x dx : Addr} {k : KIn} {tq : Tok} {hash : Int} {tk2 tk3 tk4 : Tok} {hash4 : Int}
theorem osa {v : Value} {tk : Tok} {sl : Array (Option Value)} {Q : PySem.Fin -> Shared -> Prop} (M : KMade k tq h ns C m hash tk2 tk3 hash4 tk4) (hx : h.get? x = some (kInst C dx sl))
    (K : ∀ h',(∀ b o,b ≠ x -> h.get? b = some o -> h'.get? b = some o) -> h'.get? x = some (kInst C dx (slPut sl 0 (some v))) -> Q (.done (.ret .none)) ⟨h',g,d,t,os⟩) :
    wpAny (MM w) A (Builtin.«object.__setattr__» ⟨[.ref x, .str (Str.ofString "obj") tk,v], []⟩) Q E ⟨h,g,d,t,os⟩ := by
  have tx : LK w h (typeOf (.ref x)) (.ref C) := (Looks.ld hx).andThen .now
  have tm : LK w h (typeOf (.ref m)) (.type "member_descriptor") := (Looks.ld M.mm).andThen .now
  have l1 : LK w h (typeLookup (.ref C) (Str.ofString "obj")) (some (.ref m)) := lk_own M lk3_obj
  have l2 := lk_mro (w := w) M
  have hTm : ∀ t',(⟨h,g,d,t',os⟩ : Shared).TypeIs (.ref m) "member_descriptor" := fun _ => ⟨_,M.mm,rfl⟩
  have b1 := slot_mset.bind (.ref m)
  have b2 := slot_mset.lookup
  have hm : h.get? m = some { cls := .type "member_descriptor",data := .fields #[.str (Str.ofString "obj") tk3, .ref C, .builtin "proto.slot", .builtin "proto.slot#set",rawInt 0] } := M.mm
  have hmd : ({ cls := .type "member_descriptor",data := .fields #[.str (Str.ofString "obj") tk3, .ref C, .builtin "proto.slot", .builtin "proto.slot#set",rawInt 0] } : Obj).data = .fields #[.str (Str.ofString "obj") tk3, .ref C, .builtin "proto.slot", .builtin "proto.slot#set",rawInt 0] := rfl
  have f0 : (#[.str (Str.ofString "obj") tk3, .ref C, .builtin "proto.slot", .builtin "proto.slot#set",rawInt 0] : Array Value)[0]? = some (.str (Str.ofString "obj") tk3) := rfl
  have f1 : (#[.str (Str.ofString "obj") tk3, .ref C, .builtin "proto.slot", .builtin "proto.slot#set",rawInt 0] : Array Value)[1]? = some (.ref C) := rfl
  have f2 : (#[.str (Str.ofString "obj") tk3, .ref C, .builtin "proto.slot", .builtin "proto.slot#set",rawInt 0] : Array Value)[2]? = some (.builtin "proto.slot") := rfl
  have f3 : (#[.str (Str.ofString "obj") tk3, .ref C, .builtin "proto.slot", .builtin "proto.slot#set",rawInt 0] : Array Value)[3]? = some (.builtin "proto.slot#set") := rfl
  have f4 : (#[.str (Str.ofString "obj") tk3, .ref C, .builtin "proto.slot", .builtin "proto.slot#set",rawInt 0] : Array Value)[4]? = some (rawInt 0) := rfl
  have ls : LK w h (isSubtype (.ref C) (.ref C)) true := lk_sub M (by simp)
  unfold Builtin.«object.__setattr__»
  repeat (first
    | (with_reducible refine Looks.at tx ?_) | (with_reducible refine Looks.at tm ?_) | (with_reducible refine Looks.at l1 ?_) | (with_reducible refine Looks.at l2 ?_)
    | (with_reducible refine Looks.at ls ?_) | (with_reducible refine wpAny_field hm hmd f0 ?_) | (with_reducible refine wpAny_field hm hmd f1 ?_) | (with_reducible refine wpAny_field hm hmd f2 ?_) | (with_reducible refine wpAny_field hm hmd f3 ?_) | (with_reducible refine wpAny_field hm hmd f4 ?_)
    | ((with_reducible show wpAny _ _ (call (.builtin "member_descriptor.__set__") _) _ _ _); (show wpAny _ _ (call (.builtin "member_descriptor.__set__") (.ref m :: [.ref x,v])) _ _ _); (refine call_entry2 slot_mset (hTm _) entry_mset (args_mset _ _ _) ?_); (unfold Builtin.«member_descriptor.__set__»))
    | wp_step)
  refine ⟨plainId_quiet plain_pset _,codeAny_builtin entry_pset ?_⟩
  rw [Around.under_plainId plain_pset _]
  show wpAny _ _ (Builtin.«proto.slot#set» ⟨[.ref x,v, .ref m], []⟩) _ _ _
  refine pset M hx fun h' k1 e1 => ?_
  refine wpAny_pure ?_
  exact wpAny_pure (K h' k1 e1)
end
end
section
section
variable {w : World} {A : Around} {E : Value -> Shared -> Prop} {h : Heap} {g : Array GenState} {d : Drawn} {t : Nat} {os : OsState} {C ns m x dx : Addr} {k : KIn} {tq : Tok} {hash : Int} {tk2 tk3 tk4 : Tok} {hash4 : Int}
theorem osa_kind : builtinKind "object.__setattr__" = some .slot := by decide +kernel
theorem osa_split : splitId "object.__setattr__" = some ("object", "__setattr__") := by decide +kernel
theorem args_osa (a b c : Value) : argsOk "object.__setattr__" ⟨[a,b,c], []⟩ := by unfold argsOk; kernel_rfl
theorem setAttr_K {v : Value} {sl : Array (Option Value)} {Q : Unit -> Shared -> Prop} (M : KMade k tq h ns C m hash tk2 tk3 hash4 tk4) (hx : h.get? x = some (kInst C dx sl))
    (K : ∀ h',(∀ b o,b ≠ x -> h.get? b = some o -> h'.get? b = some o) -> h'.get? x = some (kInst C dx (slPut sl 0 (some v))) -> Q () ⟨h',g,d,t + 1,os⟩) :
    wpAny (MM w) A (setAttr (.ref x) (Str.ofString "obj") v) Q E ⟨h,g,d,t,os⟩ := by
  have tx : LK w h (typeOf (.ref x)) (.ref C) := (Looks.ld hx).andThen .now
  have l1 : LK w h (typeLookup (.ref C) (Str.ofString "__setattr__")) (some (.builtin "object.__setattr__")) := lk_obj M lk3_setattr (by kernel_rfl)
  have b1 := slot_osa.bind (.ref x)
  unfold setAttr callSpecial? specialOf
  refine wpAny_bind (wpAny_mkText ?_)
  dsimp only
  refine wpAny_bind (wpAny_bind (wpAny_bind (Looks.at tx (Looks.at l1 ?_))))
  dsimp only
  refine wpAny_holding (wpAny_bind (wpAny_of_eq b1 ?_))
  dsimp only
  refine wpAny_bind ?_
  show wpAny _ _ (call (.builtin "object.__setattr__") [.ref x, .str (Str.ofString "obj") t,v]) _ _ _
  have lo : LK w h (isInstance (.ref x) (.type "object")) true := fun A Q E s kp q => by
    unfold isInstance
    exact wpAny_bind (tx A _ E s kp (lk_sub M (r := true) (by simp) A _ E s kp q))
  refine wpAny_call ?_
  refine codeAny_call_builtin slot_osa.plain entry_osa ?_
  refine check_slot (i := "object.__setattr__") (owner := "object") (n := "__setattr__") (self := .ref x) (rest := [.str (Str.ofString "obj") t,v]) (kw := []) osa_kind osa_split lo (args_osa (.ref x) (.str (Str.ofString "obj") t) v) ?_
  refine wpAny_mono (osa (v := v) (tk := t) (Q := fun fin s' => fin = .done (.ret .none) ∧ ∃ h',s' = ⟨h',g,d,t + 1,os⟩ ∧ (∀ b o,b ≠ x -> h.get? b = some o -> h'.get? b = some o) ∧ h'.get? x = some (kInst C dx (slPut sl 0 (some v)))) (E := fun _ _ => False) M hx fun h' k1 e1 => ⟨rfl,h',rfl,k1,e1⟩) (fun fin s' q => ?_) fun _ _ z => z.elim
  obtain ⟨rfl,h',rfl,k1,e1⟩ := q
  exact wpAny_pure (wpAny_pure (K h' k1 e1))
theorem call_init {cell f : Addr} {mg : Str -> Option Value} {v : Value} {R : Result -> Shared -> Prop} (M : KMade k tq h ns C m hash tk2 tk3 hash4 tk4) (hx : h.get? x = some (kInst C dx #[])) (Kf : KF h 2 (Str.ofString "__init__") [] cell mg f) (hlim : h.NoLimit) (hdep : A.depth < 900)
    (K : ∀ h' t',(∀ b o,b ≠ x -> h.get? b = some o -> h'.get? b = some o) -> h'.get? x = some (kInst C dx #[some v]) -> R (.ok (.ret .none)) ⟨h',g,d,t',os⟩) :
    codeAny (MM w) A (.call (.ref f) ⟨[.ref x,v], []⟩) R ⟨h,g,d,t,os⟩ := by
  obtain ⟨doc,cv,ctv,hf,hrec⟩ := Kf
  refine codeAny_call_cells (binds := [(Str.ofString "self", .ref x),(Str.ofString "obj",v)]) (Nat.lt_trans hdep (by decide)) hf rfl hlim hrec rfl (by with_unfolding_all rfl) rfl ?_ (fun s₁ y => ?_) (by rfl) (by rfl) (by rfl)
  . intro z hz
    have hn : (scopeOf (kFn 2)).names.lookup (Str.ofString "self") = some .local ∧ (scopeOf (kFn 2)).names.lookup (Str.ofString "obj") = some .local := by decide +kernel
    rcases List.mem_cons.mp hz with rfl | hz
    . exact .inl hn.1
    . rcases List.mem_cons.mp hz with rfl | hz
      . exact .inl hn.2
      . cases hz
  . obtain ⟨h₁,tk₁,rfl⟩ := y.toInCall.same
    have keep1 : ∀ b o,h.get? b = some o -> h₁.get? b = some o := y.toInCall.keep
    have hns := y.toInCall.ns
    rw [show (callEnvC (kFd 2 (Str.ofString "__init__") cell mg [] doc cv ctv) (Shared.mk h g d t os).heap.objs.size f) = callEnvC (kFd 2 (Str.ofString "__init__") cell mg [] doc cv ctv) h.objs.size f from rfl]
    have z4 : (callEnvC (kFd 2 (Str.ofString "__init__") cell mg [] doc cv ctv) h.objs.size f).scope = scopeOf (kFn 2) := rfl
    have n1 : bindL (callEnvC (kFd 2 (Str.ofString "__init__") cell mg [] doc cv ctv) h.objs.size f).kindOf [(Str.ofString "self", .ref x),(Str.ofString "obj",v)] (fun _ => none) (Str.ofString "self") = some (.ref x) :=
      bindL_at (kindOf := (callEnvC (kFd 2 (Str.ofString "__init__") cell mg [] doc cv ctv) h.objs.size f).kindOf) [Str.ofString "self",Str.ofString "obj"] [.ref x,v] (fun _ => none) (i := 0) (by decide) rfl rfl (by rw [Env.kindOf,z4]; decide +kernel)
    have n2 : bindL (callEnvC (kFd 2 (Str.ofString "__init__") cell mg [] doc cv ctv) h.objs.size f).kindOf [(Str.ofString "self", .ref x),(Str.ofString "obj",v)] (fun _ => none) (Str.ofString "obj") = some v :=
      bindL_at (kindOf := (callEnvC (kFd 2 (Str.ofString "__init__") cell mg [] doc cv ctv) h.objs.size f).kindOf) [Str.ofString "self",Str.ofString "obj"] [.ref x,v] (fun _ => none) (i := 1) (by decide) rfl rfl (by rw [Env.kindOf,z4]; decide +kernel)
    generalize hE : callEnvC (kFd 2 (Str.ofString "__init__") cell mg [] doc cv ctv) h.objs.size f = env at z4 n1 n2 hns ⊢
    have z6 : env.scope.kind = .function := by rw [z4]; rfl
    have k1 : env.kindOf (Str.ofString "self") = some .local := by rw [Env.kindOf,z4]; decide +kernel
    have k2 : env.kindOf (Str.ofString "obj") = some .local := by rw [Env.kindOf,z4]; decide +kernel
    have M1 : KMade k tq h₁ ns C m hash tk2 tk3 hash4 tk4 := ⟨keep1 _ _ M.d,keep1 _ _ M.c,keep1 _ _ M.mm⟩
    have hx1 := keep1 _ _ hx
    refine wpAny_execs_cons (plainObj_wpAny_Assign_Attribute (wpAny_Name (wpAny_loadName_local z6 k2 hns n2 (wpAny_Name (wpAny_loadName_local z6 k1 hns n1 ?_) (by decide))) (by decide)))
    refine setAttr_K M1 hx1 fun h' kp e1 => ?_
    exact wpAny_execs_nil (K h' _ (fun b o hb e => kp b o hb (keep1 _ _ e)) e1)
end
end
section
section
variable {w : World} {A : Around} {E : Value -> Shared -> Prop} {h : Heap} {g : Array GenState} {d : Drawn} {t : Nat} {os : OsState} {C ns m x dx : Addr} {k : KIn} {tq : Tok} {hash : Int} {tk2 tk3 tk4 : Tok} {hash4 : Int}
theorem lk3_init : nsLook (Str.ofString "__init__") (kDict (k.es3 m hash tk2 hash4 tk4) 3) = pure (some k.f1) := by kernel_rfl
theorem lk_bindFn {f : Addr} {o : Obj} (ho : h.get? f = some o) (hc : o.cls = .type "function") (self : Value) : LK w h (bindSpecial (.ref f) self) (.ref f, [self]) := fun A Q E s kp q => by
  unfold bindSpecial
  refine wpAny_bind (wpAny_typeOf (T := "function") ⟨o,kp _ _ ho,hc⟩ ?_)
  exact wpAny_pure q
theorem KF.mono {h h' : Heap} {i : Nat} {nm : Str} {clos : List (Str × Addr)} {cell f : Addr} {mg : Str -> Option Value} (y : KF h i nm clos cell mg f) (kp : ∀ b o,h.get? b = some o -> h'.get? b = some o) : KF h' i nm clos cell mg f := by
  obtain ⟨doc,cv,ctv,e,r⟩ := y
  exact ⟨doc,cv,ctv,kp _ _ e,r.keeps kp⟩
theorem make_inst {cell f : Addr} {mg : Str -> Option Value} {v : Value} {Q : Value -> Shared -> Prop} (M : KMade k tq h ns C m hash tk2 tk3 hash4 tk4) (hf : k.f1 = .ref f) (Kf : KF h 2 (Str.ofString "__init__") [] cell mg f) (hlim : h.NoLimit) (hdep : A.depth < 800)
    (K : ∀ h' x dx t',(∀ b o,h.get? b = some o -> h'.get? b = some o) -> h.objs.size <= x -> h'.get? x = some (kInst C dx #[some v]) -> Q (.ref x) ⟨h',g,d,t',os⟩) :
    wpAny (MM w) A (call (.ref C) [v]) Q E ⟨h,g,d,t,os⟩ := by
  refine wpAny_call ?_
  have hi : LK w h (typeLookup (.ref C) (Str.ofString "__init__")) (some (.ref f)) := lk_own M (by rw [<- hf]; exact lk3_init)
  have hfn : ∃ o,h.get? f = some o ∧ o.cls = .type "function" := by
    obtain ⟨doc,cv,ctv,e, _⟩ := Kf
    exact ⟨_,e,rfl⟩
  obtain ⟨of,hof,hofc⟩ := hfn
  refine make_core (makes_K M) hi (fun self => lk_bindFn hof hofc self) (.inl rfl) ?_
  have kp : ∀ b o,h.get? b = some o -> ((h.push emptyDict).push (instObj C h.objs.size)).get? b = some o := fun b o e => Heap.get?_push_of_some _ (Heap.get?_push_of_some _ e)
  have hx : ((h.push emptyDict).push (instObj C h.objs.size)).get? (h.objs.size + 1) = some (kInst C h.objs.size #[]) := by
    have := Heap.get?_push_size (h.push emptyDict) (o := instObj C h.objs.size) rfl
    rw [Heap.size_push] at this
    exact this
  have M2 : KMade k tq ((h.push emptyDict).push (instObj C h.objs.size)) ns C m hash tk2 tk3 hash4 tk4 := ⟨kp _ _ M.d,kp _ _ M.c,kp _ _ M.mm⟩
  refine call_init (cell := cell) (mg := mg) M2 hx (Kf.mono kp) (hlim.keeps kp) (by show A.depth + _ < 900; exact Nat.lt_of_le_of_lt (Nat.add_le_add_left (show _ <= 10 from Nat.le_of_ble_eq_true rfl) _) (by lia)) fun h' t' k1 e1 => ?_
  refine ⟨rfl,K h' _ _ t' (fun b o e => k1 b o ?_ (kp _ _ e)) (Nat.le_succ _) e1⟩
  rintro rfl
  exact absurd (Heap.lt_size e) (Nat.not_lt.mpr (Nat.le_succ _))
end
end
section
theorem slot_mget : PySem.Slot "member_descriptor" "__get__" "member_descriptor.__get__" := .of (owner := "member_descriptor") (n := "__get__") (by rw [typeLookup_type,builtinLookup_eq_fast]; kernel_rfl) (by decide +kernel) (by decide +kernel) (by decide +kernel)
  (by first | exact .inl (by decide +kernel) | exact .inr (by decide +kernel)) (by rw [isSubtype_type]; kernel_rfl)
theorem entry_mget : entryFor table "member_descriptor.__get__" = some Builtin.«member_descriptor.__get__» := entryFor_of_tree (by kernel_rfl)
theorem args_mget (a b c : Value) : argsOk "member_descriptor.__get__" ⟨[a,b,c], []⟩ := by unfold argsOk; kernel_rfl
theorem entry_pget : entryFor table "proto.slot" = some Builtin.«proto.slot» := entryFor_of_tree (by kernel_rfl)
theorem plain_pget : plainId "proto.slot" = true := by decide +kernel
section
variable {w : World} {A : Around} {E : Value -> Shared -> Prop} {h : Heap} {g : Array GenState} {d : Drawn} {t : Nat} {os : OsState} {C ns m x dx : Addr} {k : KIn} {tq : Tok} {hash : Int} {tk2 tk3 tk4 : Tok} {hash4 : Int}
theorem pget {v : Value} {Q : PySem.Fin -> Shared -> Prop} (M : KMade k tq h ns C m hash tk2 tk3 hash4 tk4) (hx : h.get? x = some (kInst C dx #[some v]))
    (q : Q (.done (.ret v)) ⟨h,g,d,t,os⟩) : wpAny (MM w) A (Builtin.«proto.slot» ⟨[.ref x, .ref m], []⟩) Q E ⟨h,g,d,t,os⟩ := by
  unfold Builtin.«proto.slot»
  refine wpAny_bind (slot_target M hx ?_)
  show wpAny _ _ (slotAt x 0 >>= _) _ _ _
  unfold slotAt
  refine wpAny_bind (wpAny_bind (wpAny_loadPart hx (wpAny_pure ?_)))
  exact wpAny_pure q
theorem mget {v : Value} {Q : Value -> Shared -> Prop} (M : KMade k tq h ns C m hash tk2 tk3 hash4 tk4) (hx : h.get? x = some (kInst C dx #[some v]))
    (q : Q v ⟨h,g,d,t,os⟩) : wpAny (MM w) A (call (.builtin "member_descriptor.__get__") [.ref m, .ref x, .ref C]) Q E ⟨h,g,d,t,os⟩ := by
  have tx : LK w h (typeOf (.ref x)) (.ref C) := (Looks.ld hx).andThen .now
  have hm : h.get? m = some { cls := .type "member_descriptor",data := .fields #[.str (Str.ofString "obj") tk3, .ref C, .builtin "proto.slot", .builtin "proto.slot#set",rawInt 0] } := M.mm
  have hmd : ({ cls := .type "member_descriptor",data := .fields #[.str (Str.ofString "obj") tk3, .ref C, .builtin "proto.slot", .builtin "proto.slot#set",rawInt 0] } : Obj).data = .fields #[.str (Str.ofString "obj") tk3, .ref C, .builtin "proto.slot", .builtin "proto.slot#set",rawInt 0] := rfl
  have f0 : (#[.str (Str.ofString "obj") tk3, .ref C, .builtin "proto.slot", .builtin "proto.slot#set",rawInt 0] : Array Value)[0]? = some (.str (Str.ofString "obj") tk3) := rfl
  have f1 : (#[.str (Str.ofString "obj") tk3, .ref C, .builtin "proto.slot", .builtin "proto.slot#set",rawInt 0] : Array Value)[1]? = some (.ref C) := rfl
  have f2 : (#[.str (Str.ofString "obj") tk3, .ref C, .builtin "proto.slot", .builtin "proto.slot#set",rawInt 0] : Array Value)[2]? = some (.builtin "proto.slot") := rfl
  have f3 : (#[.str (Str.ofString "obj") tk3, .ref C, .builtin "proto.slot", .builtin "proto.slot#set",rawInt 0] : Array Value)[3]? = some (.builtin "proto.slot#set") := rfl
  have f4 : (#[.str (Str.ofString "obj") tk3, .ref C, .builtin "proto.slot", .builtin "proto.slot#set",rawInt 0] : Array Value)[4]? = some (rawInt 0) := rfl
  have ls : LK w h (isSubtype (.ref C) (.ref C)) true := lk_sub M (by simp)
  have hTm : ∀ t',(⟨h,g,d,t',os⟩ : Shared).TypeIs (.ref m) "member_descriptor" := fun _ => ⟨_,M.mm,rfl⟩
  refine call_entry2 slot_mget (hTm _) entry_mget (args_mget _ _ _) ?_
  unfold Builtin.«member_descriptor.__get__»
  repeat (first
    | (with_reducible refine Looks.at tx ?_) | (with_reducible refine Looks.at ls ?_)
    | (with_reducible refine wpAny_field hm hmd f0 ?_) | (with_reducible refine wpAny_field hm hmd f1 ?_) | (with_reducible refine wpAny_field hm hmd f2 ?_) | (with_reducible refine wpAny_field hm hmd f3 ?_) | (with_reducible refine wpAny_field hm hmd f4 ?_)
    | wp_step)
  refine ⟨plainId_quiet plain_pget _,codeAny_builtin entry_pget ?_⟩
  rw [Around.under_plainId plain_pget _]
  show wpAny _ _ (Builtin.«proto.slot» ⟨[.ref x, .ref m], []⟩) _ _ _
  exact pget M hx q
end
end
section
section
variable {w : World} {A : Around} {E : Value -> Shared -> Prop} {h : Heap} {g : Array GenState} {d : Drawn} {t : Nat} {os : OsState} {C ns m x dx : Addr} {k : KIn} {tq : Tok} {hash : Int} {tk2 tk3 tk4 : Tok} {hash4 : Int}
theorem lk3_getattr : nsLook (Str.ofString "__getattr__") (kDict (k.es3 m hash tk2 hash4 tk4) 3) = pure none := by kernel_rfl
theorem lk3_ga : nsLook (Str.ofString "__getattribute__") (kDict (k.es3 m hash tk2 hash4 tk4) 3) = pure none := by kernel_rfl
theorem ghook {v : Value} {tk : Tok} {Q : PySem.Fin -> Shared -> Prop} (M : KMade k tq h ns C m hash tk2 tk3 hash4 tk4) (hx : h.get? x = some (kInst C dx #[some v]))
    (q : Q (.done (.ret v)) ⟨h,g,d,t,os⟩) : wpAny (MM w) A (Builtin.«proto.getattr_hooked» ⟨[.ref x, .str (Str.ofString "obj") tk], []⟩) Q E ⟨h,g,d,t,os⟩ := by
  have tx : LK w h (typeOf (.ref x)) (.ref C) := (Looks.ld hx).andThen .now
  have tm : LK w h (typeOf (.ref m)) (.type "member_descriptor") := (Looks.ld M.mm).andThen .now
  have l1 : LK w h (typeLookup (.ref C) (Str.ofString "obj")) (some (.ref m)) := lk_own M lk3_obj
  have l2 : LK w h (typeLookup (.ref C) (Str.ofString "__getattr__")) none := lk_obj M lk3_getattr (by kernel_rfl)
  have b2 := slot_mset.lookup
  have b3 := slot_mget.lookup
  unfold Builtin.«proto.getattr_hooked»
  repeat (first
    | (with_reducible refine Looks.at tx ?_) | (with_reducible refine Looks.at tm ?_) | (with_reducible refine Looks.at l1 ?_) | (with_reducible refine Looks.at l2 ?_)
    | (with_reducible refine mget M hx ?_)
    | wp_step)
  exact q
theorem entry_ghook : entryFor table "proto.getattr_hooked" = some Builtin.«proto.getattr_hooked» := entryFor_of_tree (by kernel_rfl)
theorem plain_ghook : plainId "proto.getattr_hooked" = true := by decide +kernel
theorem getAttr_K {v : Value} {ex : Bool} {Q : Value -> Shared -> Prop} (M : KMade k tq h ns C m hash tk2 tk3 hash4 tk4) (hx : h.get? x = some (kInst C dx #[some v])) (hv : NoId v)
    (q : Q v ⟨h,g,d,t + 1,os⟩) : wpAny (MM w) A (getAttr (.ref x) (Str.ofString "obj") ex) Q E ⟨h,g,d,t,os⟩ := by
  have tx : LK w h (typeOf (.ref x)) (.ref C) := (Looks.ld hx).andThen .now
  have l3 : LK w h (typeLookup (.ref C) (Str.ofString "__getattribute__")) (some (.builtin "object.__getattribute__")) := lk_obj M lk3_ga (by kernel_rfl)
  unfold getAttr getAttrBy
  refine wpAny_bind (wpAny_mkText ?_)
  dsimp only
  refine wpAny_holding (wpAny_bind (Looks.at tx (wpAny_bind (Looks.at l3 ?_))))
  dsimp only
  rw [if_pos (by rfl)]
  unfold getAttrEveryday
  refine wpAny_bind (wpAny_onRaise ?_)
  refine wpAny_runValue (codeAny_builtin entry_ghook ?_)
  rw [Around.under_plainId plain_ghook _]
  refine wpAny_mono (ghook (v := v) (tk := t) (Q := fun fin s' => fin = .done (.ret v) ∧ s' = ⟨h,g,d,t + 1,os⟩) (E := fun _ _ => False) M hx ⟨rfl,rfl⟩) (fun fin s' z => ?_) fun _ _ z => z.elim
  obtain ⟨rfl,rfl⟩ := z
  cases v <;> first | exact wpAny_pure q | exact hv.elim
theorem eval_attr {v : Value} {env : Env} {nm : Str} {px pos : Pos} {Q : Value -> Shared -> Prop} (M : KMade k tq h ns C m hash tk2 tk3 hash4 tk4) (hx : h.get? x = some (kInst C dx #[some v])) (hv : NoId v)
    (hl : ∀ {Q' : Value -> Shared -> Prop},Q' (.ref x) ⟨h,g,d,t,os⟩ -> wpAny (MM w) A (eval (.Name nm px) env) Q' E ⟨h,g,d,t,os⟩) (q : Q v ⟨h,g,d,t + 1,os⟩) :
    wpAny (MM w) A (eval (.Attribute (.Name nm px) (Str.ofString "obj") pos) env) Q E ⟨h,g,d,t,os⟩ := by
  rw [arm_eval_Attribute]
  refine wpAny_bind ?_
  show wpAny _ _ (eval (.Name nm px) env) _ _ _
  refine hl ?_
  refine wpAny_bind (wpAny_standAt (wpAny_bind (wpAny_holding (getAttr_K M hx hv ?_))))
  refine wpAny_bind ?_
  show wpAny _ _ (pure ()) _ _ _
  exact wpAny_pure (wpAny_pure q)
end
end
section
section
variable {w : World} {A : Around} {E : Value -> Shared -> Prop} {h : Heap} {g : Array GenState} {d : Drawn} {t : Nat} {os : OsState} {C ns m x y dx dy : Addr} {k : KIn} {tq : Tok} {hash : Int} {tk2 tk3 tk4 : Tok} {hash4 : Int}
theorem evalArgs_star {s : Shared} {fv : Value} {e : Expr} {es : List Expr} {pos : Pos} {env : Env} {Q : Args -> Shared -> Prop} (he : starEach (e :: es) env = (false,eval e env) :: starEach es env)
    (hh : wpAny (MM w) A (spliced (backTo pos (starEach (e :: es) env))) (fun vs s' => Q ⟨vs, []⟩ s') E s) : wpAny (MM w) A (evalArgs fv true (backTo pos (starEach (e :: es) env)) []) Q E s := by
  rw [he] at hh ⊢
  exact evalArgs_plain hh
theorem call_lt {cell f l : Addr} {mg : Str -> Option Value} {v1 v2 : Value} {i : Int} {dd : Nat} {ol : Obj} {fdl : FuncData} {Post : Heap -> Prop} {Q : Value -> Shared -> Prop}
    (M : KMade k tq h ns C m hash tk2 tk3 hash4 tk4) (hx : h.get? x = some (kInst C dx #[some v1])) (hy : h.get? y = some (kInst C dy #[some v2])) (n1 : NoId v1) (n2 : NoId v2)
    (Kf : KF h 3 (Str.ofString "__lt__") [(Str.ofString "mycmp",cell)] cell mg f) (hc : h.IsCell cell (some (.ref l))) (hl : h.get? l = some ol) (hld : ol.data = .func fdl) (hlim : h.NoLimit) (hA : AOk A (dd + 1))
    (hcall : ∀ (A' : Around) (E' : Value -> Shared -> Prop) (Q' : Value -> Shared -> Prop) (h1 : Heap) (t1 : Nat),AOk A' dd -> (∀ b o,h.get? b = some o -> h1.get? b = some o) -> h.objs.size <= h1.objs.size -> (∀ tk h' t',Post h' -> Q' (.int i tk) ⟨h',g,d,t',os⟩) -> wpAny (MM w) A' (call (.ref l) [v1,v2]) Q' E' ⟨h1,g,d,t1,os⟩)
    (K : ∀ h' t',Post h' -> Q (.bool (decide (i < 0))) ⟨h',g,d,t',os⟩) :
    wpAny (MM w) A (call (.ref f) [.ref x, .ref y]) Q E ⟨h,g,d,t,os⟩ := by
  obtain ⟨doc,cv,ctv,hf,hrec⟩ := Kf
  have hn : (scopeOf (kFn 3)).names.lookup (Str.ofString "self") = some .local ∧ (scopeOf (kFn 3)).names.lookup (Str.ofString "other") = some .local ∧ (scopeOf (kFn 3)).names.lookup (Str.ofString "mycmp") = some .free := by decide +kernel
  refine wpAny_call (codeAny_call_function (by have := hA.dp; show A.depth < 1000; lia) hf rfl (by rfl) (by rfl) rfl hrec ?_)
  rw [show bindArgs (kFd 3 (Str.ofString "__lt__") cell mg [(Str.ofString "mycmp",cell)] doc cv ctv) ⟨[.ref x, .ref y], []⟩ = pure [(Str.ofString "self", .ref x),(Str.ofString "other", .ref y)] by with_unfolding_all rfl]
  refine wpAny_pure (wpAny_newFunctionEnv (show ∀ x ∈ (scopeOf (kFn 3)).names,x.2 ≠ .cell by decide +kernel) ?_ (fun h₁ hns hsb => ?_) (by rfl))
  . intro z hz
    rcases List.mem_cons.mp hz with rfl | hz
    . exact hn.1
    . rcases List.mem_cons.mp hz with rfl | hz
      . exact hn.2.1
      . cases hz
  . have keep1 : ∀ b o,h.get? b = some o -> h₁.get? b = some o := fun b o e => (hsb.2 b (Nat.ne_of_lt (Heap.lt_size e))).trans (Heap.get?_push_of_some _ e)
    generalize henv : newEnv (kFd 3 (Str.ofString "__lt__") cell mg [(Str.ofString "mycmp",cell)] doc cv ctv).scope _ (kFd 3 (Str.ofString "__lt__") cell mg [(Str.ofString "mycmp",cell)] doc cv ctv).globals (kFd 3 (Str.ofString "__lt__") cell mg [(Str.ofString "mycmp",cell)] doc cv ctv).closure _ _ _ _ _ = env
    have z4 : env.scope = scopeOf (kFn 3) := by rw [<- henv]; rfl
    have z5 : env.cells = [(Str.ofString "mycmp",cell)] := by rw [<- henv]; rfl
    have zL : env.locals = h.objs.size := by rw [<- henv]; rfl
    have hns' : h₁.Ns env.locals (fun x_1 => List.lookup x_1 [(Str.ofString "self",Value.ref x),(Str.ofString "other",Value.ref y)].reverse) := by rw [zL]; exact hns
    have z6 : env.scope.kind = .function := by rw [z4]; rfl
    have k1 : env.kindOf (Str.ofString "self") = some .local := by rw [Env.kindOf,z4]; exact hn.1
    have k2 : env.kindOf (Str.ofString "other") = some .local := by rw [Env.kindOf,z4]; exact hn.2.1
    have k3 : env.kindOf (Str.ofString "mycmp") = some .free := by rw [Env.kindOf,z4]; exact hn.2.2
    have hA' : AOk (A.deeper env) dd := ⟨hA.hd,by have := hA.dp; show A.depth + 1 + dd < 700; lia,by have := hA.un; show A.units + 3 + 100 * dd < 5000; lia⟩
    have M1 : KMade k tq h₁ ns C m hash tk2 tk3 hash4 tk4 := ⟨keep1 _ _ M.d,keep1 _ _ M.c,keep1 _ _ M.mm⟩
    have hx1 := keep1 _ _ hx
    have hy1 := keep1 _ _ hy
    have hc1 : h₁.IsCell cell (some (.ref l)) := hc.keeps keep1
    have l1 : List.lookup (Str.ofString "self") [(Str.ofString "self",Value.ref x),(Str.ofString "other",Value.ref y)].reverse = some (.ref x) := by kernel_rfl
    have l2 : List.lookup (Str.ofString "other") [(Str.ofString "self",Value.ref x),(Str.ofString "other",Value.ref y)].reverse = some (.ref y) := by kernel_rfl
    have lc : env.cells.lookup (Str.ofString "mycmp") = some cell := by rw [z5]; rfl
    refine ⟨hlim.keeps keep1,codeAny_func ?_⟩
    refine wpAny_execs_cons (wpAny_Return_some (wpAny_Compare1 (Call_ (wpAny_Name (wpAny_loadName_free z6 k3 lc hc1 ?_ (by decide)) (by decide)))))
    refine callWith_function (o := ol) (fd := fdl) (evalArgs_star rfl ?_)
    refine args_cons (eval_attr M1 hx1 n1 (fun q => wpAny_Name (wpAny_loadName_local z6 k1 hns' l1 q) (by decide)) ?_) rfl
    refine args_cons (eval_attr M1 hy1 n2 (fun q => wpAny_Name (wpAny_loadName_local z6 k2 hns' l2 q) (by decide)) ?_) rfl
    refine args_nil ?_
    refine ⟨⟨keep1 _ _ hl,hld⟩, ?_⟩
    refine hcall _ _ _ h₁ _ hA' keep1 (by rw [hsb.1,Heap.size_push]; exact Nat.le_succ _) fun tk h' t' hP => ?_
    refine wpAny_Constant_int ?_
    refine lt_int ?_
    exact K h' _ hP
end
end
section
section
variable {w : World} {A : Around} {E : Value -> Shared -> Prop} {h : Heap} {g : Array GenState} {d : Drawn} {t : Nat} {os : OsState} {C ns m x y dx dy : Addr} {k : KIn} {tq : Tok} {hash : Int} {tk2 tk3 tk4 : Tok} {hash4 : Int}
theorem lk3_lt : nsLook (Str.ofString "__lt__") (kDict (k.es3 m hash tk2 hash4 tk4) 3) = pure (some k.f2) := by kernel_rfl
theorem oneLt_K {cell f l : Addr} {mg : Str -> Option Value} {v1 v2 : Value} {i : Int} {dd : Nat} {ol : Obj} {fdl : FuncData} {Post : Heap -> Prop} {Q : Bool -> Shared -> Prop}
    (M : KMade k tq h ns C m hash tk2 tk3 hash4 tk4) (hx : h.get? x = some (kInst C dx #[some v1])) (hy : h.get? y = some (kInst C dy #[some v2])) (n1 : NoId v1) (n2 : NoId v2) (hf2 : k.f2 = .ref f)
    (Kf : KF h 3 (Str.ofString "__lt__") [(Str.ofString "mycmp",cell)] cell mg f) (hc : h.IsCell cell (some (.ref l))) (hl : h.get? l = some ol) (hld : ol.data = .func fdl) (hlim : h.NoLimit) (hA : AOk A (dd + 1))
    (hcall : ∀ (A' : Around) (E' : Value -> Shared -> Prop) (Q' : Value -> Shared -> Prop) (h1 : Heap) (t1 : Nat),AOk A' dd -> (∀ b o,h.get? b = some o -> h1.get? b = some o) -> h.objs.size <= h1.objs.size -> (∀ tk h' t',Post h' -> Q' (.int i tk) ⟨h',g,d,t',os⟩) -> wpAny (MM w) A' (call (.ref l) [v1,v2]) Q' E' ⟨h1,g,d,t1,os⟩)
    (K : ∀ h' t',Post h' -> Q (decide (i < 0)) ⟨h',g,d,t',os⟩) :
    wpAny (MM w) A (oneLt' true (.ref x) (.ref y)) Q E ⟨h,g,d,t,os⟩ := by
  have tx : LK w h (typeOf (.ref x)) (.ref C) := (Looks.ld hx).andThen .now
  have l1 : LK w h (typeLookup (.ref C) (Str.ofString "__lt__")) (some (.ref f)) := lk_own M (by rw [<- hf2]; exact lk3_lt)
  have hfn : ∃ o,h.get? f = some o ∧ o.cls = .type "function" := by
    obtain ⟨doc,cv,ctv,e, _⟩ := Kf
    exact ⟨_,e,rfl⟩
  obtain ⟨of,hof,hofc⟩ := hfn
  have b1 := lk_bindFn (w := w) hof hofc (.ref x)
  rw [oneLt'_eq,if_pos rfl]
  refine wpAny_bind (wpAny_cRoomFor (Nat.lt_of_lt_of_le (show A.units < 5000 by have := hA.un; lia) (by decide)) ?_)
  unfold callSpecialIfBound?
  refine wpAny_bind (wpAny_holding ?_)
  have bs : ∀ {Q' : Option (Value × List Value) -> Shared -> Prop},Q' (some (.ref f, [.ref x])) ⟨h,g,d,t,os⟩ -> wpAny (MM w) A (bindSpecialIfBound? (.ref x) (Str.ofString "__lt__")) Q' E ⟨h,g,d,t,os⟩ := fun {Q'} q => by
    unfold bindSpecialIfBound? specialOf
    refine wpAny_bind (wpAny_bind (Looks.at tx (Looks.at l1 ?_)))
    dsimp only
    have bb : ∀ {E' : Value -> Shared -> Prop},wpAny (MM w) A (do return some (<- bindSpecial (.ref f) (.ref x))) Q' E' ⟨h,g,d,t,os⟩ := wpAny_bind (Looks.at b1 (wpAny_pure q))
    refine wpAny_bind (wpAny_askSetting ?_)
    split
    . exact bb
    . exact wpAny_tryCatch bb
  refine wpAny_bind (bs ?_)
  dsimp only
  refine wpAny_bind ?_
  show wpAny _ _ (call (.ref f) [.ref x, .ref y]) _ _ _
  refine call_lt M hx hy n1 n2 Kf hc hl hld hlim hA hcall fun h' t' hP => ?_
  refine wpAny_pure ?_
  dsimp only
  exact wpAny_bind (wpAny_truthy_bool (wpAny_pure (K h' t' hP)))
end
end
section
section
variable {w : World} {A : Around} {E : Value -> Shared -> Prop} {s : Shared}
theorem mapM_same {β : Type} {f : Value -> Sem β} {r : β} : ∀ {l : List Value} {Q : List β -> Shared -> Prop},(∀ v ∈ l, ∀ {Q' : β -> Shared -> Prop},Q' r s -> wpAny (MM w) A (f v) Q' E s) -> Q (l.map fun _ => r) s -> wpAny (MM w) A (l.mapM f) Q E s
  | [],Q, _,q => by rw [List.mapM_nil]; exact wpAny_pure q
  | v :: l,Q,h,q => by
    rw [List.mapM_cons]
    refine wpAny_bind (h v (List.mem_cons_self ..) ?_)
    refine wpAny_bind (mapM_same (fun u m => h u (List.mem_cons_of_mem _ m)) ?_)
    exact wpAny_pure q
theorem mapM_sameA {β : Type} {f : Value -> Sem β} {r : β} {l : Array Value} {Q : Array β -> Shared -> Prop} (h : ∀ v ∈ l.toList, ∀ {Q' : β -> Shared -> Prop},Q' r s -> wpAny (MM w) A (f v) Q' E s) (q : Q (l.toList.map fun _ => r).toArray s) : wpAny (MM w) A (l.mapM f) Q E s := by
  rw [Array.mapM_eq_mapM_toList]
  refine wpAny_bind (mapM_same h ?_)
  exact wpAny_pure q
theorem kind_K {C : Addr} {keys : Array Value} {Q : SortKind -> Shared -> Prop} (h2 : 2 <= keys.size) (hk : ∀ v ∈ keys.toList, ∃ x o,v = .ref x ∧ s.heap.get? x = some o ∧ o.cls = .ref C ∧ o.data = .plain) (q : Q oneType' s) : wpAny (MM w) A (keyKind' keys) Q E s := by
  rw [keyKind'_eq]
  obtain ⟨l⟩ := keys
  obtain ⟨a,b,l,rfl⟩ : ∃ a b l',l = a :: b :: l' := by
    match l,h2 with
    | a :: b :: l', _ => exact ⟨a,b,l',rfl⟩
  have ht : ∀ v ∈ (a :: b :: l), ∀ {Q' : Value -> Shared -> Prop},Q' (.ref C) s -> wpAny (MM w) A (typeOf v) Q' E s := fun v hv Q' q' => by
    obtain ⟨x,o,rfl,ho,hc, _⟩ := hk v hv
    obtain ⟨hh,g,d,t,os⟩ := s
    obtain ⟨oc,od,dt,sl⟩ := o
    have hc' : oc = .ref C := hc
    subst hc'
    have lk : LK w hh (typeOf (.ref x)) (.ref C) := (Looks.ld ho).andThen .now
    exact Looks.at lk q'
  have hf : ∀ v ∈ (a :: b :: l), ∀ {Q' : Option Value -> Shared -> Prop},Q' none s -> wpAny (MM w) A (firstOfTuple' v) Q' E s := fun v hv Q' q' => by
    show wpAny _ _ (typeOf v >>= _) _ _ _
    refine wpAny_bind (ht v hv ?_)
    exact wpAny_pure q'
  refine wpAny_bind (mapM_sameA hf ?_)
  rw [if_neg (by simp),if_neg (by simp)]
  rw [oneTypeOnly'_eq]
  refine wpAny_bind (wpAny_bind (mapM_sameA ht ?_))
  have h0 : ((List.map (fun _ => Value.ref C) (a :: b :: l)).toArray)[0]? = some (Value.ref C) := by simp
  have hall : ((List.map (fun _ => Value.ref C) (a :: b :: l)).toArray.all fun x => x == Value.ref C) = true := by
    simp only [List.all_toArray,List.all_map,List.all_eq_true]
    intro _ _
    simp
  change wpAny _ _ (match (List.map (fun _ => Value.ref C) (a :: b :: l)).toArray[0]? with | some t => pure (if ((List.map (fun _ => Value.ref C) (a :: b :: l)).toArray.all fun x => x == t) = true then some t else none) | none => pure none) _ _ _
  rw [h0]
  dsimp only
  rw [if_pos hall]
  exact wpAny_pure (wpAny_pure q)
end
end
section
theorem heap_update_ne {h : Heap} {a b : Addr} {o : Obj} (f : Obj -> Obj) (hab : a ≠ b) (e : h.get? b = some o) : (h.update a f).get? b = some o := (Heap.get?_update_other h f hab).trans e
theorem KF.butS {h h' : Heap} {b : Addr} {o : Obj} {xs : Array Value} {n i : Nat} {nm : Str} {clos : List (Str × Addr)} {cell f : Addr} {mg : Str -> Option Value} (x : KF h i nm clos cell mg f) (hd : h.get? b = some o) (ho : o.data = .seq xs n) (k : ∀ y z,y ≠ b -> h.get? y = some z -> h'.get? y = some z) : KF h' i nm clos cell mg f := by
  obtain ⟨doc,cv,ctv,e,q,oc,vs,t,e1,e2,e3,e4⟩ := x
  refine ⟨doc,cv,ctv,k _ _ ?_ e,q,oc,vs,t,e1,k _ _ ?_ e2,e3,e4⟩
  . rintro rfl
    rw [hd] at e
    rw [Option.some.inj e] at ho
    cases ho
  . rintro rfl
    rw [hd] at e2
    rw [Option.some.inj e2,e3] at ho
    cases ho
theorem KMade.butS {k : KIn} {tq : Tok} {h h' : Heap} {ns a m : Addr} {hash : Int} {tk2 tk3 tk4 : Tok} {hash4 : Int} {b : Addr} {o : Obj} {xs : Array Value} {n : Nat} (x : KMade k tq h ns a m hash tk2 tk3 hash4 tk4) (hd : h.get? b = some o) (ho : o.data = .seq xs n) (kp : ∀ y z,y ≠ b -> h.get? y = some z -> h'.get? y = some z) : KMade k tq h' ns a m hash tk2 tk3 hash4 tk4 := by
  refine ⟨kp _ _ ?_ x.d,kp _ _ ?_ x.c,kp _ _ ?_ x.mm⟩
  . rintro rfl
    have e := x.d
    rw [hd] at e
    rw [Option.some.inj e] at ho
    cases ho
  . rintro rfl
    have e := x.c
    rw [hd] at e
    rw [Option.some.inj e] at ho
    cases ho
  . rintro rfl
    have e := x.mm
    rw [hd] at e
    rw [Option.some.inj e] at ho
    cases ho
section
variable {w : World} {A : Around} {E : Value -> Shared -> Prop} {g : Array GenState} {d : Drawn} {os : OsState} {C ns m : Addr} {k : KIn} {tq : Tok} {hash : Int} {tk2 tk3 tk4 : Tok} {hash4 : Int}
structure KeysAt (hA h : Heap) (C kS : Addr) (vs : List Value) (keys : Array Value) (e : Nat) (i : Nat) : Prop where
  keep : ∀ b o,b ≠ kS -> hA.get? b = some o -> h.get? b = some o
  at_ : h.get? kS = some (seqObj "list" keys e)
  sz : keys.size = i
  ks : ∀ j v,j < i -> vs[j]? = some v -> ∃ x dx,keys[j]? = some (.ref x) ∧ h.get? x = some (kInst C dx #[some v])
  zz : hA.objs.size <= h.objs.size
theorem rest_K {hA : Heap} {t : Nat} {a kS cell f1 : Addr} {mg : Str -> Option Value} {vs : List Value} {e1 : Nat} {P : PySem.Fin -> Shared -> Prop} (M : KMade k tq hA ns C m hash tk2 tk3 hash4 tk4) (hf : k.f1 = .ref f1) (Kf : KF hA 2 (Str.ofString "__init__") [] cell mg f1) (hlim : hA.NoLimit) (hst : kS ≠ cStatics) (hdep : A.depth < 800)
    (hk : hA.get? kS = some (seqObj "list" #[] 0)) (h64 : vs.length < 64)
    (K : ∀ h' t' keys e,KeysAt hA h' C kS vs keys e vs.length -> wpAny (MM w) A (ksk_end a false vs.toArray e1 (.ref kS) keys) P E ⟨h',g,d,t',os⟩) :
    wpAny (MM w) A (ksk_rest a (.ref C) false vs.toArray e1 (.ref kS)) P E ⟨hA,g,d,t,os⟩ := by
  unfold ksk_rest
  refine wpAny_bind (wpAny_rule ?_)
  rw [List.forIn_toArray]
  refine wpAny_bind (ksk_fold (fun i s' => ∃ h' t' keys e,s' = ⟨h',g,d,t',os⟩ ∧ KeysAt hA h' C kS vs keys e i) vs 0 _ ⟨hA,t, #[],0,rfl,⟨fun b o _ e => e,hk,rfl,fun j v hj => absurd hj (by lia),Nat.le_refl _⟩⟩ ?step ?done)
  case done =>
    rintro s' ⟨h',t',keys,e,rfl,S⟩
    rw [Nat.zero_add] at S
    refine wpAny_bind (listItems_at S.at_ rfl ?_)
    exact K h' t' keys e S
  case step =>
    rintro j x s' hx ⟨h',t',keys,e,rfl,S⟩
    rw [Nat.zero_add] at S ⊢
    have hj : j < vs.length := (List.getElem?_eq_some_iff.mp hx).1
    have kk : ∀ y z,y ≠ kS -> hA.get? y = some z -> h'.get? y = some z := fun y z hy e => S.keep y z hy e
    have M' := M.butS hk rfl kk
    have Kf' := Kf.butS hk rfl kk
    have lim' : h'.NoLimit := hlim.extBut (fun b o hb e => kk _ _ hb e) hst.symm
    have hlt : kS < h'.objs.size := Heap.lt_size S.at_
    refine wpAny_bind (wpAny_attempt (make_inst M' hf Kf' lim' hdep fun h2 x2 dx t2 keep2 fresh hx2 => ?_))
    have a2 := keep2 _ _ S.at_
    obtain ⟨c2,hc2⟩ : ∃ c2,(h2.update kS (Obj.mapSeq (·.push (.ref x2)))).get? kS = some (seqObj "list" (keys.push (.ref x2)) c2) := ⟨_,get?_update_seq a2 (·.push (.ref x2))⟩
    have hsz := S.sz
    have hxk : ∀ y z,h'.get? y = some z -> y ≠ x2 := fun y z e he => by
      have e1 := Heap.lt_size e
      rw [he] at e1
      exact absurd fresh (Nat.not_le.mpr e1)
    have hkx : kS ≠ x2 := hxk _ _ S.at_
    refine wpAny_bind (listUpdate_at a2 rfl ?_ (by rw [sizeLine_eq]; lia) (Nat.le_trans (Nat.le_of_eq (Array.size_push ..)) (by rw [sizeLine_eq]; lia)))
    refine wpAny_pure ⟨rfl, _, _,keys.push (.ref x2),c2,rfl,⟨fun b o hb e => ?_,hc2,by rw [Array.size_push,hsz],fun i v hi hv => ?_, ?_⟩⟩
    . exact heap_update_ne _ (Ne.symm hb) (keep2 _ _ (S.keep b o hb e))
    . by_cases hij : i = j
      . subst hij
        rw [hx] at hv
        cases hv
        refine ⟨x2,dx, ?_,heap_update_ne _ hkx hx2⟩
        rw [<- hsz]
        exact Array.getElem?_push_size
      . obtain ⟨y,dy,e1,e2⟩ := S.ks i v (by lia) hv
        refine ⟨y,dy, ?_,heap_update_ne _ ?_ (keep2 _ _ e2)⟩
        . rw [Array.getElem?_push_lt (by lia)]
          rw [<- e1]
          exact (Array.getElem?_eq_getElem (by lia)).symm
        . rintro rfl
          rw [S.at_] at e2
          have := congrArg Obj.cls (Option.some.inj e2)
          cases this
    . have e1 : x2 < h2.objs.size := Heap.lt_size hx2
      have e3 := S.zz
      have e4 : (h2.update kS (Obj.mapSeq (·.push (.ref x2)))).objs.size = h2.objs.size := (Heap.SameBut.update h2 kS _).1
      exact Nat.le_trans e3 (Nat.le_trans (Nat.le_trans fresh (Nat.le_of_lt e1)) (Nat.le_of_eq e4.symm))
end
end
section
section
variable {w : World} {A : Around} {E : Value -> Shared -> Prop} {g : Array GenState} {d : Drawn} {os : OsState}
theorem end_K {C a kS : Addr} {vs : List Value} {keys : Array Value} {e e1 : Nat} {J : Shared -> Prop} {o : Ord} {s : Shared} {P : PySem.Fin -> Shared -> Prop} (hs : J s) (hka : kS ≠ a)
    (hJ : ∀ s,J s -> ∃ h t,s = ⟨h,g,d,t,os⟩ ∧ h.get? kS = some (seqObj "list" keys e) ∧ h.get? a = some (seqObj "list" #[] e1))
    (hsz : keys.size = vs.length) (h2 : 2 <= vs.length) (h64 : vs.length < 64)
    (hk : ∀ v ∈ keys.toList, ∃ x o,v = .ref x ∧ s.heap.get? x = some o ∧ o.cls = .ref C ∧ o.data = .plain)
    (hO : LtOk w A E J o (keys.zip vs.toArray)) (h0 : Fine o (keys.zip vs.toArray) 1)
    (K : ∀ h t h' (xs : Array Keyed) c,J ⟨h,g,d,t,os⟩ -> xs.Perm (keys.zip vs.toArray) -> Fine o xs vs.length -> (∃ hm,Heap.SameBut kS h hm ∧ Heap.SameBut a hm h') -> h'.get? a = some (seqObj "list" (xs.map (·.2)) c) -> P (.done (.ret .none)) ⟨h',g,d,t,os⟩) :
    wpAny (MM w) A (ksk_end a false vs.toArray e1 (.ref kS) keys) P E s := by
  have hzs : (keys.zip vs.toArray).size = vs.length := by rw [Array.size_zip,hsz,List.size_toArray,Nat.min_self]
  have hn : ¬ vs.toArray.size < 2 := by rw [List.size_toArray]; lia
  unfold ksk_end
  try dsimp only
  rw [if_neg hn,if_neg hn,if_neg Bool.false_ne_true]
  refine wpAny_bind (kind_K (C := C) (by lia) hk ?_)
  refine wpAny_bind (wpAny_mono (wpJ_sortRuns (a₀ := keys.zip vs.toArray) (J := J) (st := SortSt.mk' oneType' (keys.zip vs.toArray) #[] 7 none)
      (Q := fun _ st' => (arrOf st').Perm (keys.zip vs.toArray) ∧ failedOf st' = none ∧ Fine o (arrOf st') (keys.zip vs.toArray).size)
      hO ⟨Array.Perm.refl _,rfl,rfl,rfl⟩ h0 (by rw [hzs]; exact h2) (by rw [hzs]; exact h64) (fun st' a1 a2 a3 => ⟨a1,a2,a3⟩) s hs) ?_ fun _ _ e => e)
  rintro ⟨⟨⟩,st⟩ s' ⟨hj,hp,hf,hfine⟩
  dsimp only at hp hf hfine ⊢
  obtain ⟨h,t,rfl,nk,na⟩ := hJ _ hj
  rw [hzs] at hfine
  have hsz2 : (arrOf st).size = vs.length := by rw [hp.size_eq,hzs]
  obtain ⟨out,hos⟩ : ∃ out : Array Value,out = (arrOf st).map (·.2) := ⟨_,rfl⟩
  have hout : out.size = vs.length := by rw [hos,Array.size_map]; exact hsz2
  have s1 := Heap.SameBut.update h kS (Obj.mapSeq fun _ => (#[] : Array Value))
  have na1 : (h.update kS (Obj.mapSeq fun _ => (#[] : Array Value))).get? a = some (seqObj "list" #[] e1) := (s1.2 a hka.symm).trans na
  have s2 := Heap.SameBut.update (h.update kS (Obj.mapSeq fun _ => (#[] : Array Value))) a (Obj.mapSeq fun _ => out)
  obtain ⟨c2,hc2⟩ : ∃ c2,((h.update kS (Obj.mapSeq fun _ => (#[] : Array Value))).update a (Obj.mapSeq fun _ => out)).get? a = some (seqObj "list" out c2) :=
    ⟨_,get?_update_seq na1 fun _ => out⟩
  unfold ksk_tail
  simp only [Bool.false_eq_true,if_false, <- hos,hf]
  refine wpAny_bind (listUpdate_at nk rfl ?_ (by rw [hsz,sizeLine_eq]; lia) (Nat.zero_le _))
  refine wpAny_bind (wpAny_letGo ?_)
  refine wpAny_bind (seqEpoch_at na1 rfl ?_)
  refine wpAny_bind (listUpdate_at na1 rfl ?_ (Nat.zero_le _) (Nat.le_trans (Nat.le_of_eq hout) (by rw [sizeLine_eq]; lia)))
  simp only [bne_self_eq_false,Bool.false_eq_true,if_false]
  refine wpAny_pure ?_
  exact K h t _ _ c2 hj hp hfine ⟨_,s1,s2⟩ (by rw [hc2,hos])
end
end
section
section
variable {w : World} {A : Around} {E : Value -> Shared -> Prop} {g : Array GenState} {d : Drawn} {os : OsState} {C ns m : Addr} {k : KIn} {tq : Tok} {hash : Int} {tk2 tk3 tk4 : Tok} {hash4 : Int}
theorem tree_K {h : Heap} {t : Nat} {a cell f1 : Addr} {mg : Str -> Option Value} {vs : List Value} {n : Nat} {P : PySem.Fin -> Shared -> Prop} (ho : h.get? a = some (seqObj "list" vs.toArray n)) (M : KMade k tq h ns C m hash tk2 tk3 hash4 tk4) (hf : k.f1 = .ref f1) (Kf : KF h 2 (Str.ofString "__init__") [] cell mg f1) (hlim : h.NoLimit) (has : a ≠ cStatics) (hst : cStatics < h.objs.size) (hdep : A.depth < 800)
    (h64 : vs.length < 64)
    (K : ∀ hA kS h' t' keys e e1,kS ≠ a -> h.objs.size <= kS -> h.objs.size <= hA.objs.size -> (∀ b o,b ≠ a -> h.get? b = some o -> hA.get? b = some o) -> hA.get? a = some (seqObj "list" #[] e1) -> hA.get? kS = some (seqObj "list" #[] 0) -> KeysAt hA h' C kS vs keys e vs.length -> wpAny (MM w) A (ksk_end a false vs.toArray e1 (.ref kS) keys) P E ⟨h',g,d,t',os⟩) :
    wpAny (MM w) A (ksk_tree a (.ref C) false) P E ⟨h,g,d,t,os⟩ := by
  have ha : a < h.objs.size := Heap.lt_size ho
  have s1 := Heap.SameBut.update h a (Obj.mapSeq fun _ => (#[] : Array Value))
  obtain ⟨e1,ho1⟩ : ∃ e1,(h.update a (Obj.mapSeq fun _ => (#[] : Array Value))).get? a = some (seqObj "list" #[] e1) := ⟨_,get?_update_seq ho fun _ => #[]⟩
  have hkS : ((h.update a (Obj.mapSeq fun _ => (#[] : Array Value))).push (seqObj "tuple" vs.toArray 0)).objs.size = h.objs.size + 1 := by rw [size_push',Heap.size_update]
  have kk : ∀ y z,y ≠ a -> h.get? y = some z -> (((h.update a (Obj.mapSeq fun _ => (#[] : Array Value))).push (seqObj "tuple" vs.toArray 0)).push (seqObj "list" #[] 0)).get? y = some z :=
    fun y z hy e => Heap.get?_push_of_some _ (Heap.get?_push_of_some _ ((s1.2 y hy).trans e))
  unfold ksk_tree
  refine wpAny_bind (listItems_at ho rfl ?_)
  refine wpAny_bind (listUpdate_at ho rfl ?_ (by rw [List.size_toArray,sizeLine_eq]; lia) (Nat.zero_le _))
  refine wpAny_bind (seqEpoch_at ho1 rfl ?_)
  refine wpAny_bind (wpAny_newTuple ?_ (by show vs.length <= _; rw [sizeLine_eq]; lia))
  refine wpAny_bind (wpAny_newList ?_ (Nat.zero_le _))
  refine wpAny_holding ?_
  refine rest_K (hA := ((h.update a (Obj.mapSeq fun _ => (#[] : Array Value))).push (seqObj "tuple" vs.toArray 0)).push (seqObj "list" #[] 0)) (kS := ((h.update a (Obj.mapSeq fun _ => (#[] : Array Value))).push (seqObj "tuple" vs.toArray 0)).objs.size)
    (M.butS ho rfl kk) hf (Kf.butS ho rfl kk) (hlim.extBut (a := a) (fun b o hb e => kk _ _ hb e) has.symm) (by rw [hkS]; exact Nat.ne_of_gt (Nat.lt_succ_of_lt hst)) hdep (Heap.get?_push_size _ rfl) h64 fun h' t' keys e S => ?_
  refine K _ _ h' t' keys e e1 (by rw [hkS]; exact Nat.ne_of_gt (Nat.lt_succ_of_lt ha)) (by rw [hkS]; exact Nat.le_succ _) (by rw [size_push',hkS]; exact Nat.le_succ_of_le (Nat.le_succ _)) kk (Heap.get?_push_of_some _ (Heap.get?_push_of_some _ ho1)) (Heap.get?_push_size _ rfl) S
end
end
section
theorem KMade.nx {k : KIn} {tq : Tok} {h h' : Heap} {N : Nat} {ns a m : Addr} {hash : Int} {tk2 tk3 tk4 : Tok} {hash4 : Int} (x : KMade k tq h ns a m hash tk2 tk3 hash4 tk4) (e : Nx N h h') : KMade k tq h' ns a m hash tk2 tk3 hash4 tk4 :=
  ⟨e.kp _ _ x.d (.inr fun c => by cases c),e.kp _ _ x.c (.inr fun c => by cases c),e.kp _ _ x.mm (.inr fun c => by cases c)⟩
section
variable {w : World} {A : Around} {E : Value -> Shared -> Prop} {g : Array GenState} {d : Drawn} {os : OsState} {C ns m : Addr} {k : KIn} {tq : Tok} {hash : Int} {tk2 tk3 tk4 : Tok} {hash4 : Int}
theorem lt_K {N dd : Nat} {Tb : Heap -> Prop} {h1 : Heap} {cell f2 l kS : Addr} {hA : Heap} {mg : Str -> Option Value} {vs : List Value} {keys : Array Value} {e : Nat} {ol : Obj} {fdl : FuncData} {kfv : Value -> Int} {ixv : Value -> Nat}
    (M : KMade k tq h1 ns C m hash tk2 tk3 hash4 tk4) (hf2 : k.f2 = .ref f2) (hT2 : ∀ h,Tb h -> KF h 3 (Str.ofString "__lt__") [(Str.ofString "mycmp",cell)] cell mg f2) (hTc : ∀ h,Tb h -> h.IsCell cell (some (.ref l))) (hTl : ∀ h,Tb h -> h.get? l = some ol) (hTm : ∀ h,Tb h -> h.NoLimit)
    (hTk : ∀ h h',(∀ b o,h.get? b = some o -> h'.get? b = some o) -> h.objs.size <= h'.objs.size -> Tb h -> Tb h') (hld : ol.data = .func fdl) (hAOk : AOk A (dd + 1)) (S : KeysAt hA h1 C kS vs keys e vs.length) (noid : ∀ v ∈ vs,NoId v)
    (hcall : ∀ v1 ∈ vs, ∀ v2 ∈ vs, ∀ (A' : Around) (E' : Value -> Shared -> Prop) (Q' : Value -> Shared -> Prop) (h : Heap) (t : Nat),AOk A' dd -> Tb h -> (∀ tk h' t',Nx N h h' -> Tb h' -> Q' (.int (kfv v1 - kfv v2) tk) ⟨h',g,d,t',os⟩) -> wpAny (MM w) A' (call (.ref l) [v1,v2]) Q' E' ⟨h,g,d,t,os⟩) :
    LtOk w A E (fun s => ∃ h t,s = ⟨h,g,d,t,os⟩ ∧ Nx N h1 h ∧ Tb h) ⟨fun p => kfv p.2,fun p => ixv p.2⟩ (keys.zip vs.toArray) := by
  have hmem : ∀ p ∈ (keys.zip vs.toArray).toList, ∃ x dx v,p = (.ref x,v) ∧ v ∈ vs ∧ h1.get? x = some (kInst C dx #[some v]) := by
    intro p hp
    obtain ⟨i,hi⟩ := List.mem_iff_getElem?.mp hp
    rw [Array.toList_zip] at hi
    obtain ⟨p1,p2⟩ := p
    rw [List.getElem?_zip_eq_some] at hi
    obtain ⟨e1,e2⟩ := hi
    have e2' : vs[i]? = some p2 := e2
    have hv : p2 ∈ vs := List.mem_of_getElem? e2'
    have hil : i < vs.length := (List.getElem?_eq_some_iff.mp e2').1
    obtain ⟨x,dx,k1,k2⟩ := S.ks i p2 hil e2'
    have e1' : keys[i]? = some p1 := by rw [<- Array.getElem?_toList]; exact e1
    rw [k1] at e1'
    cases e1'
    exact ⟨x,dx,p2,rfl,hv,k2⟩
  intro p hp q hq s hs E'
  obtain ⟨h,t,rfl,nx,tb⟩ := hs
  obtain ⟨x,dx,v1,rfl,m1,g1⟩ := hmem p hp
  obtain ⟨y,dy,v2,rfl,m2,g2⟩ := hmem q hq
  have i1 := nx.kp _ _ g1 (.inr fun c => by cases c)
  have i2 := nx.kp _ _ g2 (.inr fun c => by cases c)
  refine oneLt_K (Post := fun h' => Nx N h h' ∧ Tb h') (i := kfv v1 - kfv v2) (M.nx nx) i1 i2 (noid _ m1) (noid _ m2) hf2 (hT2 _ tb) (hTc _ tb) (hTl _ tb) hld (hTm _ tb) hAOk (fun A' E' Q' h2 t2 hA' kp sz kq => ?_) fun h' t' hP => ?_
  . have tb2 := hTk _ _ kp sz tb
    exact hcall v1 m1 v2 m2 A' E' Q' h2 t2 hA' tb2 fun tk h' t' n2 tb3 => kq tk h' t' ⟨⟨fun b o e1 c => n2.kp b o (kp b o e1) c,Nat.le_trans sz n2.sz⟩,tb3⟩
  . refine ⟨⟨h',t',rfl,nx.trans hP.1,hP.2⟩, ?_⟩
    show decide _ = decide _
    exact decide_eq_decide.mpr (by show kfv v1 - kfv v2 < 0 ↔ kfv v1 < kfv v2; lia)
end
end
section
section
variable {w : World} {A : Around} {E : Value -> Shared -> Prop} {g : Array GenState} {d : Drawn} {os : OsState} {C ns m : Addr} {k : KIn} {tq : Tok} {hash : Int} {tk2 tk3 tk4 : Tok} {hash4 : Int}
theorem sort_K {N dd : Nat} {X : List Addr} {Tb : Heap -> Prop} (T : TbOk N X Tb) {h : Heap} {t : Nat} {a cell f1 f2 l : Addr} {mg : Str -> Option Value} {vs : List Value} {n : Nat} {ol : Obj} {fdl : FuncData} {kfv : Value -> Int} {ixv : Value -> Nat} {P : PySem.Fin -> Shared -> Prop}
    (ho : h.get? a = some (seqObj "list" vs.toArray n)) (hN : N <= a) (M : KMade k tq h ns C m hash tk2 tk3 hash4 tk4) (hf1 : k.f1 = .ref f1) (Kf1 : KF h 2 (Str.ofString "__init__") [] cell mg f1) (hf2 : k.f2 = .ref f2) (hTb : Tb h) (has : a ≠ cStatics) (hst : cStatics < h.objs.size)
    (hT2 : ∀ h,Tb h -> KF h 3 (Str.ofString "__lt__") [(Str.ofString "mycmp",cell)] cell mg f2) (hTc : ∀ h,Tb h -> h.IsCell cell (some (.ref l))) (hTl : ∀ h,Tb h -> h.get? l = some ol) (hld : ol.data = .func fdl) (hAOk : AOk A (dd + 1))
    (h2 : 2 <= vs.length) (h64 : vs.length < 64) (noid : ∀ v ∈ vs,NoId v) (hix : ∀ i v,vs[i]? = some v -> ixv v = i)
    (hcall : ∀ v1 ∈ vs, ∀ v2 ∈ vs, ∀ (A' : Around) (E' : Value -> Shared -> Prop) (Q' : Value -> Shared -> Prop) (h : Heap) (t : Nat),AOk A' dd -> Tb h -> (∀ tk h' t',Nx N h h' -> Tb h' -> Q' (.int (kfv v1 - kfv v2) tk) ⟨h',g,d,t',os⟩) -> wpAny (MM w) A' (call (.ref l) [v1,v2]) Q' E' ⟨h,g,d,t,os⟩)
    (K : ∀ h' t' (keys xs : Array Value) (zs : Array (Value × Value)) c,keys.size = vs.length -> zs.Perm (keys.zip vs.toArray) -> Fine ⟨fun p => kfv p.2,fun p => ixv p.2⟩ zs vs.length -> xs = zs.map (·.2) ->
      (∀ b o,b ≠ a -> h.get? b = some o -> (N <= b ∨ o.cls ≠ .none) -> h'.get? b = some o) -> h.objs.size <= h'.objs.size -> Tb h' -> h'.get? a = some (seqObj "list" xs c) -> P (.done (.ret .none)) ⟨h',g,d,t',os⟩) :
    wpAny (MM w) A (ksk_tree a (.ref C) false) P E ⟨h,g,d,t,os⟩ := by
  have ha : a < h.objs.size := Heap.lt_size ho
  have hdep : A.depth < 800 := by have := hAOk.dp; lia
  have nc : ∀ xs n,NotCode (seqObj "list" xs n) := fun xs n => ⟨(fun fd c => by cases c),fun _ c => by cases c⟩
  refine tree_K ho M hf1 Kf1 (T.limit _ hTb) has hst hdep h64 fun hA kS h1 t1 keys e e1 hka hsk hsz hkp hae hkk S => ?_
  have tbA : Tb hA := T.upd h hA a _ hN ho (nc _ _) (fun b x hb e => hkp b x hb e) hsz hTb
  have hNk : N <= kS := Nat.le_trans hN (Nat.le_trans (Nat.le_of_lt ha) hsk)
  have tb1 : Tb h1 := T.upd hA h1 kS _ hNk hkk (nc _ _) (fun b x hb e => S.keep b x hb e) S.zz tbA
  have M1 := (M.butS ho rfl hkp).butS hkk rfl fun y z hy e => S.keep y z hy e
  have na1 : h1.get? a = some (seqObj "list" #[] e1) := S.keep _ _ (Ne.symm hka) hae
  have hks : ∀ i v,vs[i]? = some v -> ∃ x dx,keys[i]? = some (Value.ref x) ∧ h1.get? x = some (kInst C dx #[some v]) := fun i v hv => S.ks i v (List.getElem?_eq_some_iff.mp hv).1 hv
  have hent : ∀ i v,vs[i]? = some v -> (ent (keys.zip vs.toArray) i).2 = v := fun i v hv => by
    obtain ⟨x,dx,k1, _⟩ := hks i v hv
    have e2 : (keys.zip vs.toArray)[i]? = some (Value.ref x,v) := by
      rw [<- Array.getElem?_toList,Array.toList_zip,List.getElem?_zip_eq_some]
      exact ⟨by rw [Array.getElem?_toList]; exact k1,hv⟩
    unfold ent
    rw [e2]
    rfl
  have hsz0 : (keys.zip vs.toArray).size = vs.length := by rw [Array.size_zip,S.sz,List.size_toArray,Nat.min_self]
  refine end_K (C := C) (e := e) (g := g) (d := d) (os := os) (J := fun s => ∃ h t,s = ⟨h,g,d,t,os⟩ ∧ Nx N h1 h ∧ Tb h) (o := ⟨fun p => kfv p.2,fun p => ixv p.2⟩) ⟨h1,t1,rfl, .refl _,tb1⟩ hka ?_ S.sz h2 h64 ?_ (lt_K M1 hf2 hT2 hTc hTl T.limit T.keep hld hAOk S noid hcall) ⟨fun i j h1 h2 => absurd h2 (by lia),fun i hi => ?_,fun i _ hi => ?_⟩ fun h2 t2 h3 zs c hj hp hF hm h3a => ?_
  . rintro s ⟨h2,t2,rfl,nx,tb⟩
    exact ⟨h2,t2,rfl,nx.kp _ _ S.at_ (.inl hNk),nx.kp _ _ na1 (.inl hN)⟩
  . intro v hv
    obtain ⟨i,hi⟩ := List.mem_iff_getElem?.mp hv
    rw [Array.getElem?_toList] at hi
    have hil : i < keys.size := (Array.getElem?_eq_some_iff.mp hi).1
    rw [S.sz] at hil
    obtain ⟨x,dx,k1,k2⟩ := hks i _ (List.getElem?_eq_getElem hil)
    rw [k1] at hi
    cases hi
    exact ⟨x, _,rfl,k2,rfl,rfl⟩
  . have hi0 : i = 0 := by lia
    subst hi0
    have e0 := List.getElem?_eq_getElem (l := vs) (i := 0) (by lia)
    show ixv (ent _ 0).2 < 1
    rw [hent 0 _ e0,hix 0 _ e0]
    exact Nat.zero_lt_one
  . rw [hsz0] at hi
    have e0 := List.getElem?_eq_getElem (l := vs) (i := i) hi
    show ixv (ent _ i).2 = i
    rw [hent i _ e0,hix i _ e0]
  . obtain ⟨h2',t2',e5,nx,tb⟩ := hj
    cases e5
    obtain ⟨hm,sa,sb⟩ := hm
    have nk := nx.kp _ _ S.at_ (.inl hNk)
    have na := nx.kp _ _ na1 (.inl hN)
    have tbm : Tb hm := T.upd _ hm kS _ hNk nk (nc _ _) (fun b x hb e => (sa.2 b hb).trans e) (Nat.le_of_eq sa.1.symm) tb
    have nam : hm.get? a = some (seqObj "list" #[] e1) := (sa.2 a (Ne.symm hka)).trans na
    have tb3 : Tb h3 := T.upd _ h3 a _ hN nam (nc _ _) (fun b x hb e => (sb.2 b hb).trans e) (Nat.le_of_eq sb.1.symm) tbm
    refine K h3 _ keys _ zs c S.sz hp hF rfl (fun b o hb e c => ?_) (by rw [sb.1,sa.1]; exact Nat.le_trans hsz (Nat.le_trans S.zz nx.sz)) tb3 h3a
    have hbk : b ≠ kS := fun c => absurd (Heap.lt_size e) (Nat.not_lt.mpr (by rw [c]; exact hsk))
    rw [sb.2 b hb,sa.2 b hbk]
    exact nx.kp _ _ (S.keep b o hbk (hkp b o hb e)) c
end
end
section
section
variable {w : World} {A : Around} {E : Value -> Shared -> Prop} {g : Array GenState} {d : Drawn} {os : OsState} {s : Shared}
end
end
section
section
variable {w : World} {A : Around} {E : Value -> Shared -> Prop} {s : Shared}
theorem iadd_range {R : Result -> Shared -> Prop} {r S : Addr} {a b c : Int} {t u v : Tok} {n : Nat} (hh : A.handled = none) (hr : IsRange s.heap r a b c t u v) (hsmall : Builtin.Range.small a b c = true)
    (hn : Builtin.Range.rangeSize a b c = n) (hlen : n <= 2 ^ 24) (hS : s.heap.get? S = some { cls := .type "list",data := .seq #[] 0 })
    (hR : ∀ h' tk acc' c',(∀ b o,b ≠ S -> s.heap.get? b = some o -> h'.get? b = some o) -> h'.get? S = some { cls := .type "list",dict := none,data := .seq acc' c',slots := #[] } ->
      ItemsOf (fun i v => ∃ t,v = .int (a + i * c) t) acc' n -> R (.ok (.ret (.ref S))) { s with heap := h',toks := tk }) : codeAny (MM w) A (.builtin "list.__iadd__" ⟨[.ref S, .ref r], []⟩) R s := by
  refine codeAny_builtin entry_list_iadd' ?_
  rw [Around.under_plainId F.plain_list_iadd _]
  exact wpAny_extend_range (A := A) hh hr hsmall hn hlen S (.ref S) _ hS hR
theorem collect_range {r : Addr} {a b c : Int} {t u v : Tok} {n : Nat} {Q : List Value -> Shared -> Prop} (hh : A.handled = none) (hr : IsRange s.heap r a b c t u v) (hsmall : Builtin.Range.small a b c = true)
    (hn : Builtin.Range.rangeSize a b c = n) (hlen : n <= 2 ^ 24)
    (h : ∀ h' tk (acc : Array Value),(∀ b o,s.heap.get? b = some o -> h'.get? b = some o) -> ItemsOf (fun i v => ∃ t,v = .int (a + i * c) t) acc n -> Q acc.toList { s with heap := h',toks := tk }) :
    wpAny (MM w) A (collect (.ref r)) Q E s := by
  unfold collect
  refine wpAny_bind (wpAny_runValue (codeAny_builtin entry_proto_collect' ?_))
  show wpAny _ _ (do again (.builtin "list.__iadd__" ⟨[<- newList [], .ref r], []⟩)) _ _ s
  refine wpAny_bind (wpAny_newList (wpAny_pure ⟨Code.quiet_builtin _ (by decide +kernel), ?_⟩))
  have hS : (s.heap.push (seqObj "list" #[] 0)).get? s.heap.objs.size = some { cls := .type "list",data := .seq #[] 0 } := Heap.get?_push_size _ rfl
  refine iadd_range (s := { s with heap := s.heap.push (seqObj "list" #[] 0) }) hh (Heap.get?_push_of_some _ hr) hsmall hn hlen hS fun h' tk acc' c' hk hS' hacc => ?_
  show wpAny (MM w) _ (do
      let o <- load s.heap.objs.size
      match o.data with
      | .seq xs _ => pure xs.toList
      | _ => unsupported "internal:collect") Q E _
  refine wpAny_bind (wpAny_load hS' ?_)
  show wpAny _ _ (pure acc'.toList) Q E _
  exact wpAny_pure (h h' tk acc' (fun b o e => hk b o (Nat.ne_of_lt (Heap.lt_size e)) (Heap.get?_push_of_some _ e)) hacc)
end
end
section
set_option autoImplicit false
structure LamN (N : Nat) (Tb : Heap -> Prop) (cd : Value) (pos : Pos) (qual : Str) (c P : Addr) : Prop where
  cd : cd = .ref c
  low : P < N
  gl : mainGlobals ≠ P
  code : ∀ h,Tb h -> CodeHd h c P
  glob : ∀ h,Tb h -> ∃ mg,h.Ns mainGlobals mg ∧ h.BuiltinsAt mg P
  tab : ∀ h,Tb h -> ∃ ps,h.get? P = some (tabObj ps) ∧ TriplesOk ps.toList ∧ (codeAmong pos ps.toList = none ∨ ∃ c',N <= c' ∧ codeAmong pos ps.toList = some (.ref c') ∧ h.CodeRec (.ref c') qual)
  upd : ∀ h h' ps c',Tb h -> h.get? P = some (tabObj ps) -> codeAmong pos ps.toList = none -> Heap.ExtBut P h h' -> h.objs.size <= h'.objs.size -> h'.get? P = some (tabObj (ps ++ #[rawInt pos.line,rawInt pos.col, .ref c'])) -> N <= c' -> h'.CodeRec (.ref c') qual -> Tb h'
theorem LamN.x {N : Nat} {Top : Heap -> Prop} {cd : Value} {pos : Pos} {qual : Str} {c P : Addr} (n : LamN N Top cd pos qual c P) (X : List Addr) : LamN N (TbX Top X) cd pos qual c P where
  cd := n.cd
  low := n.low
  gl := n.gl
  code := fun h t => n.code h t.1
  glob := fun h t => n.glob h t.1
  tab := fun h t => n.tab h t.1
  upd := fun h h' ps c' t a b e z g l r => ⟨n.upd h h' ps c' t.1 a b e z g l r,fun x hx => Nat.lt_of_lt_of_le (t.2 x hx) z⟩
noncomputable def TbN (Tb : Heap -> Prop) (N : Nat) (h0 : Heap) : Heap -> Prop := fun h => Tb h ∧ Nx N h0 h
theorem TbN.ok {N : Nat} {X : List Addr} {Tb : Heap -> Prop} (T : TbOk N X Tb) {h0 : Heap} (h : N <= h0.objs.size) : TbOk h0.objs.size X (TbN Tb N h0) where
  keep := fun h h' k z x => ⟨T.keep h h' k z x.1,x.2.trans (.of_keep k z)⟩
  upd := fun g g' a oa n e c k z x => ⟨T.upd g g' a oa (Nat.le_trans h n) e c k z x.1,⟨fun b o eb hb => k b o (Nat.ne_of_lt (Nat.lt_of_lt_of_le (Heap.lt_size eb) n)) (x.2.kp b o eb hb),Nat.le_trans x.2.sz z⟩⟩
  size := fun h x => x.2.sz
  low := fun h x => T.low h x.1
  limit := fun h x => T.limit h x.1
noncomputable def TbE (Tb : Heap -> Prop) (h0 : Heap) : Heap -> Prop := fun h => Tb h ∧ (∀ b o,h0.get? b = some o -> h.get? b = some o) ∧ h0.objs.size <= h.objs.size
theorem TbE.ok {N : Nat} {X : List Addr} {Tb : Heap -> Prop} (T : TbOk N X Tb) {h0 : Heap} (h : N <= h0.objs.size) : TbOk h0.objs.size X (TbE Tb h0) where
  keep := fun h h' k z x => ⟨T.keep h h' k z x.1,fun b o e => k b o (x.2.1 b o e),Nat.le_trans x.2.2 z⟩
  upd := fun g g' a oa n e c k z x => ⟨T.upd g g' a oa (Nat.le_trans h n) e c k z x.1,fun b o eb => k b o (Nat.ne_of_lt (Nat.lt_of_lt_of_le (Heap.lt_size eb) n)) (x.2.1 b o eb),Nat.le_trans x.2.2 z⟩
  size := fun h x => x.2.2
  low := fun h x => T.low h x.1
  limit := fun h x => T.limit h x.1
theorem Nx.lo {N M : Nat} {h h' : Heap} (n : Nx N h h') (hM : N <= M) : Nx M h h' := ⟨fun b o e x => n.kp b o e (x.imp (Nat.le_trans hM) id),n.sz⟩
section
variable {w : World} {N : Nat} {X : List Addr} {Tb : Heap -> Prop} {A : Around} {env : Env} {hb : Heap} {C : Heap -> Prop}
theorem GV.lo {M : Nat} {t : Sem Value} {P : Heap -> Value -> Prop} (h : GV w N Tb A C t P) (hM : N <= M) : GV w M Tb A C t P := ⟨fun s Q E c t k => h.run s Q E c t fun v h' tk n t' p => k v h' tk (n.lo hM) t' p⟩
theorem GV.inN {t : Sem Value} {P : Heap -> Value -> Prop} {h0 : Heap} (h : GV w N Tb A C t P) : GV w N (TbN Tb N h0) A C t P :=
  ⟨fun s Q E c t k => h.run s Q E c t.1 fun v h' tk n t' p => k v h' tk n ⟨t',t.2.trans n⟩ p⟩
theorem wp_lambda (T : TbOk N X Tb) {params : Arguments} {body : Expr} {scope : Scope} {pos : Pos} {c P : Addr} {clos : List (Str × Addr)} {s : Shared} {Q E : Value -> Shared -> Prop}
    (Ne : LamN N Tb env.code pos (env.qual ++ "<lambda>") c P) (hgl : env.globals = mainGlobals) (hdef : defaultsOf params env = ([], [])) (hclo : closureFor scope env = pure clos) (t : Tb s.heap)
    (k : ∀ (f : Addr) pm c' ctv h' tk,s.heap.objs.size <= f -> N <= f -> N <= c' -> f < h'.objs.size -> Nx N s.heap h' -> Tb h' -> h'.get? f = some { cls := .type "function",data := .func (kla_fn "<lambda>" (env.qual ++ "<lambda>") params body scope clos pm (.ref c') ctv) } ->
      h'.CodeRec (.ref c') (env.qual ++ "<lambda>") -> Q (.ref f) { s with heap := h',toks := tk }) :
    wpAny (MM w) A (eval (.Lambda params body scope pos) env) Q E s := by
  refine kla_eval hdef ?_
  obtain ⟨mg,hg,hbu⟩ := Ne.glob _ t
  obtain ⟨ps,hP,htr,hcase⟩ := Ne.tab _ t
  have hN := T.size _ t
  have key : ∀ (h' : Heap) (tk : Tok) (pm : Value) (c' : Addr) (ctv : Value),N <= c' -> Nx N s.heap h' -> Tb h' -> h'.CodeRec (.ref c') (env.qual ++ "<lambda>") ->
      Q (.ref h'.objs.size) { s with heap := h'.push { cls := .type "function",data := .func (kla_fn "<lambda>" (env.qual ++ "<lambda>") params body scope clos pm (.ref c') ctv) },toks := tk } := by
    intro h' tk pm c' ctv hc n₁ T₁ hrec
    exact k h'.objs.size pm c' ctv _ tk n₁.sz (Nat.le_trans hN n₁.sz) hc (by rw [Heap.size_push]; exact Nat.lt_succ_self _) (n₁.trans (.push _ _)) (T.push T₁ _) (Heap.get?_push_size _ rfl) (hrec.keeps fun b o e => Heap.get?_push_of_some _ e)
  rcases hcase with hnf | ⟨c',hc',hf,hrec⟩
  . refine kla_makeFunction hclo hgl hg Ne.cd (Ne.code _ t) hP htr hnf Ne.gl hbu fun c' ctv h' tk hext hge hlt hrec htb => ?_
    have hsz : s.heap.objs.size <= h'.objs.size := Nat.le_of_lt (Nat.lt_of_le_of_lt hge hlt)
    have hNc : N <= c' := Nat.le_trans hN hge
    refine key h' tk _ c' ctv hNc ⟨fun b o e hb' => hext b o (fun e' => ?_) e,hsz⟩ (Ne.upd _ _ _ _ t hP hnf hext hsz htb hNc hrec) hrec
    subst e'
    rw [hP] at e; cases e
    rcases hb' with h1 | h1
    . exact absurd h1 (Nat.not_le.mpr Ne.low)
    . exact h1 rfl
  . exact kla_makeFunctionHit hclo hgl hg Ne.cd (Ne.code _ t) hP htr hf hbu fun ctv h' tk hk hsz => key h' tk _ c' ctv hc' (.of_keep hk hsz) (T.keep _ _ hk hsz t) (hrec.keeps hk)
theorem FNP.lam (hkeep : ∀ h h',(∀ b o,h.get? b = some o -> h'.get? b = some o) -> h.objs.size <= h'.objs.size -> Tb h -> Tb h') (hsize : ∀ h,Tb h -> N <= h.objs.size) (hlim : ∀ h,Tb h -> h.NoLimit)
    {f : Addr} {name qual : Str} {params : Arguments} {body : Expr} {scope : Scope} {clos : List (Str × Addr)} {pm cv ctv : Value} {d : Nat} {prm fr : List Str} {ps fv : List PV} {r : PV}
    (ho : ∀ h,Tb h -> h.get? f = some { cls := .type "function",data := .func (kla_fn name qual params body scope clos pm cv ctv) }) (hcd : ∀ h,Tb h -> h.CodeRec cv qual) (hlen : prm.length = ps.length) (hlf : fr.length = fv.length)
    (hbind : ∀ vs : List Value,vs.length = prm.length -> bindArgs (kla_fn name qual params body scope clos pm cv ctv) ⟨vs, []⟩ = pure (prm.zip vs)) (hn : prm.Nodup)
    (hcell : ∀ x ∈ scope.names,x.2 ≠ .cell) (hkind : ∀ x ∈ prm,scope.names.lookup x = some .local) (hfr : ∀ x ∈ fr,scope.names.lookup x = some .free)
    (hpre : ∀ h,Tb h -> FrOk N X clos fr fv h)
    (hbd : ∀ A env hb,AOk A d -> BlkOk N hb env -> env.scope = scope -> env.code = cv -> env.cells = clos -> EV w N Tb A env (Cx N X hb env (prm ++ fr) (ps.map some ++ fv.map some)) body (IsP X r))
    (hco : scope.isCoroutine = false := by rfl) (hgen : scope.isGenerator = false := by rfl) (hk : scope.kind = .function := by rfl) : FNP w N X Tb f (d + 1) (fun _ => True) ps r := by
  intro A hA vs
  constructor
  intro s Q E ⟨iv, _⟩ t k
  have hvl : vs.length = prm.length := by rw [iv.length,hlen]
  refine wpAny_call (kla_callFunE (by have := hA.dp; show A.depth < 1000; lia) (ho _ t) rfl hco hgen rfl (hcd _ t) ?_)
  rw [hbind vs hvl]
  refine wpAny_pure (wpAny_newFunctionEnv hcell (fun y hy => hkind y.1 (mem_zip_fst hy)) (fun h₁ hns hsb => ?_) hk)
  have hz1 : (s.heap.push { cls := .type "frame",data := .dict #[] }).objs.size = s.heap.objs.size + 1 := Heap.size_push ..
  have hsb' : Heap.SameBut s.heap.objs.size (s.heap.push { cls := .type "frame",data := .dict #[] }) h₁ := hsb
  have hz : s.heap.objs.size <= h₁.objs.size := by rw [hsb'.1]; lia
  have keep : ∀ b o,s.heap.get? b = some o -> h₁.get? b = some o := fun b o e => (hsb'.2 b (Nat.ne_of_lt (Heap.lt_size e))).trans (Heap.get?_push_of_some _ e)
  have hN : N <= s.heap.objs.size := hsize _ t
  have t₁ : Tb h₁ := hkeep _ _ keep hz t
  have n₁ : Nx N s.heap h₁ := .of_keep keep hz
  generalize henv : newEnv scope s.heap.objs.size (kla_fn name qual params body scope clos pm cv ctv).globals (kla_fn name qual params body scope clos pm cv ctv).closure ((kla_fn name qual params body scope clos pm cv ctv).qualname ++ ".<locals>.") (some f) (kla_fn name qual params body scope clos pm cv ctv).code none (kla_fn name qual params body scope clos pm cv ctv).builtins = env
  have eL : env.locals = s.heap.objs.size := by rw [<- henv]; rfl
  have eS : env.scope = scope := by rw [<- henv]; rfl
  have eC : env.cells = clos := by rw [<- henv]; rfl
  have B : BlkOk N s.heap env := ⟨by rw [eS]; exact hk,by rw [<- henv]; rfl,by rw [<- henv]; rfl,by rw [eL]; exact Nat.le_refl _,hN⟩
  have hA' : AOk (A.deeper env) d := ⟨hA.hd,by have := hA.dp; show A.depth + 1 + d < 700; lia,by have := hA.un; show A.units + 3 + 100 * d < 5000; lia⟩
  refine ⟨hlim _ t₁,kla_codeExpr ?_⟩
  refine (hbd _ _ s.heap hA' B eS (by rw [<- henv]; rfl) eC).run _ _ _ ⟨n₁,⟨_,eL ▸ hns⟩,fun i y hy => ?_⟩ t₁ fun v h' tk' nx t' hi => k v h' tk' (n₁.trans nx) t' hi
  by_cases hi : i < prm.length
  . have hy' : prm[i]? = some y := by rw [List.getElem?_append_left hi] at hy; exact hy
    have hkl : env.kindOf y = some .local := by rw [Env.kindOf,eS]; exact hkind y (List.mem_of_getElem? hy')
    refine ⟨_, .inl ⟨hkl, _,eL ▸ hns,rfl⟩,fun p hp => ?_⟩
    rw [List.getElem?_append_left (by rw [List.length_map, <- hlen]; exact hi),List.getElem?_map] at hp
    cases hpi : ps[i]? with
    | none => rw [hpi] at hp; cases hp
    | some q =>
      rw [hpi] at hp; cases hp
      obtain ⟨v,hv,hiv⟩ := iv.get' hpi
      exact ⟨v,zip_lookup _ _ hn hy' hv, .inl (hiv.nx n₁)⟩
  . rw [List.getElem?_append_right (Nat.not_lt.mp hi)] at hy
    rw [List.getElem?_append_right (by rw [List.length_map, <- hlen]; exact Nat.not_lt.mp hi),List.length_map, <- hlen]
    generalize i - prm.length = m at hy
    have hkf : env.kindOf y = some .free := by rw [Env.kindOf,eS]; exact hfr y (List.mem_of_getElem? hy)
    have hm : m < fv.length := by rw [<- hlf]; exact (List.getElem?_eq_some_iff.mp hy).1
    obtain ⟨c,v,hc,hNc,hcv,hiv⟩ := hpre _ t m y _ hy (List.getElem?_eq_getElem hm)
    refine ⟨some v, .inr ⟨.inr hkf,c,by rw [eC]; exact hc,hNc,hcv.keeps keep⟩,fun p hp => ?_⟩
    rw [List.getElem?_map,List.getElem?_eq_getElem hm] at hp
    cases hp
    exact ⟨v,rfl, .inl (hiv.nx n₁)⟩
end
end
section
set_option autoImplicit false
noncomputable abbrev qLam : Str := Str.ofString "law" ++ ".<locals>." ++ "<lambda>"
section
variable {w : World} {N : Nat} {X : List Addr} {Tb : Heap -> Prop} {Top : Heap -> Prop} {A : Around} {env : Env} {hb : Heap} {C : Heap -> Prop}
theorem law_s8 (g : GZ N Top) {d : Nat} (hA : AOk A d) (O : EnvOk N hb env) (hs : env.scope = scopeOf (stmtAt 44)) (hd : 14 <= d) {cdL : Value} {cL pL : Addr} (nL : LamN N Top cdL ⟨209,14,209,58⟩ qLam cL pL) (hcode : env.code = cdL) (hq : env.qual = Str.ofString "law" ++ ".<locals>.") {ns ws ds : List Int} {rs : List Row} {xl : Int} (hr : rs.length <= 6) (hds : ds.length <= 8) : SX w N (TbX Top X) A env (Wr env lawN X) (Cx N X hb env lawN [some (intsP ns),some (.int xl),some (rowsP rs),some (intsP ws),some (intsP ds),some (intsP (nums rs)),some (statesP ds rs),some (numbersP ds rs),none,none,none,some (.int (rs.length : Nat))]) (nthS (bodyOf (stmtAt 44)) 8) (Nxt (Cx N X hb env lawN [some (intsP ns),some (.int xl),some (rowsP rs),some (intsP ws),some (intsP ds),some (intsP (nums rs)),some (statesP ds rs),some (numbersP ds rs),none,none,none,some (.int (rs.length : Nat))])) := by
  have T := TbX.ok g.T X
  have hn : NsOk lawN := ⟨by decide,by decide,by decide⟩
  have hkk := O.kind
  have hL := O.hL
  refine law_if (p := .int (numb (after ds rs))) (q := .int (numb (after ds rs))) (n := 0) hL ?a1 (EV.lastNum (i := 7) hds hkk hL hn ?a2 rfl) rfl (EqD.int _) (by decide) hA.units (by with_unfolding_all rfl)
  case a2 => walk_at "m"
  case a1 =>
    show EV w N (TbX Top X) A env (Cx N X hb env lawN [some (intsP ns),some (.int xl),some (rowsP rs),some (intsP ws),some (intsP ds),some (intsP (nums rs)),some (statesP ds rs),some (numbersP ds rs),none,none,none,some (.int (rs.length : Nat))]) (.Call (.Name _ _) [.Lambda _ _ _ _, .Name _ _, .Subscript _ _ _] [] _) _
    constructor
    intro s Q E c t k
    have kR : env.kindOf (Str.ofString "reduce") = some .globalImplicit := by rw [Env.kindOf,hs]; decide
    refine Call_ ((EV.glob (N := N) (C := Cx N X hb env lawN [some (intsP ns),some (.int xl),some (rowsP rs),some (intsP ws),some (intsP ds),some (intsP (nums rs)),some (statesP ds rs),some (numbersP ds rs),none,none,none,some (.int (rs.length : Nat))]) hkk O.glob kR (g.gRed.x X) (by decide)).run s _ E c t fun v h₁ t₁ n₁ T₁ hv => ?_)
    subst hv
    obtain ⟨oR,hdR,hoR⟩ := g.dRed
    refine callWith_function (o := oR) (fd := fdRed g.pmR g.cdR g.docR g.td) (evalArgs_plain ?_)
    have c₁ := Cx.stb hL _ _ c n₁
    refine args_cons (rest := [_, _]) (wp_lambda (c := cL) (P := pL) T ?b1 O.glob rfl (Cx.clos c₁ ?b2) T₁ fun f pm c' ctv h₂ t₂ hsz hNf hNc hlt n₂ T₂ hf hrec => ?b3) rfl
    case b1 => rw [hcode,hq]; exact nL.x X
    case b2 =>
      intro y hy hfr
      have e : y.1 = Str.ofString "many" := by
        revert y
        decide
      exact ⟨11,by rw [e]; rfl, .inl (by rw [e,Env.kindOf,hs]; decide)⟩
    case b3 =>
      have c₂ := Cx.stb hL _ _ c₁ n₂
      have ev2 : EV w N (TbX Top X) A env (Cx N X hb env lawN [some (intsP ns),some (.int xl),some (rowsP rs),some (intsP ws),some (intsP ds),some (intsP (nums rs)),some (statesP ds rs),some (numbersP ds rs),none,none,none,some (.int (rs.length : Nat))]) (.Name (Str.ofString "deeds") ⟨209,60,209,65⟩) (IsP X (intsP ds)) := by walk_at "m"
      have ev3 : EV w N (TbX Top X) A env (Cx N X hb env lawN [some (intsP ns),some (.int xl),some (rowsP rs),some (intsP ws),some (intsP ds),some (intsP (nums rs)),some (statesP ds rs),some (numbersP ds rs),none,none,none,some (.int (rs.length : Nat))]) (.Subscript (.Name (Str.ofString "numbers") ⟨209,67,209,74⟩) (.Constant (.int 0) 0 ⟨209,75,209,76⟩) ⟨209,67,209,77⟩) (IsP X (.int (numb rs))) := by
        refine EV.sub (p := numbersP ds rs) (q := .int 0) ?e1 ?e2 EV.cint (IT.list (by decide) (by decide) ?e3) trivial
        case e1 => walk_at "m"
        case e2 => walk_at "m"
        case e3 => show (((statesL ds rs).map numb).map PV.int)[0]? = _; rw [List.getElem?_map,List.getElem?_map,states_head]; rfl
      refine args_cons (rest := [_]) (ev2.run _ _ E c₂ T₂ fun v2 h₃ t₃ n₃ T₃ i2 => ?_) rfl
      have c₃ := Cx.stb hL _ _ c₂ n₃
      refine args_cons (rest := []) (ev3.run _ _ E c₃ T₃ fun v3 h₄ t₄ n₄ T₄ i3 => args_nil ?_) rfl
      refine ⟨⟨hoR _ T₄.1,hdR⟩, ?_⟩
      have c₄ := Cx.stb hL _ _ c₃ n₄
      have n₂₄ := n₃.trans n₄
      have TN := TbN.ok (h0 := h₄) T (T.size _ T₄)
      have hf4 : ∀ h,TbN (TbX Top X) N h₄ h -> h.get? f = some _ := fun h t => t.2.kp _ _ (n₂₄.kp _ _ hf (.inl hNf)) (.inl hNf)
      have hr4 : ∀ h,TbN (TbX Top X) N h₄ h -> h.CodeRec (.ref c') (env.qual ++ "<lambda>") := fun h t => by
        obtain ⟨q,oc,vs,tq,e1,e2,e3,e4⟩ := hrec
        cases e1
        exact ⟨_,oc,vs,tq,rfl,t.2.kp _ _ (n₂₄.kp _ _ e2 (.inl hNc)) (.inl hNc),e3,e4⟩
      have LF : ∀ n x,FNP w N X (TbN (TbX Top X) N h₄) f (rs.length + 4) (fun _ => True) [.int n, .int x] (.int (doneOf (fun m => d2i (List.replicate rs.length m)) n x)) := fun n x => by
        refine FNP.lam (prm := [Str.ofString "number",Str.ofString "x"]) (fr := [Str.ofString "many"]) (fv := [.int (rs.length : Nat)]) (fun h h' kk z tt => ⟨T.keep h h' kk z tt.1,tt.2.trans (.of_keep kk z)⟩) (fun h tt => T.size h tt.1) (fun h tt => T.limit h tt.1) hf4 hr4 rfl rfl (fun vs h => by obtain ⟨a,b,rfl⟩ := of2 h; with_unfolding_all rfl) (by decide) (by decide) (by decide) (by decide) (fun h tt => FrOk.stb h₄ h ?f2 tt.2) (fun A env hb hA B hsc hcd' hcl => ?f1)
        case f2 =>
          refine Cx.fr c₄ fun i x p hx hp => ?_
          match i with
          | 0 =>
            cases hx; cases hp
            refine ⟨11,rfl,rfl,rfl, .inl (by rw [Env.kindOf,hs]; decide),fun a ha => closeOf_has ha _ _ ?_⟩
            decide
          | i + 1 => cases hx
        case f1 =>
          have hk' := B.kind
          have hL' := B.hL
          have hn' : NsOk [Str.ofString "number",Str.ofString "x",Str.ofString "many"] := ⟨by decide,by decide,by decide⟩
          show EV w N _ A env (Cx N X _ env [Str.ofString "number",Str.ofString "x",Str.ofString "many"] [some (.int n),some (.int x),some (.int (rs.length : Nat))]) _ _
          obtain ⟨hg,pm2,cd2,doc2,⟨o2,ho2,hD2⟩,hcd2⟩ := g.dDone
          have FD := done_fn (w := w) (X := X) (many := (rs.length : Nat)) (number := n) (x := x) (F := fun m => d2i (List.replicate rs.length m)) g.toGX (fun m h0 h1 => all_fn g.toGY h0 (by lia) (by lia))
          refine EV.call (f := g.fDone) (fd := docDef _ _ _ _ pm2 cd2 doc2) ?g1 B.kind B.glob ?g2 (fun h tt => hg h tt.1.1) ⟨o2,ho2,fun h tt => hD2 h tt.1.1⟩ (EVs.cons ?g3 ?g4 (EVs.cons ?g5 ?g6 (EVs.cons ?g7 ?g8 EVs.nil rfl) rfl) rfl) (fun A hA vs => (FD A hA vs).inN) hA
          case g1 => walk_at "m"
          case g2 => rw [Env.kindOf,hsc]; decide
          case g3 => walk_at "m"
          case g4 => walk_at "m"
          case g5 => walk_at "m"
          case g6 => walk_at "m"
          case g7 => walk_at "m"
          case g8 => walk_at "m"
      have R := reduce_fn (w := w) (N := h₄.objs.size) (X := X) (Tb := TbN (TbX Top X) N h₄) (Pre := fun _ => True) TN (fun _ _ _ _ => trivial) (f := g.fRed) (fl := f) (im := g.im) (td := g.td) (pm := g.pmR) (cd := g.cdR) (doc := g.docR) ⟨oR,hdR,fun h tt => hoR h tt.1.1⟩ (fun h tt => g.cRed h tt.1.1) (fun h tt => g.hRed h tt.1.1) (fun h tt => g.gIm h tt.1.1) (fun h tt => g.bIter h tt.1.1)
        ⟨_,rfl,hf4⟩ ds (numb rs) fun n x A hA vs => (LF n x A hA vs).lo (T.size _ T₄)
      rw [numb_fold rs.length ds rs rfl] at R
      exact (R A (hA.less (by lia)) [.ref f,v2,v3]).run _ Q E ⟨.cons (.raw _) (.cons (i2.nx n₄) (.cons i3 .nil)),trivial⟩ ⟨T₄, .refl _⟩ fun v h₅ t₅ n₅ T₅ i₅ => k v h₅ t₅ ((n₁.trans (n₂.trans n₂₄)).trans T₅.2) T₅.1 i₅
end
end
section
set_option autoImplicit false
theorem Call_kw {M : Model} {A : Around} {E : Value -> Shared -> Prop} {s : Shared} {env : Env} {func : Expr} {args : List Expr} {kws : List Keyword} {pos : Pos} {Q : Value -> Shared -> Prop}
    (h : wpAny M A (eval func env) (fun f s₁ => wpAny M A (callWith pos f [] (backTo pos (starEach args env)) (backToKw pos (keywordEach kws env))) Q E s₁) E s)
    (he : eval (.Call func args kws pos) env = (do callWith pos (<- eval func env) [] (backTo pos (starEach args env)) (backToKw pos (keywordEach kws env))) := by rfl) :
    wpAny M A (eval (.Call func args kws pos) env) Q E s := by
  rw [he]; exact wpAny_bind h
noncomputable def iv : Value -> Int
  | .int i _ => i
  | _ => 0
noncomputable def keyOf (ns : List Int) (x : Int) : Int := ns.getD x.toNat 0
structure Laid (ns : List Int) (n : Nat) (l : List Int) : Prop where
  perm : l.Perm ((List.range n).map fun (i : Nat) => (i : Int))
  ord : l.Pairwise fun x y => keyOf ns x < keyOf ns y ∨ (keyOf ns x = keyOf ns y ∧ x.toNat < y.toNat)
theorem pw_unique {α : Type} {R : α -> α -> Prop} (irr : ∀ x, ¬ R x x) (tr : ∀ x y z,R x y -> R y z -> R x z) : ∀ {l m : List α},l.Perm m -> l.Pairwise R -> m.Pairwise R -> l = m
  | [],m,p, _, _ => (List.Perm.nil_eq p)
  | x :: l, [],p, _, _ => absurd p.length_eq (by simp)
  | x :: l,y :: m,p,h1,h2 => by
    have hx : x ∈ y :: m := p.mem_iff.mp List.mem_cons_self
    have hy : y ∈ x :: l := p.mem_iff.mpr List.mem_cons_self
    have e : x = y := by
      rcases List.mem_cons.mp hx with e | hx
      . exact e
      rcases List.mem_cons.mp hy with e | hy
      . exact e.symm
      exact absurd (tr _ _ _ ((List.pairwise_cons.mp h1).1 _ hy) ((List.pairwise_cons.mp h2).1 _ hx)) (irr _)
    subst e
    rw [pw_unique irr tr (List.Perm.cons_inv p) (List.pairwise_cons.mp h1).2 (List.pairwise_cons.mp h2).2]
theorem Laid.unique {ns : List Int} {n : Nat} {l m : List Int} (a : Laid ns n l) (b : Laid ns n m) : l = m :=
  pw_unique (R := fun x y => keyOf ns x < keyOf ns y ∨ (keyOf ns x = keyOf ns y ∧ x.toNat < y.toNat)) (fun x h => by lia) (fun x y z a b => a.elim (fun a => b.elim (fun b => .inl (Int.lt_trans a b)) fun b => .inl (lt_of_lt_of_eq a b.1)) fun a => b.elim (fun b => .inl (lt_of_eq_of_lt a.1 b)) fun b => .inr ⟨a.1.trans b.1,Nat.lt_trans a.2 b.2⟩) (a.perm.trans b.perm.symm) a.ord b.ord
theorem zip_snd {keys : Array Value} {vs : List Value} (h : keys.size = vs.length) : (keys.zip vs.toArray).toList.map (·.2) = vs := by
  rw [ksk_zip,List.map_snd_zip]
  show vs.length <= keys.toList.length
  rw [Array.length_toList (xs := keys),h]; exact Nat.le_refl vs.length
theorem laid_of {ns : List Int} {keys : Array Value} {zs : Array (Value × Value)} {vs : List Value} (hz : keys.size = vs.length) (hi : vs.map iv = (List.range vs.length).map fun (i : Nat) => (i : Int)) (hp : zs.Perm (keys.zip vs.toArray))
    (hF : Fine ⟨fun p => keyOf ns (iv p.2),fun p => (iv p.2).toNat⟩ zs vs.length) : Laid ns vs.length ((zs.toList.map (·.2)).map iv) where
  perm := by
    have h1 := ((Array.perm_iff_toList_perm.mp hp).map (·.2)).map iv
    rw [zip_snd hz,hi] at h1
    exact h1
  ord := by
    have hzl : zs.toList.length = vs.length := by
      have h1 := (Array.perm_iff_toList_perm.mp hp).length_eq
      have h2 := congrArg List.length (zip_snd hz)
      rw [List.length_map] at h2
      rw [h1,h2]
    rw [List.map_map,List.pairwise_map,List.pairwise_iff_getElem]
    intro i j h1 h2 hij
    have h := hF.ord i j hij (by rw [<- hzl]; exact h2)
    have e : ∀ k (hk : k < zs.toList.length),ent zs k = zs.toList[k] := fun k hk => by
      unfold ent
      rw [<- Array.getElem?_toList,List.getElem?_eq_getElem hk]
      rfl
    rw [e i h1,e j h2] at h
    exact h
theorem laid_is {X : List Addr} {h : Heap} : ∀ {vs : List Value},(∀ v ∈ vs, ∃ i t,v = .int i t) -> IsL X h vs ((vs.map iv).map .int)
  | [], _ => .nil
  | v :: vs,hv => by
    obtain ⟨i,t,rfl⟩ := hv v List.mem_cons_self
    exact .cons (.int i t) (laid_is fun u hu => hv u (List.mem_cons_of_mem _ hu))
structure GC (N : Nat) (Top Top0 : Heap -> Prop) where
  fCmp : Addr
  pmC : Value
  c0 : Addr
  docC : Value
  tK : Addr
  gCmp : GlobIs Top (Str.ofString "cmp_to_key") (.ref fCmp)
  dCmp : DefAt Top fCmp (cmpFd pmC (.ref c0) docC)
  cCmp : ∀ h,Top h -> h.CodeRec (.ref c0) (Str.ofString "cmp_to_key")
  tLow : tK < N
  sLow : cStatics < N
  bf : ∀ h,Top h -> ∃ mg oS,BF h c0 tK #[] mg oS ∧ BG h mg
  but : ∀ h h',Top h -> (∀ b o,b ≠ tK -> h.get? b = some o -> h'.get? b = some o) -> h.objs.size <= h'.objs.size -> (∃ qs,h'.get? tK = some (tabObj qs)) -> Top0 h'
theorem sorted_all {w : World} {A : Around} {E : Value -> Shared -> Prop} {g : Array GenState} {d : Drawn} {os : OsState} {h : Heap} {t : Nat} {C r : Addr} {b : Int} {tu tv tw : Tok} {n : Nat} {Q : Value -> Shared -> Prop} (hh : A.handled = none) (hr : h.get? r = some { cls := .type "range",data := .fields #[.int 0 tu, .int b tv, .int 1 tw] })
    (hsmall : Builtin.Range.small 0 b 1 = true) (hn : Builtin.Range.rangeSize 0 b 1 = n) (h64 : n < 64) (hlen : n <= 2 ^ 24)
    (K : ∀ vs : List Value,ItemsOf (fun i v => ∃ t,v = .int (0 + (i : Int) * 1) t) vs.toArray n -> ∀ h' t' a (P : PySem.Fin -> Shared -> Prop),(∀ b o,h.get? b = some o -> h'.get? b = some o) -> h.objs.size <= a -> h'.get? a = some (seqObj "list" vs.toArray 0) ->
      (∀ s'',Q (.ref a) s'' -> P (.done (.ret .none)) s'') -> ∀ E',wpAny (MM w) A.in1.in1 (ksk_tree a (.ref C) false) P E' ⟨h',g,d,t',os⟩) :
    wpAny (MM w) A (call (.builtin "sorted") [.ref r] [(Str.ofString "key", .ref C)]) Q E ⟨h,g,d,t,os⟩ := by
  refine call_function_entry_kw kind_sorted plain_sorted entry_sorted (ksk_s1 _ _) ?_
  unfold Builtin.«sorted»
  refine wpAny_bind (m := checkCount "sorted" 1 1 _) (wpAny_pure ?_)
  refine wpAny_bind (wp_grows (collect_range (A := A.in1) hh hr hsmall hn hlen fun h1 t1 acc keep1 hi sz1 => ?_))
  have hz : acc.toList.length = n := by rw [Array.length_toList]; exact hi.1
  refine wpAny_bind (wpAny_newList ?_ (by rw [sizeLine_eq,hz]; lia))
  have hoL : (h1.push (seqObj "list" acc.toList.toArray 0)).get? h1.objs.size = some (seqObj "list" acc.toList.toArray 0) := Heap.get?_push_size _ rfl
  refine wpAny_bind (wpAny_holding (wpAny_call_entry_kw slot_list_sort ⟨_,hoL,rfl⟩ entry_list_sort ?body (ksk_l1 _ _)))
  case body =>
    rw [ksk_t1]
    refine K acc.toList (by rw [Array.toArray_toList]; exact hi) (h1.push (seqObj "list" acc.toList.toArray 0)) _ h1.objs.size _ (fun b o e => Heap.get?_push_of_some _ (keep1 b o e)) sz1 hoL (fun s'' q => ⟨_,rfl, ?_⟩) _
    exact wpAny_pure ⟨_,rfl,q⟩
section
variable {w : World} {N : Nat} {X : List Addr} {Tb : Heap -> Prop} {Top : Heap -> Prop} {A : Around} {env : Env} {hb : Heap} {C : Heap -> Prop}
variable {Top0 : Heap -> Prop}
theorem KMade.keeps {k : KIn} {tq : Tok} {h h' : Heap} {ns a m : Addr} {hash : Int} {tk2 tk3 : Tok} {hash4 : Int} {tk4 : Tok} (M : KMade k tq h ns a m hash tk2 tk3 hash4 tk4) (kp : ∀ b o,h.get? b = some o -> h'.get? b = some o) : KMade k tq h' ns a m hash tk2 tk3 hash4 tk4 := ⟨kp _ _ M.d,kp _ _ M.c,kp _ _ M.mm⟩
theorem law_s14 (g : GZ N Top) {d : Nat} (hA : AOk A d) (O : EnvOk N hb env) (hs : env.scope = scopeOf (stmtAt 44)) (hd : 14 <= d) (gc : GC N Top Top0) (T0 : TbOk N [] Top0) {cdL : Value} {cL pL : Addr} (nL : LamN N Top cdL ⟨219,46,219,80⟩ qLam cL pL) (hcode : env.code = cdL) (hq : env.qual = Str.ofString "law" ++ ".<locals>.") {ns ws ds : List Int} {rs : List Row} {xl : Int} (hr : rs.length <= 6) (hr4 : 4 <= rs.length) (hds : ds.length <= 8)
    {s : Shared} {Q : Flow -> Shared -> Prop} {E : Value -> Shared -> Prop} (c : Cx N X hb env lawN [some (intsP ns),some (.int xl),some (rowsP rs),some (intsP ws),some (intsP ds),some (intsP (nums rs)),some (statesP ds rs),some (numbersP ds rs),some (intsP (countsL (after ds rs))),none,some (intsP (nums (after ds rs))),some (.int (rs.length : Nat))] s.heap) (t : TbX Top X s.heap)
    (k : ∀ l h' tk,Laid (nums (after ds rs)) rs.length l -> Cx N X hb env lawN [some (intsP ns),some (.int xl),some (rowsP rs),some (intsP ws),some (intsP ds),some (intsP (nums rs)),some (statesP ds rs),some (numbersP ds rs),some (intsP (countsL (after ds rs))),some (intsP l),some (intsP (nums (after ds rs))),some (.int (rs.length : Nat))] h' -> TbX Top0 X h' -> Q .next { s with heap := h',toks := tk }) :
    wpAny (MM w) A (exec (nthS (bodyOf (stmtAt 44)) 14) env) Q E s := by
  have T := TbX.ok g.T X
  have hn : NsOk lawN := ⟨by decide,by decide,by decide⟩
  have hkk := O.kind
  have hL := O.hL
  have T0X := TbX.ok T0 X
  have hfl : (nums (after ds rs)).length = rs.length := by unfold nums; rw [List.length_map,after_length]
  show wpAny (MM w) A (exec (.Assign [.Name _ _] (.Call (.Name _ _) [.Call (.Name _ _) [.Name _ _] [] _] [⟨some _, .Call (.Name _ _) [.Lambda _ _ _ _] [] _, _⟩] _) _) env) Q E s
  have kS : env.kindOf (Str.ofString "sorted") = some .globalImplicit := by rw [Env.kindOf,hs]; decide
  have kC : env.kindOf (Str.ofString "cmp_to_key") = some .globalImplicit := by rw [Env.kindOf,hs]; decide
  have kR : env.kindOf (Str.ofString "range") = some .globalImplicit := by rw [Env.kindOf,hs]; decide
  have kL : env.kindOf (Str.ofString "laid") = some .local := by rw [Env.kindOf,hs]; decide
  refine wpAny_Assign_Name ?_ (swaps_no rfl)
  refine Call_kw ((EV.built (N := N) (C := Cx N X hb env lawN [some (intsP ns),some (.int xl),some (rowsP rs),some (intsP ws),some (intsP ds),some (intsP (nums rs)),some (statesP ds rs),some (numbersP ds rs),some (intsP (countsL (after ds rs))),none,some (intsP (nums (after ds rs))),some (.int (rs.length : Nat))]) hkk O.glob O.bui kS (g.bSorted.x X) (by decide)).run s _ E c t fun v h₁ t₁ n₁ T₁ hv => ?_)
  subst hv
  have c₁ := Cx.stb hL _ _ c n₁
  refine callWith_kw (rest := []) (args_cons (rest := []) ?_ rfl)
  refine Call_ ((EV.built (N := N) (C := Cx N X hb env lawN [some (intsP ns),some (.int xl),some (rowsP rs),some (intsP ws),some (intsP ds),some (intsP (nums rs)),some (statesP ds rs),some (numbersP ds rs),some (intsP (countsL (after ds rs))),none,some (intsP (nums (after ds rs))),some (.int (rs.length : Nat))]) hkk O.glob O.bui kR (g.bRange.x X) (by decide)).run _ _ E c₁ T₁ fun v h₂ t₂ n₂ T₂ hv => ?_)
  subst hv
  have c₂ := Cx.stb hL _ _ c₁ n₂
  have evM : EV w N (TbX Top X) A env (Cx N X hb env lawN [some (intsP ns),some (.int xl),some (rowsP rs),some (intsP ws),some (intsP ds),some (intsP (nums rs)),some (statesP ds rs),some (numbersP ds rs),some (intsP (countsL (after ds rs))),none,some (intsP (nums (after ds rs))),some (.int (rs.length : Nat))]) (.Name (Str.ofString "many") ⟨219,24,219,28⟩) (IsP X (.int (rs.length : Nat))) := by walk_at "m"
  refine callWith_type1 ?_ rfl rfl
  refine args_cons (rest := []) (evM.run _ _ E c₂ T₂ fun v h₃ t₃ n₃ T₃ iM => args_nil ?_) rfl
  obtain ⟨tm,rfl⟩ := iM.int_inv
  have c₃ := Cx.stb hL _ _ c₂ n₃
  refine call_range_1 (args_nil ?_)
  dsimp only
  obtain ⟨r,hrr⟩ : ∃ r : Nat,r = h₃.objs.size := ⟨_,rfl⟩
  rw [<- hrr]
  have n₄ : Nx N h₃ (h₃.push { cls := .type "range",data := .fields #[.int 0 t₃, .int (rs.length : Nat) tm, .int 1 (t₃ + 1)] }) := .push _ _
  have T₄ : TbX Top X (h₃.push { cls := .type "range",data := .fields #[.int 0 t₃, .int (rs.length : Nat) tm, .int 1 (t₃ + 1)] }) := T.push T₃ _
  have ir : (h₃.push { cls := .type "range",data := .fields #[.int 0 t₃, .int (rs.length : Nat) tm, .int 1 (t₃ + 1)] }).get? r = some { cls := .type "range",data := .fields #[.int 0 t₃, .int (rs.length : Nat) tm, .int 1 (t₃ + 1)] } := by rw [hrr]; exact Heap.get?_push_size _ rfl
  generalize h₃.push { cls := .type "range",data := .fields #[.int 0 t₃, .int (rs.length : Nat) tm, .int 1 (t₃ + 1)] } = h₄ at n₄ T₄ ir ⊢
  have c₄ := Cx.stb hL _ _ c₃ n₄
  refine kws_cons (rest := []) ?_
  refine Call_ ((EV.glob (N := N) (C := Cx N X hb env lawN [some (intsP ns),some (.int xl),some (rowsP rs),some (intsP ws),some (intsP ds),some (intsP (nums rs)),some (statesP ds rs),some (numbersP ds rs),some (intsP (countsL (after ds rs))),none,some (intsP (nums (after ds rs))),some (.int (rs.length : Nat))]) hkk O.glob kC (gc.gCmp.x X) (by decide)).run _ _ E c₄ T₄ fun v h₅ t₅ n₅ T₅ hv => ?_)
  subst hv
  have c₅ := Cx.stb hL _ _ c₄ n₅
  obtain ⟨oC,hdC,hoC⟩ := gc.dCmp
  refine callWith_function (o := oC) (fd := cmpFd gc.pmC (.ref gc.c0) gc.docC) (evalArgs_plain ?_)
  refine args_cons (rest := []) (wp_lambda (c := cL) (P := pL) T ?b1 O.glob rfl (Cx.clos c₅ ?b2) T₅ fun f pm c' ctv h₆ t₆ hsz hNf hNc hlt n₆ T₆ hf hrec => args_nil ?b3) rfl
  case b1 => rw [hcode,hq]; exact nL.x X
  case b2 =>
    intro y hy hfr
    have e : y.1 = Str.ofString "digits" := by
      revert y
      decide
    exact ⟨10,by rw [e]; rfl, .inl (by rw [e,Env.kindOf,hs]; decide)⟩
  case b3 =>
    refine ⟨⟨hoC _ T₆.1,hdC⟩, ?_⟩
    have c₆ := Cx.stb hL _ _ c₅ n₆
    obtain ⟨mg,oS,F,G⟩ := gc.bf _ T₆.1
    have hN6 := T.size _ T₆
    show wpAny (MM w) A (call (.ref gc.fCmp) [.ref f]) _ _ _
    refine wp_grows (call_cmp (hoC _ T₆.1) hdC (gc.cCmp _ T₆.1) F G (by have := hA.dp; lia) fun h₇ C cell t₇ kp hcell icell KC TT hz => ?_)
    refine kws_nil ?_
    have neT : ∀ b : Addr,N <= b -> b ≠ gc.tK := fun b hb e => Nat.lt_irrefl _ (Nat.lt_of_lt_of_le gc.tLow (e ▸ hb))
    have n₇ : Nx N h₆ h₇ := ⟨fun b o e hb => by
      by_cases e2 : b = gc.tK
      . subst e2
        have ft := F.t
        rw [ft] at e
        cases e
        rcases hb with hb | hb
        . exact absurd gc.tLow (Nat.not_lt.mpr hb)
        . exact absurd rfl hb
      . exact kp b o e2 e,hz⟩
    have T₇ : TbX Top0 X h₇ := ⟨gc.but _ _ T₆.1 kp hz TT,fun x hx => Nat.lt_of_lt_of_le (T₆.2 x hx) hz⟩
    have c₇ := Cx.stb hL _ _ c₆ n₇
    have hf7 : h₇.get? f = some _ := kp _ _ (neT f hNf) hf
    have ir7 : h₇.get? r = some _ := n₇.kp _ _ (n₆.kp _ _ (n₅.kp _ _ ir (.inr (by intro e; cases e))) (.inr (by intro e; cases e))) (.inr (by intro e; cases e))
    have hrec7 : h₇.CodeRec (.ref c') (env.qual ++ "<lambda>") := by
      obtain ⟨q,oc,vs,tq,e1,e2,e3,e4⟩ := hrec
      cases e1
      exact ⟨_,oc,vs,tq,rfl,kp _ _ (neT _ hNc) e2,e3,e4⟩
    have hN7 : N <= h₇.objs.size := Nat.le_trans hN6 hz
    obtain ⟨kk,tq,nsA,m,hash,tk2,tk3,hash4,tk4,tL,f1,f2,f3,f4,f5,f6,KM,KB,e1,e2, _, _, _, _⟩ := KC
    have TE := TbE.ok (h0 := h₇) T0X hN7
    have LF : ∀ i j : Int,0 <= i -> i < rs.length -> 0 <= j -> j < rs.length -> FNP w N X (TbE (TbX Top0 X) h₇) f 2 (fun _ => True) [.int i, .int j] (.int (keyOf (nums (after ds rs)) i - keyOf (nums (after ds rs)) j)) := fun i j hi0 hi hj0 hj => by
      refine FNP.lam (prm := [Str.ofString "j",Str.ofString "k"]) (fr := [Str.ofString "digits"]) (fv := [intsP (nums (after ds rs))]) (fun h h' kk z tt => ⟨T0X.keep h h' kk z tt.1,fun b o e => kk b o (tt.2.1 b o e),Nat.le_trans tt.2.2 z⟩) (fun h tt => T0X.size h tt.1) (fun h tt => T0X.limit h tt.1) (fun h tt => tt.2.1 _ _ hf7) (fun h tt => hrec7.keeps tt.2.1) rfl rfl (fun vs h => by obtain ⟨a,b,rfl⟩ := of2 h; with_unfolding_all rfl) (by decide) (by decide) (by decide) (by decide) (fun h tt => FrOk.stb h₇ h ?f2 (.of_keep tt.2.1 tt.2.2)) (fun A env hb hA B hsc hcd' hcl => ?f1)
      case f2 =>
        refine Cx.fr c₇ fun i x p hx hp => ?_
        match i with
        | 0 =>
          cases hx; cases hp
          refine ⟨10,rfl,rfl,rfl, .inl (by rw [Env.kindOf,hs]; decide),fun a ha => closeOf_has ha _ _ ?_⟩
          decide
        | i + 1 => cases hx
      case f1 =>
        have hk' := B.kind
        have hL' := B.hL
        have hn' : NsOk [Str.ofString "j",Str.ofString "k",Str.ofString "digits"] := ⟨by decide,by decide,by decide⟩
        show EV w N _ A env (Cx N X _ env [Str.ofString "j",Str.ofString "k",Str.ofString "digits"] [some (.int i),some (.int j),some (intsP (nums (after ds rs)))]) _ _
        refine EV.bin ?g1 (EV.sub (p := intsP (nums (after ds rs))) (q := .int i) ?g2 ?g3 ?g4 (IT.list hi0 (by lia) ?g5) trivial) (EV.sub (p := intsP (nums (after ds rs))) (q := .int j) ?g6 ?g7 ?g8 (IT.list hj0 (by lia) ?g9) trivial) OP.sub
        case g1 => walk_at "m"
        case g2 => walk_at "m"
        case g3 => walk_at "m"
        case g4 => walk_at "m"
        case g6 => walk_at "m"
        case g7 => walk_at "m"
        case g8 => walk_at "m"
        case g5 => rw [List.getElem?_map]; unfold keyOf; rw [List.getD_eq_getElem?_getD,List.getElem?_eq_getElem (by lia)]; rfl
        case g9 => rw [List.getElem?_map]; unfold keyOf; rw [List.getD_eq_getElem?_getD,List.getElem?_eq_getElem (by lia)]; rfl
    have hvl : ∀ vs : List Value,ItemsOf (fun i v => ∃ t,v = .int (0 + (i : Int) * 1) t) vs.toArray rs.length -> vs.length = rs.length ∧ ∀ (i : Nat) v,vs[i]? = some v -> ∃ t,v = .int (i : Int) t := fun vs hi => by
      refine ⟨by have := hi.1; simpa using this,fun i v hv => ?_⟩
      obtain ⟨t,e⟩ := hi.2 i v (by simpa using hv)
      exact ⟨t,by rw [e]; congr 1; lia⟩
    have rfl0 : TbE (TbX Top0 X) h₇ h₇ := ⟨T₇,fun _ _ e => e,Nat.le_refl _⟩
    show wpAny (MM w) A (call (.builtin "sorted") [.ref r] [(Str.ofString "key", .ref C)]) _ _ _
    refine sorted_all (n := rs.length) hA.hd ir7 (range_small _ (by lia)) (rangeSize_nat _) (by lia) (by lia) fun vs hi h₈ t₈ a P kp8 ha8 hl8 hP E' => ?_
    obtain ⟨hlen,hat⟩ := hvl vs hi
    have hmem : ∀ v ∈ vs, ∃ (i : Nat) (t : Tok),i < rs.length ∧ v = .int (i : Int) t := fun v hv => by
      obtain ⟨i,hi⟩ := List.mem_iff_getElem?.mp hv
      obtain ⟨t,e⟩ := hat i v hi
      exact ⟨i,t,by rw [<- hlen]; exact (List.getElem?_eq_some_iff.mp hi).1,e⟩
    have z8 : h₇.objs.size <= h₈.objs.size := by
      exact Nat.le_of_lt (Nat.lt_of_le_of_lt ha8 (Heap.lt_size hl8))
    have T₈ : TbE (TbX Top0 X) h₇ h₈ := TE.keep _ _ kp8 z8 rfl0
    refine sort_K (N := h₇.objs.size) (X := X) (Tb := TbE (TbX Top0 X) h₇) (dd := 2) (cell := cell) (f1 := f1) (f2 := f2) (l := f) (kfv := fun v => keyOf (nums (after ds rs)) (iv v)) (ixv := fun v => (iv v).toNat) TE hl8 ha8 (KM.keeps kp8) e1 (KB.k1.mono kp8) e2 T₈ ?s1 (Nat.lt_of_lt_of_le gc.sLow (Nat.le_trans hN7 z8)) (fun h tt => KB.k2.mono tt.2.1) (fun h tt => icell.keeps tt.2.1) (fun h tt => tt.2.1 _ _ hf7) rfl ⟨hA.hd, ?s2, ?s3⟩ (by lia) (by lia) ?s4 ?s5 ?s6 fun h₉ t₉ keys xs zs cc hks hp hF hxs kp9 z9 T₉ hl9 => ?s7
    case s1 => exact Nat.ne_of_gt (Nat.lt_of_lt_of_le (Nat.lt_of_lt_of_le gc.sLow hN7) ha8)
    case s2 => have := hA.dp; show A.depth + 3 < 700; lia
    case s3 => have := hA.un; show A.units + 1 + 1 + 100 * 3 < 5000; lia
    case s4 =>
      intro v hv
      obtain ⟨i,t, _,rfl⟩ := hmem v hv
      trivial
    case s5 =>
      intro i v hv
      obtain ⟨t,rfl⟩ := hat i v hv
      exact Int.toNat_natCast i
    case s6 =>
      intro v1 hv1 v2 hv2 A' E'' Q' h t hA' tt kq
      obtain ⟨i,ti,hi',rfl⟩ := hmem v1 hv1
      obtain ⟨j,tj,hj',rfl⟩ := hmem v2 hv2
      refine (LF i j (by lia) (by lia) (by lia) (by lia) A' hA' [_, _]).run ⟨h,s.gens,s.drawn,t,s.os⟩ _ _ ⟨.cons (.int _ _) (.cons (.int _ _) .nil),trivial⟩ tt fun v h' tk n t' iv' => ?_
      obtain ⟨u,rfl⟩ := iv'.int_inv
      exact kq u h' tk (n.lo hN7) t'
    case s7 =>
      have hi0 : vs.map iv = (List.range vs.length).map fun (i : Nat) => (i : Int) := by
        apply List.ext_getElem?
        intro i
        rw [List.getElem?_map,List.getElem?_map]
        cases hq : vs[i]? with
        | none => rw [List.getElem?_eq_none (by rw [List.length_range]; exact List.getElem?_eq_none_iff.mp hq)]; rfl
        | some v =>
          obtain ⟨t,rfl⟩ := hat i v hq
          rw [List.getElem?_range (List.getElem?_eq_some_iff.mp hq).1]
          rfl
      have hlaid := laid_of (ns := nums (after ds rs)) hks hi0 hp hF
      rw [hlen] at hlaid
      have hzm : ∀ v ∈ zs.toList.map (·.2), ∃ (i : Int) (t : Tok),v = .int i t := fun v hv => by
        have h1 := ((Array.perm_iff_toList_perm.mp hp).map (·.2)).mem_iff.mp hv
        rw [zip_snd hks] at h1
        obtain ⟨i,t, _,e⟩ := hmem v h1
        exact ⟨_,t,e⟩
      have n₉ : Nx N h₇ h₉ := .of_keep T₉.2.1 T₉.2.2
      have c₉ := Cx.stb hL _ _ c₇ n₉
      refine hP _ ?_
      have haX : a ∉ X := fun m => Nat.lt_irrefl _ (Nat.lt_of_lt_of_le (T₇.2 a m) ha8)
      have hxl : xs = (zs.toList.map (·.2)).toArray := by rw [hxs]; apply Array.ext'; simp
      have iL : Is X h₉ (.ref a) (intsP ((zs.toList.map (·.2)).map iv)) := .list haX ⟨cc,by rw [<- hxl]; exact hl9⟩ (laid_is hzm)
      exact store' T0X O.toBlkOk (i := 9) (by walk_at "m") hn.nodup (.inl kL) c₉ T₉.1 iL fun h' tk fx t' c' => k _ h' tk hlaid c' t'
end
end
section
open PySem.AutoSeq1 (wpAny_loadPart')
open PySem.MeetsSeq3 (plain_eq_loop entry_eq_loop)
noncomputable abbrev pairObj (p i : Int) (t u : Tok) (n : Nat) : Obj := { cls := .type "list",data := .seq #[.int p t, .int i u] n }
theorem rich_lt_int {w : World} {prog : Program} {A : Around} {E : Value -> Shared -> Prop} {s : Shared} {a b : Int} {t u : Tok} {Q : Value -> Shared -> Prop} (h : Q (.bool (decide (a < b))) s) : wpAny (model prog w) A (richCompare .Lt (.int a t) (.int b u)) Q E s := PyProof.Rows.lt_int h
section
variable {l b : Addr} {xs ys : Array Value} {p i q j : Int} {t1 t2 t3 t4 : Tok} {n n2 : Nat}
theorem lt_loop2 (h1 : xs = #[.int p t1, .int i t2]) (h2 : ys = #[.int q t3, .int j t4]) : PySem.Meets (Builtin.«list.__eq__.loop» ⟨[.ref l, .ref b,rawInt 2,rawInt 0], []⟩)
    (fun A R s => s.heap.get? l = some { cls := .type "list",data := .seq xs n } ∧ s.heap.get? b = some { cls := .type "list",data := .seq ys n2 } ∧ R (.ok (.ret (.bool false))) s) := by
  intro prog w A R s h
  obtain ⟨hp,g,d,tk,os⟩ := s; obtain ⟨hl,hb,h⟩ := h
  wp_walk using wpAny_loadPart' hl,wpAny_loadPart' hb
  have e1 : xs[(2 : Int).toNat]? = none := by rw [h1]; rfl
  have e2 : ys[(2 : Int).toNat]? = none := by rw [h2]; rfl
  rw [e1,e2]
  wp_walk using wpAny_loadPart' hl,wpAny_loadPart' hb
  subst h1 h2
  exact h
theorem lt_loop1 (h1 : xs = #[.int p t1, .int i t2]) (h2 : ys = #[.int q t3, .int j t4]) : PySem.Meets (Builtin.«list.__eq__.loop» ⟨[.ref l, .ref b,rawInt 1,rawInt 0], []⟩)
    (fun A R s => s.heap.get? l = some { cls := .type "list",data := .seq xs n } ∧ s.heap.get? b = some { cls := .type "list",data := .seq ys n2 } ∧ R (.ok (.ret (.bool (decide (i < j))))) s) := by
  intro prog w A R s h
  obtain ⟨hp,g,d,tk,os⟩ := s; obtain ⟨hl,hb,h⟩ := h
  wp_walk using wpAny_loadPart' hl,wpAny_loadPart' hb
  have e1 : xs[(1 : Int).toNat]? = some (.int i t2) := by rw [h1]; rfl
  have e2 : ys[(1 : Int).toNat]? = some (.int j t4) := by rw [h2]; rfl
  rw [e1,e2]
  refine wpAny_bind (wpAny_eqBool_int ?_)
  by_cases e : i = j
  . subst e
    rw [beq_self_eq_true]
    wp_walk
    exact ⟨plainId_quiet plain_eq_loop _,codeAny_builtin entry_eq_loop (by
      rw [Around.under_plainId plain_eq_loop _]
      exact lt_loop2 h1 h2 prog w A R _ ⟨hl,hb,by simpa using h⟩)⟩
  . have e' : (i == j) = false := by simpa using e
    rw [e']
    wp_walk using wpAny_loadPart' hl,wpAny_loadPart' hb
    rw [e1,e2]
    refine wpAny_bind (rich_lt_int ?_)
    exact wpAny_pure h
theorem lt_loop0 (h1 : xs = #[.int p t1, .int i t2]) (h2 : ys = #[.int q t3, .int j t4]) : PySem.Meets (Builtin.«list.__eq__.loop» ⟨[.ref l, .ref b,rawInt 0,rawInt 0], []⟩)
    (fun A R s => s.heap.get? l = some { cls := .type "list",data := .seq xs n } ∧ s.heap.get? b = some { cls := .type "list",data := .seq ys n2 } ∧ R (.ok (.ret (.bool (decide (p < q ∨ (p = q ∧ i < j)))))) s) := by
  intro prog w A R s h
  obtain ⟨hp,g,d,tk,os⟩ := s; obtain ⟨hl,hb,h⟩ := h
  wp_walk using wpAny_loadPart' hl,wpAny_loadPart' hb
  have e1 : xs[(0 : Int).toNat]? = some (.int p t1) := by rw [h1]; rfl
  have e2 : ys[(0 : Int).toNat]? = some (.int q t3) := by rw [h2]; rfl
  rw [e1,e2]
  refine wpAny_bind (wpAny_eqBool_int ?_)
  by_cases e : p = q
  . subst e
    rw [beq_self_eq_true]
    wp_walk
    exact ⟨plainId_quiet plain_eq_loop _,codeAny_builtin entry_eq_loop (by
      rw [Around.under_plainId plain_eq_loop _]
      exact lt_loop1 h1 h2 prog w A R _ ⟨hl,hb,by simpa using h⟩)⟩
  . have e' : (p == q) = false := by simpa using e
    rw [e']
    wp_walk using wpAny_loadPart' hl,wpAny_loadPart' hb
    rw [e1,e2]
    refine wpAny_bind (rich_lt_int ?_)
    refine wpAny_pure ?_
    have e2 : decide (p < q ∨ (p = q ∧ i < j)) = decide (p < q) := by simp [e]
    rw [e2] at h
    exact h
theorem list_lt (h1 : xs = #[.int p t1, .int i t2]) (h2 : ys = #[.int q t3, .int j t4]) : PySem.Meets (Builtin.«list.__lt__» ⟨[.ref l, .ref b], []⟩)
    (fun A R s => s.heap.get? l = some { cls := .type "list",data := .seq xs n } ∧ s.heap.get? b = some { cls := .type "list",data := .seq ys n2 } ∧ R (.ok (.ret (.bool (decide (p < q ∨ (p = q ∧ i < j)))))) s) := by
  intro prog w A R s h
  obtain ⟨hp,g,d,tk,os⟩ := s; obtain ⟨hl,hb,h⟩ := h
  have f3 := PySem.AutoSeq1.sub_list_list
  wp_walk using wpAny_loadPart' hl,wpAny_loadPart' hb
  exact ⟨plainId_quiet plain_eq_loop _,codeAny_builtin entry_eq_loop (by
    rw [Around.under_plainId plain_eq_loop _]
    exact lt_loop0 h1 h2 prog w A R _ ⟨hl,hb,h⟩)⟩
end
section
variable {w : World} {A : Around} {E : Value -> Shared -> Prop} {s : Shared}
theorem oneLt_pair {x y : Addr} {p i q j : Int} {t1 t2 t3 t4 : Tok} {n n2 : Nat} {Q : Bool -> Shared -> Prop} (hu : A.units < 5000) (hl : s.heap.get? x = some (pairObj p i t1 t2 n)) (hb : s.heap.get? y = some (pairObj q j t3 t4 n2))
    (h : Q (decide (p < q ∨ (p = q ∧ i < j))) s) : wpAny (MM w) A (oneLt' true (.ref x) (.ref y)) Q E s := by
  rw [oneLt'_eq]
  simp only [if_true]
  refine wpAny_bind (wpAny_cRoomFor (Nat.lt_of_lt_of_le hu (by decide)) ?_)
  have hT : s.TypeIs (.ref x) "list" := ⟨_,hl,rfl⟩
  refine wpAny_bind (wpAny_callSpecialIfBound?_slot hT F.slot_list_lt (call_meets F.slot_list_lt hT F.entry_list_lt (F.args_list_lt_2 _ _) (list_lt rfl rfl) ⟨hl,hb, ?_⟩))
  exact wpAny_truthy_bool h
theorem kind_L {keys : Array Value} {Q : SortKind -> Shared -> Prop} (h2 : 2 <= keys.size) (hk : ∀ v ∈ keys.toList, ∃ x o,v = .ref x ∧ s.heap.get? x = some o ∧ o.cls = .type "list" ∧ ∃ xs n,o.data = .seq xs n) (q : Q oneType' s) : wpAny (MM w) A (keyKind' keys) Q E s := by
  rw [keyKind'_eq]
  obtain ⟨l⟩ := keys
  obtain ⟨a,b,l,rfl⟩ : ∃ a b l',l = a :: b :: l' := by
    match l,h2 with
    | a :: b :: l', _ => exact ⟨a,b,l',rfl⟩
  have ht : ∀ v ∈ (a :: b :: l), ∀ {Q' : Value -> Shared -> Prop},Q' (.type "list") s -> wpAny (MM w) A (typeOf v) Q' E s := fun v hv Q' q' => by
    obtain ⟨x,o,rfl,ho,hc,xs,n,hd⟩ := hk v hv
    obtain ⟨hh,g,d,t,os⟩ := s
    obtain ⟨oc,od,dt,sl⟩ := o
    have hc' : oc = .type "list" := hc
    have hd' : dt = .seq xs n := hd
    subst hc' hd'
    have lk : LK w hh (typeOf (.ref x)) (.type "list") := (Looks.ld ho).andThen .now
    exact Looks.at lk q'
  have hf : ∀ v ∈ (a :: b :: l), ∀ {Q' : Option Value -> Shared -> Prop},Q' none s -> wpAny (MM w) A (firstOfTuple' v) Q' E s := fun v hv Q' q' => by
    show wpAny _ _ (typeOf v >>= _) _ _ _
    refine wpAny_bind (ht v hv ?_)
    exact wpAny_pure q'
  refine wpAny_bind (mapM_sameA hf ?_)
  rw [if_neg (by simp),if_neg (by simp)]
  rw [oneTypeOnly'_eq]
  refine wpAny_bind (wpAny_bind (mapM_sameA ht ?_))
  have h0 : ((List.map (fun _ => Value.type "list") (a :: b :: l)).toArray)[0]? = some (Value.type "list") := by simp
  have hall : ((List.map (fun _ => Value.type "list") (a :: b :: l)).toArray.all fun x => x == Value.type "list") = true := by
    simp only [List.all_toArray,List.all_map,List.all_eq_true]
    intro _ _
    simp
  change wpAny _ _ (match (List.map (fun _ => Value.type "list") (a :: b :: l)).toArray[0]? with | some t => pure (if ((List.map (fun _ => Value.type "list") (a :: b :: l)).toArray.all fun x => x == t) = true then some t else none) | none => pure none) _ _ _
  rw [h0]
  dsimp only
  rw [if_pos hall]
  exact wpAny_pure (wpAny_pure q)
end
end
section
set_option autoImplicit false
noncomputable def fstI (h : Heap) : Value -> Int
  | .ref x => (match h.get? x with
    | some ⟨_, _, .seq xs _, _⟩ => (match (xs[0]? : Option Value) with | some (.int p _) => p | _ => 0)
    | _ => 0)
  | _ => 0
noncomputable def sndI (h : Heap) : Value -> Int
  | .ref x => (match h.get? x with
    | some ⟨_, _, .seq xs _, _⟩ => (match (xs[1]? : Option Value) with | some (.int p _) => p | _ => 0)
    | _ => 0)
  | _ => 0
theorem fstI_of {h : Heap} {x : Addr} {p i : Int} {t u : Tok} {n : Nat} (e : h.get? x = some (pairObj p i t u n)) : fstI h (.ref x) = p := by
  unfold fstI; simp [e]
theorem sndI_of {h : Heap} {x : Addr} {p i : Int} {t u : Tok} {n : Nat} (e : h.get? x = some (pairObj p i t u n)) : sndI h (.ref x) = i := by
  unfold sndI; simp [e]
noncomputable def PairAt (h : Heap) (v : Value) : Prop := ∃ x p i t u n,v = .ref x ∧ h.get? x = some (pairObj p i t u n) ∧ 0 <= i ∧ i < 64
section
variable {w : World} {A : Around} {E : Value -> Shared -> Prop}
theorem sort_L {g : Array GenState} {d : Drawn} {os : OsState} {h : Heap} {t : Nat} {a : Addr} {vs : List Value} {n : Nat} {P : PySem.Fin -> Shared -> Prop} (hu : A.units < 5000) (ho : h.get? a = some (seqObj "list" vs.toArray n)) (h2 : 2 <= vs.length) (h64 : vs.length < 64)
    (hv : ∀ v ∈ vs,PairAt h v ∧ v ≠ .ref a) (hix : ∀ (i : Nat) v,vs[i]? = some v -> sndI h v = (i : Int))
    (K : ∀ h' (zs : Array (Value × Value)) c,zs.Perm (vs.toArray.zip vs.toArray) -> Fine ⟨fun p => fstI h p.2 * 64 + sndI h p.2,fun p => (sndI h p.2).toNat⟩ zs vs.length ->
      (∀ b o,b ≠ a -> h.get? b = some o -> h'.get? b = some o) -> h.objs.size <= h'.objs.size -> h'.get? a = some (seqObj "list" (zs.map (·.2)) c) -> P (.done (.ret .none)) ⟨h',g,d,t,os⟩) :
    wpAny (MM w) A (Builtin.«list.sort» ⟨[.ref a], []⟩) P E ⟨h,g,d,t,os⟩ := by
  have ha : a < h.objs.size := Heap.lt_size ho
  have s1 := Heap.SameBut.update h a (Obj.mapSeq fun _ => (#[] : Array Value))
  obtain ⟨e1,ho1⟩ : ∃ e1,(h.update a (Obj.mapSeq fun _ => (#[] : Array Value))).get? a = some (seqObj "list" #[] e1) := ⟨_,get?_update_seq ho fun _ => #[]⟩
  rw [list_sort_plain]
  refine wpAny_bind (listItems_at ho rfl ?_)
  refine wpAny_bind (listUpdate_at ho rfl ?_ (by rw [List.size_toArray,sizeLine_eq]; lia) (Nat.zero_le _))
  refine wpAny_bind (seqEpoch_at ho1 rfl ?_)
  refine wpAny_bind (wpAny_newTuple ?_ (by show vs.length <= _; rw [sizeLine_eq]; lia))
  refine wpAny_bind (wpAny_newList ?_ (Nat.zero_le _))
  refine wpAny_holding ?_
  obtain ⟨h1,hh1⟩ : ∃ h1,h1 = ((h.update a (Obj.mapSeq fun _ => (#[] : Array Value))).push (seqObj "tuple" vs.toArray 0)).push (seqObj "list" #[] 0) := ⟨_,rfl⟩
  show wpAny (MM w) A _ P E ⟨((h.update a (Obj.mapSeq fun _ => (#[] : Array Value))).push (seqObj "tuple" vs.toArray 0)).push (seqObj "list" #[] 0),g,d,t,os⟩
  rw [<- hh1]
  have kp1 : ∀ b o,b ≠ a -> h.get? b = some o -> h1.get? b = some o := fun b o hb e => by rw [hh1]; exact Heap.get?_push_of_some _ (Heap.get?_push_of_some _ ((s1.2 b hb).trans e))
  have na1 : h1.get? a = some (seqObj "list" #[] e1) := by rw [hh1]; exact Heap.get?_push_of_some _ (Heap.get?_push_of_some _ ho1)
  have z1 : h.objs.size <= h1.objs.size := by rw [hh1,Heap.size_push,Heap.size_push,Heap.size_update]; lia
  clear hh1
  have hn2 : ¬ vs.toArray.size < 2 := by rw [List.size_toArray]; lia
  dsimp only
  rw [if_neg hn2,if_neg hn2]
  have pv : ∀ v ∈ vs, ∃ x p i t u n,v = .ref x ∧ x ≠ a ∧ h.get? x = some (pairObj p i t u n) ∧ h1.get? x = some (pairObj p i t u n) ∧ 0 <= i ∧ i < 64 := fun v hm => by
    obtain ⟨⟨x,p,i,t,u,n,rfl,e,l1,l2⟩,hne⟩ := hv v hm
    have hxa : x ≠ a := fun e' => hne (by rw [e'])
    exact ⟨x,p,i,t,u,n,rfl,hxa,e,kp1 _ _ hxa e,l1,l2⟩
  refine wpAny_bind (kind_L (by rw [List.size_toArray]; exact h2) (fun v hm => ?_) ?_)
  . obtain ⟨x,p,i,t,u,n,rfl, _, _,e, _⟩ := pv v (by simpa using hm)
    exact ⟨x, _,rfl,e,rfl, _, _,rfl⟩
  have hzs : (vs.toArray.zip vs.toArray).size = vs.length := by rw [Array.size_zip,List.size_toArray,Nat.min_self]
  have hmem : ∀ x ∈ (vs.toArray.zip vs.toArray).toList,x.1 = x.2 ∧ x.2 ∈ vs := fun x hx => by
    rw [Array.toList_zip] at hx
    obtain ⟨i,hi⟩ := List.mem_iff_getElem?.mp hx
    rw [List.getElem?_zip_eq_some] at hi
    have e := hi.1.symm.trans hi.2
    exact ⟨Option.some.inj e,List.mem_of_getElem? hi.2⟩
  have hent : ∀ i v,vs[i]? = some v -> ent (vs.toArray.zip vs.toArray) i = (v,v) := fun i v e => by
    unfold ent
    have : (vs.toArray.zip vs.toArray)[i]? = some (v,v) := by
      rw [<- Array.getElem?_toList,Array.toList_zip,List.getElem?_zip_eq_some]
      exact ⟨e,e⟩
    rw [this]
    rfl
  have hO : LtOk w A E (fun s' => s' = ⟨h1,g,d,t,os⟩) ⟨fun p => fstI h p.2 * 64 + sndI h p.2,fun p => (sndI h p.2).toNat⟩ (vs.toArray.zip vs.toArray) := by
    intro x hx y hy s hs E'
    subst hs
    obtain ⟨ex,mx⟩ := hmem x hx
    obtain ⟨ey,my⟩ := hmem y hy
    obtain ⟨x1,p,i,t1,t2,n1,e1, _,f1,f1',a1,a2⟩ := pv _ mx
    obtain ⟨y1,q,j,t3,t4,n2,e2, _,f2,f2',b1,b2⟩ := pv _ my
    rw [ex,ey,e1,e2]
    refine oneLt_pair hu f1' f2' ⟨rfl, ?_⟩
    show _ = decide (fstI h x.2 * 64 + sndI h x.2 < fstI h y.2 * 64 + sndI h y.2)
    rw [e1,e2,fstI_of f1,sndI_of f1,fstI_of f2,sndI_of f2]
    apply decide_eq_decide.mpr
    lia
  have h0 : Fine ⟨fun p => fstI h p.2 * 64 + sndI h p.2,fun p => (sndI h p.2).toNat⟩ (vs.toArray.zip vs.toArray) 1 := by
    refine ⟨fun i j h1 h2 => absurd h2 (by lia),fun i hi => ?_,fun i _ hi => ?_⟩
    . have hi0 : i = 0 := by lia
      subst hi0
      have e0 := List.getElem?_eq_getElem (l := vs) (i := 0) (by lia)
      show (sndI h (ent _ 0).2).toNat < 1
      rw [hent 0 _ e0,hix 0 _ e0]
      decide
    . rw [hzs] at hi
      have e0 := List.getElem?_eq_getElem (l := vs) (i := i) hi
      show (sndI h (ent _ i).2).toNat = i
      rw [hent i _ e0,hix i _ e0]
      exact Int.toNat_natCast i
  refine wpAny_bind (wpAny_mono (wpJ_sortRuns (a₀ := vs.toArray.zip vs.toArray) (J := fun s' => s' = ⟨h1,g,d,t,os⟩) (st := SortSt.mk' oneType' (vs.toArray.zip vs.toArray) #[] 7 none)
      (Q := fun _ st' => (arrOf st').Perm (vs.toArray.zip vs.toArray) ∧ failedOf st' = none ∧ Fine ⟨fun p => fstI h p.2 * 64 + sndI h p.2,fun p => (sndI h p.2).toNat⟩ (arrOf st') (vs.toArray.zip vs.toArray).size)
      hO ⟨Array.Perm.refl _,rfl,rfl,rfl⟩ h0 (by rw [hzs]; exact h2) (by rw [hzs]; exact h64) (fun st' a1 a2 a3 => ⟨a1,a2,a3⟩) _ rfl) ?_ fun _ _ e => e)
  rintro ⟨⟨⟩,st⟩ s' ⟨rfl,hp,hf,hfine⟩
  dsimp only at hp hf hfine ⊢
  rw [hzs] at hfine
  have hsz2 : (arrOf st).size = vs.length := by rw [hp.size_eq,hzs]
  obtain ⟨out,hos⟩ : ∃ out : Array Value,out = (arrOf st).map (·.2) := ⟨_,rfl⟩
  have hout : out.size = vs.length := by rw [hos,Array.size_map]; exact hsz2
  have s2 := Heap.SameBut.update h1 a (Obj.mapSeq fun _ => out)
  obtain ⟨c2,hc2⟩ : ∃ c2,(h1.update a (Obj.mapSeq fun _ => out)).get? a = some (seqObj "list" out c2) := ⟨_,get?_update_seq na1 fun _ => out⟩
  simp only [<- hos,hf]
  refine wpAny_bind (seqEpoch_at na1 rfl ?_)
  refine wpAny_bind (listUpdate_at na1 rfl ?_ (Nat.zero_le _) (Nat.le_trans (Nat.le_of_eq hout) (by rw [sizeLine_eq]; lia)))
  simp only [bne_self_eq_false,Bool.false_eq_true,if_false]
  refine wpAny_pure ?_
  exact K _ (arrOf st) c2 hp hfine (fun b o hb e => (s2.2 b hb).trans (kp1 b o hb e)) (Nat.le_trans z1 (Nat.le_of_eq s2.1.symm)) (by rw [hc2,hos])
theorem sorted_L {g : Array GenState} {d : Drawn} {os : OsState} {h : Heap} {t : Nat} {l : Addr} {vs : List Value} {Q : Value -> Shared -> Prop} (hu : A.units < 4900) (hl : h.IsList l vs.toArray) (h2 : 2 <= vs.length) (h64 : vs.length < 64)
    (hv : ∀ v ∈ vs,PairAt h v) (hix : ∀ (i : Nat) v,vs[i]? = some v -> sndI h v = (i : Int))
    (K : ∀ a h' (zs : Array (Value × Value)) c,zs.Perm (vs.toArray.zip vs.toArray) -> Fine ⟨fun p => fstI h p.2 * 64 + sndI h p.2,fun p => (sndI h p.2).toNat⟩ zs vs.length ->
      (∀ b o,h.get? b = some o -> h'.get? b = some o) -> h.objs.size <= a -> h.objs.size <= h'.objs.size -> h'.get? a = some (seqObj "list" (zs.map (·.2)) c) -> Q (.ref a) ⟨h',g,d,t,os⟩) :
    wpAny (MM w) A (call (.builtin "sorted") [.ref l]) Q E ⟨h,g,d,t,os⟩ := by
  refine Calls.call_function_entry kind_sorted plain_sorted entry_sorted (args_sorted1 _) ?_
  unfold Builtin.«sorted»
  refine wpAny_bind (m := checkCount "sorted" 1 1 _) (wpAny_pure ?_)
  refine wpAny_bind (collect_list hl ?_ (by rw [sizeLine_eq]; lia))
  refine wpAny_bind (wpAny_newList ?_ (by rw [sizeLine_eq]; lia))
  have keep1 : ∀ b o,h.get? b = some o -> ((h.push (seqObj "list" #[] 0)).update h.objs.size (Obj.mapSeq (· ++ vs.toArray))).get? b = some o := fun b o q => by
    have hlt : b < h.objs.size := Heap.lt_size q
    rw [Heap.get?_update_ne _ _ _ _ (Nat.ne_of_lt hlt)]
    exact Heap.get?_push_of_some _ q
  have z1 : h.objs.size <= ((h.push (seqObj "list" #[] 0)).update h.objs.size (Obj.mapSeq (· ++ vs.toArray))).objs.size := by rw [Heap.size_update,Heap.size_push]; lia
  dsimp only
  generalize (h.push (seqObj "list" #[] 0)).update h.objs.size (Obj.mapSeq (· ++ vs.toArray)) = h1 at keep1 z1 ⊢
  have hoL : (h1.push (seqObj "list" vs.toArray 0)).get? h1.objs.size = some (seqObj "list" vs.toArray 0) := Heap.get?_push_size _ rfl
  have keep2 : ∀ b o,h.get? b = some o -> (h1.push (seqObj "list" vs.toArray 0)).get? b = some o := fun b o e => Heap.get?_push_of_some _ (keep1 b o e)
  have z2 : h.objs.size <= (h1.push (seqObj "list" vs.toArray 0)).objs.size := by rw [Heap.size_push]; lia
  have hfs : ∀ v ∈ vs,fstI (h1.push (seqObj "list" vs.toArray 0)) v = fstI h v ∧ sndI (h1.push (seqObj "list" vs.toArray 0)) v = sndI h v ∧ PairAt (h1.push (seqObj "list" vs.toArray 0)) v ∧ v ≠ .ref h1.objs.size := fun v hm => by
    obtain ⟨x,p,i,t,u,n,rfl,e,l1,l2⟩ := hv v hm
    have e2 := keep2 _ _ e
    exact ⟨by rw [fstI_of e,fstI_of e2],by rw [sndI_of e,sndI_of e2],⟨x,p,i,t,u,n,rfl,e2,l1,l2⟩,fun c => by
      have hlt := Heap.lt_size e
      cases c
      exact absurd hlt (Nat.not_lt.mpr z1)⟩
  refine wpAny_bind (wpAny_holding (wpAny_call_entry slot_list_sort ⟨_,hoL,rfl⟩ entry_list_sort ?body (args_list_sort _)))
  case body =>
    refine sort_L (by show A.units + 1 + 1 < 5000; lia) hoL h2 h64 (fun v hm => ⟨(hfs v hm).2.2.1,(hfs v hm).2.2.2⟩) (fun i v e => by rw [(hfs v (List.mem_of_getElem? e)).2.1]; exact hix i v e) fun h' zs c hp hF kp z hc => ⟨_,rfl, ?_⟩
    refine wpAny_pure ⟨_,rfl, ?_⟩
    refine K h1.objs.size h' zs c hp ?_ (fun b o e => kp b o (fun e' => ?_) (keep2 b o e)) z1 (Nat.le_trans z2 z) hc
    . have hz : zs.toList.length = vs.length := by
        have h1 := (Array.perm_iff_toList_perm.mp hp).length_eq
        rw [h1,Array.toList_zip,List.length_zip,Nat.min_self]
      have em : ∀ i,i < vs.length -> (ent zs i).2 ∈ vs := fun i hi => by
        have hi' : i < zs.toList.length := by rw [hz]; exact hi
        have hm : zs.toList[i] ∈ (vs.toArray.zip vs.toArray).toList := (Array.perm_iff_toList_perm.mp hp).mem_iff.mp (List.getElem_mem hi')
        have e : ent zs i = zs.toList[i] := by
          unfold ent
          rw [<- Array.getElem?_toList,List.getElem?_eq_getElem hi']
          rfl
        rw [e]
        rw [Array.toList_zip] at hm
        exact (List.of_mem_zip hm).2
      refine ⟨fun i j h1 h2 => ?_,fun i hi => ?_,fun i hi hi2 => ?_⟩
      . have := hF.ord i j h1 h2
        unfold Ord.R at this ⊢
        have a1 := hfs _ (em i (by lia))
        have a2 := hfs _ (em j h2)
        dsimp only at this ⊢
        rw [a1.1,a1.2.1,a2.1,a2.2.1] at this
        exact this
      . have := hF.pre i hi
        have a1 := hfs _ (em i hi)
        dsimp only at this ⊢
        rw [a1.2.1] at this
        exact this
      . have : zs.size = vs.length := by rw [<- hz,Array.length_toList]
        lia
    . subst e'
      exact absurd (Heap.lt_size e) (Nat.not_lt.mpr z1)
end
end
section
set_option autoImplicit false
noncomputable def pairPV (ns : List Int) (i : Int) : PV := .list [.int (keyOf ns i), .int i]
theorem kepts {X : List Addr} {h h' : Heap} {v : Value} {p : PV} (k : ∀ b o,h.get? b = some o -> h'.get? b = some o) (z : h.objs.size <= h'.objs.size) (i : Is X h v p) : Is X h' v p := i.nx (N := 0) (.of_keep k z)
section
variable {w : World} {N : Nat} {X : List Addr} {Tb : Heap -> Prop} {Top : Heap -> Prop} {A : Around} {env : Env} {hb : Heap} {C : Heap -> Prop}
theorem key_lt {a b x y : Int} (h : a * 64 + x < b * 64 + y ∨ a * 64 + x = b * 64 + y ∧ x.toNat < y.toNat) (hx : 0 <= x ∧ x < 64) (hy : 0 <= y ∧ y < 64) : a < b ∨ a = b ∧ x.toNat < y.toNat := by
  have h0 : a * 64 + x <= b * 64 + y := h.elim Int.le_of_lt fun h => Int.le_of_eq h.1
  rcases Int.lt_trichotomy a b with h1 | h1 | h1
  . exact .inl h1
  . subst h1
    refine .inr ⟨rfl,h.elim (fun h => ?_) (·.2)⟩
    have := Int.lt_of_add_lt_add_left h
    exact (Int.toNat_lt_toNat (Int.lt_of_le_of_lt hx.1 this)).mpr this
  . exfalso
    obtain ⟨hx0, _⟩ := hx
    obtain ⟨_,hy1⟩ := hy
    clear h
    omega
theorem EV.sortedL (T : TbOk N X Tb) {ns : List Int} {n : Nat} {l0 : List Int} (hl0 : Laid ns n l0) (h2 : 2 <= n) (h64 : n < 64) (hu : A.units < 4900) (hC : Stb N C) (hk : env.scope.kind = .function) (hgl : env.globals = mainGlobals) (hbl : env.builtins = builtinsNs) (hx : env.kindOf (Str.ofString "sorted") = some .globalImplicit)
    (G : BuiltIs Tb (Str.ofString "sorted") (.builtin "sorted")) {e : Expr} {px pos : Pos} (h : EV w N Tb A env C e (IsP X (.list ((List.range n).map fun (i : Nat) => pairPV ns (i : Int))))) (he : starEach [e] env = (false,eval e env) :: starEach [] env) :
    EV w N Tb A env C (.Call (.Name (Str.ofString "sorted") px) [e] [] pos) (IsP X (.list (l0.map (pairPV ns)))) := by
  constructor
  intro s Q E c t k
  refine Call_ ((EV.built (N := N) (C := C) hk hgl hbl hx G (by decide)).run s _ E c t fun v h₁ t₁ n₁ T₁ hv => ?_)
  subst hv
  refine PyProof.Rows.callWith_builtin1 ?_ he rfl
  refine args_cons (rest := []) (h.run _ _ E (hC _ _ c n₁) T₁ fun v h₂ t₂ n₂ T₂ i₂ => args_nil ?_) he
  obtain ⟨a,vs,rfl,hxa,hl,hL⟩ := i₂.list_inv
  have hlen : vs.length = n := by rw [hL.length]; simp
  have hat : ∀ (i : Nat) v,vs[i]? = some v -> ∃ x p t u m,v = .ref x ∧ x ∉ X ∧ h₂.get? x = some (pairObj p (i : Int) t u m) ∧ p = keyOf ns (i : Int) ∧ i < n := fun i v e => by
    obtain ⟨q,hq,iv⟩ := hL.get e
    have hi : i < n := by rw [<- hlen]; exact (List.getElem?_eq_some_iff.mp e).1
    rw [List.getElem?_map,List.getElem?_range hi] at hq
    cases hq
    obtain ⟨x,us,rfl,hxX,⟨m,ho⟩,hus⟩ := Is.list_inv (show Is X h₂ v (.list [.int (keyOf ns (i : Int)), .int (i : Int)]) from iv)
    obtain ⟨v1,v2,rfl,i1,i2⟩ := hus.two
    obtain ⟨t1,rfl⟩ := i1.int_inv
    obtain ⟨t2,rfl⟩ := i2.int_inv
    exact ⟨x, _,t1,t2,m,rfl,hxX,ho,rfl,hi⟩
  have hpair : ∀ v ∈ vs,PairAt h₂ v := fun v hm => by
    obtain ⟨i,hi⟩ := List.mem_iff_getElem?.mp hm
    obtain ⟨x,p,t,u,m,rfl, _,e, _,l⟩ := hat i v hi
    exact ⟨x,p, _,t,u,m,rfl,e,Int.natCast_nonneg _,Int.ofNat_lt.mpr (Nat.lt_trans l h64)⟩
  refine sorted_L hu hl.isList (hlen.symm ▸ h2) (hlen.symm ▸ h64) hpair (fun i v e => ?_) fun b h₃ zs cc hp hF kp hba z hb => ?_
  . obtain ⟨x,p,t,u,m,rfl, _,e, _,l⟩ := hat i v e
    exact sndI_of e
  have hN2 := T.size _ T₂
  have n₃ : Nx N h₂ h₃ := .of_keep kp z
  have T₃ : Tb h₃ := T.keep _ _ kp z T₂
  have hmem : ∀ p ∈ zs.toList,p.2 ∈ vs := fun p hm => by
    have := (Array.perm_iff_toList_perm.mp hp).mem_iff.mp hm
    rw [Array.toList_zip] at this
    exact (List.of_mem_zip this).2
  have hfact : ∀ v ∈ vs,fstI h₂ v = keyOf ns (sndI h₂ v) ∧ 0 <= sndI h₂ v ∧ sndI h₂ v < 64 ∧ Is X h₂ v (pairPV ns (sndI h₂ v)) := fun v hm => by
    obtain ⟨i,hi⟩ := List.mem_iff_getElem?.mp hm
    obtain ⟨x,p,t,u,m,rfl,hxX,e,rfl,l⟩ := hat i v hi
    rw [fstI_of e,sndI_of e]
    exact ⟨rfl,Int.natCast_nonneg _,Int.ofNat_lt.mpr (Nat.lt_trans l h64), .list hxX ⟨m,e⟩ (.cons (.int _ _) (.cons (.int _ _) .nil))⟩
  have hlaid : Laid ns n (zs.toList.map fun p => sndI h₂ p.2) := by
    refine ⟨?_, ?_⟩
    . have h1 := (Array.perm_iff_toList_perm.mp hp).map (fun p => sndI h₂ p.2)
      have h2 : (vs.toArray.zip vs.toArray).toList.map (fun p => sndI h₂ p.2) = (List.range n).map fun (i : Nat) => (i : Int) := by
        have e := zip_snd (keys := vs.toArray) (vs := vs) (by simp)
        have : (vs.toArray.zip vs.toArray).toList.map (fun p => sndI h₂ p.2) = ((vs.toArray.zip vs.toArray).toList.map (·.2)).map (sndI h₂) := by rw [List.map_map]; rfl
        rw [this,e]
        apply List.ext_getElem?
        intro i
        rw [List.getElem?_map,List.getElem?_map]
        cases hq : vs[i]? with
        | none => rw [List.getElem?_eq_none (by rw [List.length_range, <- hlen]; exact List.getElem?_eq_none_iff.mp hq)]; rfl
        | some v =>
          obtain ⟨x,p,t,u,m,rfl, _,e, _,l⟩ := hat i v hq
          rw [List.getElem?_range l]
          exact congrArg some (sndI_of e)
      rw [h2] at h1
      exact h1
    . have hzl : zs.toList.length = n := by
        have h1 := (Array.perm_iff_toList_perm.mp hp).length_eq
        rw [h1,Array.toList_zip,List.length_zip,Nat.min_self]
        exact hlen
      rw [List.pairwise_map,List.pairwise_iff_getElem]
      intro i j h1 h2 hij
      have hh := hF.ord i j hij (by rw [hlen, <- hzl]; exact h2)
      have e : ∀ k (hk : k < zs.toList.length),ent zs k = zs.toList[k] := fun k hk => by
        unfold ent
        rw [<- Array.getElem?_toList,List.getElem?_eq_getElem hk]
        rfl
      rw [e i h1,e j h2] at hh
      have f1 := hfact _ (hmem _ (List.getElem_mem h1))
      have f2 := hfact _ (hmem _ (List.getElem_mem h2))
      unfold Ord.R at hh
      dsimp only at hh
      rw [f1.1,f2.1] at hh
      exact key_lt hh ⟨f1.2.1,f1.2.2.1⟩ ⟨f2.2.1,f2.2.2.1⟩
  have el : (zs.toList.map fun p => sndI h₂ p.2) = l0 := hlaid.unique hl0
  refine k _ h₃ t₂ ((n₁.trans n₂).trans n₃) T₃ ?_
  have hxl : zs.map (·.2) = (zs.toList.map (·.2)).toArray := by apply Array.ext'; simp
  have hbX : b ∉ X := fun m => Nat.lt_irrefl _ (Nat.lt_of_lt_of_le (T.low _ T₂ b m) hba)
  refine .list (vs := zs.toList.map (·.2)) hbX ⟨cc,by rw [<- hxl]; exact hb⟩ ?_
  rw [<- el,List.map_map]
  have key : ∀ ps : List (Value × Value),(∀ p ∈ ps,p.2 ∈ vs) -> IsL X h₃ (ps.map (·.2)) (ps.map (pairPV ns ∘ fun p => sndI h₂ p.2)) := by
    intro ps
    induction ps with
    | nil => intro _; exact .nil
    | cons p ps ih =>
      intro hm
      exact .cons (kepts kp z (hfact _ (hm p List.mem_cons_self)).2.2.2) (ih fun q hq => hm q (List.mem_cons_of_mem _ hq))
  exact key _ hmem
theorem EV.seconds {ns : List Int} {names : List Str} {vals : List (Option PV)} {l0 : List Int} (T : TbOk N [] Top) (hh : A.handled = none) (O : BlkOk N hb env) {iter : Expr} {pk pt pk2 ptt pos : Pos} {kk : Nat} (hz : l0.length <= sizeLine)
    (h : EV w N (TbX Top X) A env (Cx N X hb env names vals) iter (IsP X (.list (l0.map (pairPV ns))))) (hs : ∀ x,foldedSetIterable iter env x = pure x) :
    EV w N (TbX Top X) A env (Cx N X hb env names vals) (.ListComp (.Name (Str.ofString "k") pk) [⟨.Tuple [.Name (Str.ofString "told") pt, .Name (Str.ofString "k") pk2] kk ptt,iter, [],0⟩] { kind := .function,names := [(Str.ofString ".0", .local),(Str.ofString "told", .local),(Str.ofString "k", .local)],isGenerator := false,isCoroutine := false,more := [] } pos) (IsP X (intsP l0)) := by
  have key := EV.compG (w := w) (tn := [Str.ofString "told",Str.ofString "k"]) (fs := []) (fv := []) (tg := .Tuple [.Name (Str.ofString "told") pt, .Name (Str.ofString "k") pk2] kk ptt) (elt := .Name (Str.ofString "k") pk) (pos := pos) (scope := { kind := .function,names := [(Str.ofString ".0", .local),(Str.ofString "told", .local),(Str.ofString "k", .local)],isGenerator := false,isCoroutine := false,more := [] })
    (f := fun (j : Nat) (_ : PV) => ((l0[j]?).map PV.int).getD PV.none) (U := fun j => [(l0[j]?).map fun i => PV.int (keyOf ns i),(l0[j]?).map PV.int]) T O (SRC.list (TbX.ok T X) hh h) (by rw [List.length_map]; exact hz) rfl (by decide) (by decide) (by decide) (by decide) .nil rfl (by decide) (fun j => rfl) (fun D cenv hc hD hsc B j p hp => ?a1) (fun D cenv hc hD hsc B _ j p hp s v Q E c t iv k => ?a2) (fun I v s Q E ho q => ?a3) hs
  . rw [mapIdx_at] at key
    exact key
  case a3 =>
    obtain ⟨o,nm,e1,e2,e3⟩ := ho
    exact go_plain e1 e2 e3 q
  case a1 =>
    rw [List.getElem?_map] at hp
    cases hq : l0[j]? with
    | none => rw [hq] at hp; cases hp
    | some i =>
      have hn' : NsOk [Str.ofString "told",Str.ofString "k"] := ⟨by decide,by decide,by decide⟩
      show EV w N _ A cenv (Cx N (D :: X) hc cenv [Str.ofString "told",Str.ofString "k"] [some (.int (keyOf ns i)),some (.int i)]) _ (IsP (D :: X) (.int i))
      exact EV.name B.kind hn' (i := 1) (.tl .hd) rfl
  case a2 =>
    rw [List.getElem?_map] at hp
    cases hq : l0[j]? with
    | none => rw [hq] at hp; cases hp
    | some i =>
      rw [hq] at hp k
      cases hp
      have T' := TbX.ok T (D :: X)
      have hn' : [Str.ofString "told",Str.ofString "k"].Nodup := by decide
      have k1 : cenv.kindOf (Str.ofString "told") = some .local := by rw [Env.kindOf,hsc]; exact relabel_other (by decide) (by decide)
      have k2 : cenv.kindOf (Str.ofString "k") = some .local := by rw [Env.kindOf,hsc]; exact relabel_other (by decide) (by decide)
      obtain ⟨a,vs,rfl,hax,hl,hL⟩ := Is.list_inv (show Is (D :: X) s.heap v (.list [.int (keyOf ns i), .int i]) from iv)
      obtain ⟨v1,v2,rfl,i1,i2⟩ := hL.two
      rw [PyProof.Rows.assign_Tuple]
      refine wpAny_bind (wpAny_standAt ?_)
      unfold unpack
      refine wpAny_bind (wpAny_holding (wp_grows (kun_itemsOf (items := #[v1,v2]) hh hl.isList fun h₁ he₁ hz₁ => ?_)))
      have n₁ : Nx N s.heap h₁ := .of_keep (fun b o e => he₁ b o (Nat.ne_of_lt (Heap.lt_size e)) e) hz₁
      have c₁ := Cx.stb B.hL _ _ c n₁
      have T₁ : TbX Top (D :: X) h₁ := T'.keep _ _ (fun b o e => he₁ b o (Nat.ne_of_lt (Heap.lt_size e)) e) hz₁ t
      refine assignInOrder_cons (PyProof.Rows.assign_Name (store' T' B (i := 0) .hd hn' (.inl k1) c₁ T₁ (i1.nx n₁) fun h₂ t₂ f₂ T₂ c₂ => ?_))
      refine assignInOrder_cons (PyProof.Rows.assign_Name (store' T' B (i := 1) (.tl .hd) hn' (.inl k2) c₂ T₂ ((i2.nx n₁).fx f₂ c₁.wok0) fun h₃ t₃ f₃ T₃ c₃ => assignInOrder_nil ?_))
      exact k h₃ t₃ (n₁.fx.trans (f₂.trans f₃)) T₃ c₃
theorem law_s15 (g : GZ N Top) {d : Nat} (hA : AOk A d) (O : EnvOk N hb env) (hs : env.scope = scopeOf (stmtAt 44)) (hd : 12 <= d) {ns ws ds l : List Int} {rs : List Row} {xl : Int} (hr : rs.length <= 6) (hr4 : 4 <= rs.length) (hds : ds.length <= 8) (hlaid : Laid (nums (after ds rs)) rs.length l) :
    SX w N (TbX Top X) A env (Wr env lawN X) (Cx N X hb env lawN [some (intsP ns),some (.int xl),some (rowsP rs),some (intsP ws),some (intsP ds),some (intsP (nums rs)),some (statesP ds rs),some (numbersP ds rs),some (intsP (countsL (after ds rs))),some (intsP l),some (intsP (nums (after ds rs))),some (.int (rs.length : Nat))]) (nthS (bodyOf (stmtAt 44)) 15) (Ret N X hb (.bool true)) := by
  have T := TbX.ok g.T X
  have hn : NsOk lawN := ⟨by decide,by decide,by decide⟩
  have hkk := O.kind
  have hL := O.hL
  have hf : (after ds rs).length = rs.length := after_length _ _
  have hfl : (nums (after ds rs)).length = rs.length := by unfold nums; rw [List.length_map,hf]
  have hll : l.length = rs.length := by rw [hlaid.perm.length_eq,List.length_map,List.length_range]
  have kS : env.kindOf (Str.ofString "sorted") = some .globalImplicit := by rw [Env.kindOf,hs]; decide
  have kR : env.kindOf (Str.ofString "range") = some .globalImplicit := by rw [Env.kindOf,hs]; decide
  refine SX.ret (p := .bool true) (fun h c => c.base) ?_
  refine EV.cmp (X := X) (p := intsP l) (q := intsP l) ?a1 ?a2 (EV.seconds (ns := nums (after ds rs)) g.T hA.hd O.toBlkOk (by rw [hll]; exact Nat.le_trans hr (Nat.le_of_ble_eq_true rfl)) (EV.sortedL T hlaid (by lia) (by lia) ?a3 ?a4 hkk O.glob O.bui kS (g.bSorted.x X) ?a5 rfl) (fun _ => rfl)) (CP.eqSame rfl ((EqD.ints l).ok (by decide)) ?a6) (by with_unfolding_all rfl)
  case a1 => walk_at "m"
  case a2 => walk_at "m"
  case a3 => have := hA.un; lia
  case a4 => walk_at "m"
  case a6 => have := hA.un; exact Nat.lt_of_lt_of_le (by lia : A.units + 64 < 5064) (Nat.le_of_ble_eq_true rfl)
  case a5 =>
    refine EV.compAt (xs := List.range rs.length) (P := fun (i : Nat) => .int (i : Int)) (f := fun (i : Nat) => pairPV (nums (after ds rs)) (i : Int)) (fs := [Str.ofString "states"]) (fv := [some (statesP ds rs)]) g.T O.toBlkOk (SRC.range T hA.hd (n := rs.length) rfl (by lia) ?b1 hkk O.glob O.bui kR (g.bRange.x X) ?b2) (by rw [List.length_range]; exact Nat.le_trans hr (Nat.le_of_ble_eq_true rfl)) rfl (by decide) (by decide) (by decide) (by decide) (.cons (i := 6) ?b3 rfl (by decide) ?b4 .nil) rfl (by decide) (fun D cenv hc hD hsc B i hi => ?b5)
    case b1 => walk_at "m"
    case b2 => walk_at "m"
    case b3 => walk_at "m"
    case b4 => rw [Env.kindOf,hs]; decide
    case b5 =>
      have hi' : i < rs.length := List.mem_range.mp hi
      have hk' := B.kind
      have hL' := B.hL
      have T' := TbX.ok g.T (D :: X)
      have hn' : NsOk [Str.ofString "k",Str.ofString "states"] := ⟨by decide,by decide,by decide⟩
      obtain ⟨r,hr⟩ : ∃ r,(after ds rs)[i]? = some r := ⟨_,List.getElem?_eq_getElem (by lia)⟩
      have hkey : keyOf (nums (after ds rs)) (i : Int) = r.num := by
        unfold keyOf nums
        rw [Int.toNat_natCast,List.getD_eq_getElem?_getD,List.getElem?_map,hr]
        rfl
      unfold pairPV
      rw [hkey]
      refine EV.list T' (EVs.cons ?c1 (EV.callD ?c2 B.kind B.glob (kind_in hsc (by decide)) g.dTold (EVs.cons ?c3 (EV.sub (p := rowsP (after ds rs)) (q := .int (i : Int)) ?c4 (EV.lastSt (i := 1) hds hk' hL' hn' ?c5 rfl) ?c6 (IT.list ?c7 ?c8 ?c9) trivial) EVs.nil rfl) (row_told g.toGX r) (hA.less (by lia))) (EVs.cons ?c10 ?c11 EVs.nil rfl) rfl) (Nat.le_of_ble_eq_true rfl)
      case c1 => walk_at "m"
      case c2 => walk_at "m"
      case c3 => walk_at "m"
      case c4 => walk_at "m"
      case c5 => walk_at "m"
      case c6 => walk_at "m"
      case c7 => lia
      case c8 => lia
      case c9 => rw [Int.toNat_natCast,List.getElem?_map,hr]; rfl
      case c10 => walk_at "m"
      case c11 => walk_at "m"
end
end
section
set_option autoImplicit false
section
variable {w : World} {N : Nat} {X : List Addr} {Tb : Heap -> Prop} {Top : Heap -> Prop} {A : Around} {env : Env} {hb : Heap} {C : Heap -> Prop}
theorem lawBody_eq : bodyOf (stmtAt 44) = [nthS (bodyOf (stmtAt 44)) 0,nthS (bodyOf (stmtAt 44)) 1,nthS (bodyOf (stmtAt 44)) 2,nthS (bodyOf (stmtAt 44)) 3,nthS (bodyOf (stmtAt 44)) 4,nthS (bodyOf (stmtAt 44)) 5,nthS (bodyOf (stmtAt 44)) 6,nthS (bodyOf (stmtAt 44)) 7,nthS (bodyOf (stmtAt 44)) 8,nthS (bodyOf (stmtAt 44)) 9,nthS (bodyOf (stmtAt 44)) 10,nthS (bodyOf (stmtAt 44)) 11,nthS (bodyOf (stmtAt 44)) 12,nthS (bodyOf (stmtAt 44)) 13,nthS (bodyOf (stmtAt 44)) 14,nthS (bodyOf (stmtAt 44)) 15] := by rfl
theorem go1 {W : List Addr} {C' : Heap -> Prop} {st : Stmt} {rest : List Stmt} {s : Shared} {Q : Flow -> Shared -> Prop} {E : Value -> Shared -> Prop} (h : SX w N Tb A env W C st (Nxt C')) (c : C s.heap) (t : Tb s.heap) (k : ∀ h' tk,Tb h' -> C' h' -> wpAny (MM w) A (execs rest env) Q E { s with heap := h',toks := tk }) :
    wpAny (MM w) A (execs (st :: rest) env) Q E s := wpAny_execs_cons (h.run s _ E c t fun f h' tk fx t' r => by
      obtain ⟨rfl,c'⟩ := r
      exact k h' tk t' c')
variable {Top0 : Heap -> Prop}
theorem law_run (g : GZ N Top) (g0 : GZ N Top0) (gc : GC N Top Top0) {cdL : Value} {cL pL : Addr} (nL1 : LamN N Top cdL ⟨209,14,209,58⟩ qLam cL pL) (nL2 : LamN N Top cdL ⟨219,46,219,80⟩ qLam cL pL) {d : Nat} (hA : AOk A d) (hd : 16 <= d) (O : EnvOk N hb env) (hs : env.scope = scopeOf (stmtAt 44)) (hcode : env.code = cdL) (hq : env.qual = Str.ofString "law" ++ ".<locals>.")
    {ns : List Int} (hz : ns.length <= 63) {s : Shared} {Q' : Flow -> Shared -> Prop} {E' : Value -> Shared -> Prop} (c : Cx N [] hb env lawN [some (intsP ns),none,none,none,none,none,none,none,none,none,none,none] s.heap) (t : TbX Top [] s.heap) (k : ∀ h' tk,Nx N hb h' -> Top0 h' -> Q' (.ret (.bool true)) { s with heap := h',toks := tk }) : wpAny (MM w) A (execs (bodyOf (stmtAt 44)) env) Q' E' s := by
  have hr : (startRows ns).length <= 6 := by unfold startRows; simp; have := two_le ns; lia
  have hr4 : 4 <= (startRows ns).length := by unfold startRows; simp
  have hds : (deedsL ns).length <= 8 := by unfold deedsL; simp; have := two_le ns; lia
  have hds6 : 6 <= (deedsL ns).length := by unfold deedsL; simp
  have s0 := law_s0 (w := w) (X := []) g.toGY hA O hs hz (by lia)
  have s1 := law_s1 (w := w) (X := []) g.toGY hA O hs hz
  have s2 := law_s2 (w := w) (X := []) g.toGY hA O hs hz
  rw [lawBody_eq]
  generalize startRows ns = rs at *
  generalize deedsL ns = ds at *
  generalize weigh ns = ws at *
  have s3 : ∀ {s : Shared} {Q : Flow -> Shared -> Prop} {E : Value -> Shared -> Prop} (c : Cx N [] hb env lawN [some (intsP ns),none,some (rowsP rs),some (intsP ws),some (intsP ds),none,none,none,none,none,none,some (.int (rs.length : Nat))] s.heap) (t : TbX Top [] s.heap) (k : ∀ a h' tk,N <= a -> a ∉ [] -> hb.get? a = none -> Cx N [a] hb env lawN [some (intsP ns),none,some (rowsP rs),some (intsP ws),some (intsP ds),some (intsP (nums rs)),some (.own a ((List.range (0 + 1)).map fun i => rowsP (after (ds.take i) rs))),none,none,none,none,some (.int (rs.length : Nat))] h' -> TbX Top [a] h' -> Q .next { s with heap := h',toks := tk }),wpAny (MM w) A (exec (nthS (bodyOf (stmtAt 44)) 3) env) Q E s := fun c t k => law_s3 (w := w) g.toGY hA O hs (by lia) hr c t k
  have s4 := fun a hba => law_s4 (w := w) (X := [a]) (ns := ns) (ws := ws) (rs := rs) g.toGY hA O hs (by lia) hr hds (a := a) hba
  have s5 : ∀ xl, ∀ {s : Shared} {Q : Flow -> Shared -> Prop} {E : Value -> Shared -> Prop} (c : Cx N [] hb env lawN [some (intsP ns),some (.int xl),some (rowsP rs),some (intsP ws),some (intsP ds),some (intsP (nums rs)),some (statesP ds rs),none,none,none,none,some (.int (rs.length : Nat))] s.heap) (t : TbX Top [] s.heap) (k : ∀ a h' tk,N <= a -> a ∉ [] -> hb.get? a = none -> Cx N [a] hb env lawN [some (intsP ns),some (.int (if 0 = 0 then xl else ds.getD (0 - 1) 0)),some (rowsP rs),some (intsP ws),some (intsP ds),some (intsP (nums rs)),some (statesP ds rs),some (.own a ((List.range (0 + 1)).map fun i => PV.int (numb (after (ds.take i) rs)))),none,none,none,some (.int (rs.length : Nat))] h' -> TbX Top [a] h' -> Q .next { s with heap := h',toks := tk }),wpAny (MM w) A (exec (nthS (bodyOf (stmtAt 44)) 5) env) Q E s := fun xl _ _ _ c t k => law_s5 (w := w) g.toGY hA O hs (by lia) hr c t k
  have s6 := fun xl a hba => law_s6 (w := w) (X := [a]) (ns := ns) (ws := ws) (rs := rs) (xl := xl) g.toGY hA O hs (by lia) hr hds (a := a) hba
  have s7 := fun xl => law_s7 (w := w) (X := []) (ns := ns) (ws := ws) (rs := rs) (xl := xl) g hA O hs (by lia) hr hds
  have s8 := fun xl => law_s8 (w := w) (X := []) (ns := ns) (ws := ws) (rs := rs) (xl := xl) g hA O hs (by lia) nL1 hcode hq hr hds
  have s9 := fun xl => law_s9 (w := w) (X := []) (ns := ns) (ws := ws) (rs := rs) (xl := xl) g hA O hs (by lia) hr hds
  have s10 := fun xl => law_s10 (w := w) (X := []) (ns := ns) (ws := ws) (rs := rs) (xl := xl) g hA O hs (by lia) hr hds (fun x hx => by cases hx)
  have s11 := fun xl => law_s11 (w := w) (X := []) (ns := ns) (ws := ws) (rs := rs) (xl := xl) g hA O hs (by lia) hr hds
  have s12 := fun xl => law_s12 (w := w) (X := []) (ns := ns) (ws := ws) (rs := rs) (xl := xl) g hA O hs (by lia) hr hds
  have s13 := fun xl => law_s13 (w := w) (X := []) (ns := ns) (ws := ws) (rs := rs) (xl := xl) g hA O hs (by lia) hr hds
  have s14 : ∀ (xl : Int) {s : Shared} {Q : Flow -> Shared -> Prop} {E : Value -> Shared -> Prop} (c : Cx N [] hb env lawN [some (intsP ns),some (.int xl),some (rowsP rs),some (intsP ws),some (intsP ds),some (intsP (nums rs)),some (statesP ds rs),some (numbersP ds rs),some (intsP (countsL (after ds rs))),none,some (intsP (nums (after ds rs))),some (.int (rs.length : Nat))] s.heap) (t : TbX Top [] s.heap)
    (k : ∀ l h' tk,Laid (nums (after ds rs)) rs.length l -> Cx N [] hb env lawN [some (intsP ns),some (.int xl),some (rowsP rs),some (intsP ws),some (intsP ds),some (intsP (nums rs)),some (statesP ds rs),some (numbersP ds rs),some (intsP (countsL (after ds rs))),some (intsP l),some (intsP (nums (after ds rs))),some (.int (rs.length : Nat))] h' -> TbX Top0 [] h' -> Q .next { s with heap := h',toks := tk }),wpAny (MM w) A (exec (nthS (bodyOf (stmtAt 44)) 14) env) Q E s := fun xl _ _ _ c t k => law_s14 (w := w) g hA O hs (by lia) gc g0.T nL2 hcode hq hr hr4 hds c t k
  have s15 := fun xl l (hl : Laid (nums (after ds rs)) rs.length l) => law_s15 (w := w) (X := []) (ns := ns) (ws := ws) (rs := rs) (xl := xl) g0 hA O hs (by lia) hr hr4 hds hl
  generalize nthS (bodyOf (stmtAt 44)) 0 = p0 at s0 ⊢
  generalize nthS (bodyOf (stmtAt 44)) 1 = p1 at s1 ⊢
  generalize nthS (bodyOf (stmtAt 44)) 2 = p2 at s2 ⊢
  generalize nthS (bodyOf (stmtAt 44)) 3 = p3 at s3 ⊢
  generalize nthS (bodyOf (stmtAt 44)) 4 = p4 at s4 ⊢
  generalize nthS (bodyOf (stmtAt 44)) 5 = p5 at s5 ⊢
  generalize nthS (bodyOf (stmtAt 44)) 6 = p6 at s6 ⊢
  generalize nthS (bodyOf (stmtAt 44)) 7 = p7 at s7 ⊢
  generalize nthS (bodyOf (stmtAt 44)) 8 = p8 at s8 ⊢
  generalize nthS (bodyOf (stmtAt 44)) 9 = p9 at s9 ⊢
  generalize nthS (bodyOf (stmtAt 44)) 10 = p10 at s10 ⊢
  generalize nthS (bodyOf (stmtAt 44)) 11 = p11 at s11 ⊢
  generalize nthS (bodyOf (stmtAt 44)) 12 = p12 at s12 ⊢
  generalize nthS (bodyOf (stmtAt 44)) 13 = p13 at s13 ⊢
  generalize nthS (bodyOf (stmtAt 44)) 14 = p14 at s14 ⊢
  generalize nthS (bodyOf (stmtAt 44)) 15 = p15 at s15 ⊢
  refine go1 s0 c t fun h₁ t₁ T₁ c₁ => ?_
  refine go1 s1 c₁ T₁ fun h₂ t₂ T₂ c₂ => ?_
  refine go1 s2 c₂ T₂ fun h₃ t₃ T₃ c₃ => ?_
  refine wpAny_execs_cons (s3 c₃ T₃ fun a h₄ t₄ hNa haX hba c₄ T₄ => ?_)
  refine go1 (s4 a hba) c₄ T₄ fun h₅ t₅ T₅ c₅ => ?_
  have e1 : (if ds.length = 0 then none else some (.int (ds.getD (ds.length - 1) 0))) = some (PV.int (ds.getD (ds.length - 1) 0)) := if_neg (by lia)
  have e2 : PV.list ((List.range (ds.length + 1)).map fun i => rowsP (after (ds.take i) rs)) = statesP ds rs := by unfold statesP statesL; rw [List.map_map]; rfl
  rw [e1] at c₅
  have c₅' := Cx.unown (i := 6) rfl haX (OthersOk.of rfl) c₅
  have c₅'' : Cx N [] hb env lawN [some (intsP ns),some (.int (ds.getD (ds.length - 1) 0)),some (rowsP rs),some (intsP ws),some (intsP ds),some (intsP (nums rs)),some (statesP ds rs),none,none,none,none,some (.int (rs.length : Nat))] h₅ := by
    rw [<- e2]
    exact c₅'
  have T₅' : TbX Top [] h₅ := ⟨T₅.1,fun x hx => by cases hx⟩
  generalize ds.getD (ds.length - 1) 0 = xl at c₅''
  refine wpAny_execs_cons (s5 xl c₅'' T₅' fun a h₆ t₆ hNa haX hba c₆ T₆ => ?_)
  refine go1 (s6 xl a hba) c₆ T₆ fun h₇ t₇ T₇ c₇ => ?_
  have e3 : PV.list ((List.range (ds.length + 1)).map fun i => PV.int (numb (after (ds.take i) rs))) = numbersP ds rs := by unfold numbersP intsP statesL; rw [List.map_map,List.map_map]; rfl
  have c₇' := Cx.unown (i := 7) rfl haX (OthersOk.of rfl) c₇
  generalize (if ds.length = 0 then xl else ds.getD (ds.length - 1) 0) = xl at c₇'
  have c₇'' : Cx N [] hb env lawN [some (intsP ns),some (.int xl),some (rowsP rs),some (intsP ws),some (intsP ds),some (intsP (nums rs)),some (statesP ds rs),some (numbersP ds rs),none,none,none,some (.int (rs.length : Nat))] h₇ := by
    rw [<- e3]
    exact c₇'
  have T₇' : TbX Top [] h₇ := ⟨T₇.1,fun x hx => by cases hx⟩
  refine go1 (s7 xl) c₇'' T₇' fun h₈ t₈ T₈ c₈ => ?_
  refine go1 (s8 xl) c₈ T₈ fun h₉ t₉ T₉ c₉ => ?_
  refine go1 (s9 xl) c₉ T₉ fun ha ta Ta ca => ?_
  refine go1 (s10 xl) ca Ta fun hb' tb Tb cb => ?_
  refine go1 (s11 xl) cb Tb fun hc tc Tc cc => ?_
  refine go1 (s12 xl) cc Tc fun hd' td Td cd => ?_
  refine go1 (s13 xl) cd Td fun he te Te ce => ?_
  refine wpAny_execs_cons (s14 xl ce Te fun l hf tf hlaid cf Tf => ?_)
  refine wpAny_execs_cons ((s15 xl l hlaid).run _ _ _ cf Tf fun f hg tg xg Tg r => ?_)
  obtain ⟨v,e,iv,nx⟩ := r
  obtain rfl := iv.bool_inv
  subst e
  exact k _ _ nx Tg.1
theorem law_call (g : GZ N Top) (g0 : GZ N Top0) (gc : GC N Top Top0) {fLaw : Addr} {cdL : Value} {cL pL : Addr} (D : DefOkC Top (Str.ofString "law") 44 fLaw cdL) (nL1 : LamN N Top cdL ⟨209,14,209,58⟩ qLam cL pL) (nL2 : LamN N Top cdL ⟨219,46,219,80⟩ qLam cL pL) (hA : AOk A 20)
    {ns : List Int} (hz : ns.length <= 63) {v : Value} {s : Shared} {Q E : Value -> Shared -> Prop} (iv : Is [] s.heap v (intsP ns)) (t : Top s.heap) (k : ∀ h' tk,Nx N s.heap h' -> Top0 h' -> Q (.bool true) { s with heap := h',toks := tk }) : wpAny (MM w) A (call (.ref fLaw) [v]) Q E s := by
  obtain ⟨_,pm,doc,hD,hcd⟩ := D
  refine callDefB (d := 19) (prm := [Str.ofString "script"]) (loc := [Str.ofString "x",Str.ofString "rows",Str.ofString "weighed",Str.ofString "deeds",Str.ofString "first",Str.ofString "states",Str.ofString "numbers",Str.ofString "counts",Str.ofString "laid",Str.ofString "digits",Str.ofString "many"]) (ps := [intsP ns]) (TbX.ok g.T []) (hD.x []) (fun h t => hcd h t.1) rfl rfl rfl rfl rfl (fun vs h => by obtain ⟨a,rfl⟩ := of1 h; with_unfolding_all rfl) (by decide) (show ∀ x ∈ _,(scopeOf (stmtAt 44)).names.lookup x = some .local ∨ (scopeOf (stmtAt 44)).names.lookup x = some .cell by decide) hA (.cons iv .nil) ⟨t,fun x hx => by cases hx⟩ fun A env h tk hA O hs hc hq c t Q' E' hQ => ?_
  exact law_run g g0 gc nL1 nL2 hA (by lia) O hs hc hq hz c t fun h' tk nx t' => hQ (.ret (.bool true)) _ (k h' tk nx t')
end
end
section
set_option autoImplicit false
theorem any_some {α : Type} {o : Option α} {p : α -> Bool} (h : o.any p = true) : ∃ y,o = some y ∧ p y = true := by
  cases o with
  | none => cases h
  | some y => exact ⟨y,rfl,h⟩
noncomputable def intOf : Value -> Option (Int × Tok) | .int i t => some (i,t) | _ => none
noncomputable def strOf : Value -> Option (Str × Tok) | .str s t => some (s,t) | _ => none
noncomputable def boolOf : Value -> Option Bool | .bool b => some b | _ => none
noncomputable def refOf : Value -> Option Addr | .ref a => some a | _ => none
noncomputable def seqD : Data -> Option (Array Value × Nat) | .seq vs k => some (vs,k) | _ => none
noncomputable def fldD : Data -> Option (Array Value) | .fields vs => some vs | _ => none
theorem intOf_eq {v : Value} {x : Int × Tok} (h : intOf v = some x) : v = .int x.1 x.2 := by cases v <;> cases h; rfl
theorem strOf_eq {v : Value} {x : Str × Tok} (h : strOf v = some x) : v = .str x.1 x.2 := by cases v <;> cases h; rfl
theorem boolOf_eq {v : Value} {x : Bool} (h : boolOf v = some x) : v = .bool x := by cases v <;> cases h; rfl
theorem refOf_eq {v : Value} {x : Addr} (h : refOf v = some x) : v = .ref x := by cases v <;> cases h; rfl
theorem seqD_eq {v : Data} {x : Array Value × Nat} (h : seqD v = some x) : v = .seq x.1 x.2 := by cases v <;> cases h; rfl
theorem fldD_eq {v : Data} {x : Array Value} (h : fldD v = some x) : v = .fields x := by cases v <;> cases h; rfl
noncomputable def fldsAt (K : Frag) (c : Addr) : Option (Value × Array Value) := (K.lookup c).bind fun o => (fldD o.data).map fun vs => (o.cls,vs)
theorem fldsAt_eq {K : Frag} {h : Heap} {c : Addr} {y : Value × Array Value} (X : K.In h) (e : fldsAt K c = some y) : ∃ o,h.get? c = some o ∧ o.cls = y.1 ∧ o.data = .fields y.2 := by
  obtain ⟨o,ho,e⟩ := Option.bind_eq_some_iff.mp e
  obtain ⟨vs,hv,e⟩ := Option.map_eq_some_iff.mp e
  cases e
  exact ⟨o,X _ _ ho,rfl,fldD_eq hv⟩
noncomputable def recIn (K : Frag) (c : Addr) (x : Str) : Bool := (fldsAt K c).any fun y => (y.2[1]?).any fun v => (strOf v).any fun q => q.1 == x
theorem rec_of {K : Frag} {h : Heap} {c : Addr} {x : Str} (X : K.In h) (e : recIn K c x = true) : h.CodeRec (.ref c) x := by
  obtain ⟨y,e1,e⟩ := any_some e
  obtain ⟨v,e2,e⟩ := any_some e
  obtain ⟨q,e3,e⟩ := any_some e
  obtain ⟨o,h1, _,h2⟩ := fldsAt_eq X e1
  exact ⟨c,o, _,q.2,rfl,h1,h2,by rw [e2,strOf_eq e3,eq_of_beq e]⟩
noncomputable def headIn (K : Frag) (c P : Addr) : Bool := (fldsAt K c).any fun y => y.1 == .type "code" && (y.2[11]?).any (· == .ref P) && (strOf (y.2.getD 18 .none)).isSome && (intOf (y.2.getD 7 .none)).isSome && (boolOf (y.2.getD 9 .none)).isSome && (intOf (y.2.getD 10 .none)).isSome && c != P
theorem head_of {K : Frag} {h : Heap} {c P : Addr} (X : K.In h) (e : headIn K c P = true) : CodeHd h c P := by
  obtain ⟨y,e1,e⟩ := any_some e
  obtain ⟨o,h1,h3,h2⟩ := fldsAt_eq X e1
  obtain ⟨e,e7⟩ := Bool.and_eq_true_iff.mp e
  obtain ⟨e,e6⟩ := Bool.and_eq_true_iff.mp e
  obtain ⟨e,e5⟩ := Bool.and_eq_true_iff.mp e
  obtain ⟨e,e4⟩ := Bool.and_eq_true_iff.mp e
  obtain ⟨e,e3⟩ := Bool.and_eq_true_iff.mp e
  obtain ⟨e,e2⟩ := Bool.and_eq_true_iff.mp e
  obtain ⟨p,p1,p2⟩ := any_some e2
  obtain ⟨_,q3⟩ := Option.isSome_iff_exists.mp e3
  obtain ⟨_,q4⟩ := Option.isSome_iff_exists.mp e4
  obtain ⟨_,q5⟩ := Option.isSome_iff_exists.mp e5
  obtain ⟨_,q6⟩ := Option.isSome_iff_exists.mp e6
  rw [eq_of_beq p2] at p1
  exact ⟨o,y.2, _, _, _, _, _, _, _,h1,h3.trans (eq_of_beq e),h2,p1,by rw [Array.getD_eq_getD_getElem?,p1]; rfl,strOf_eq q3,intOf_eq q4,boolOf_eq q5,intOf_eq q6,bne_iff_ne.mp e7⟩
noncomputable def tupAt (K : Frag) (a : Addr) : Option (Array Value × Nat) := (K.lookup a).bind fun o => if o.cls = .type "tuple" then seqD o.data else none
theorem tupAt_eq {K : Frag} {a : Addr} {y : Array Value × Nat} (e : tupAt K a = some y) : ∃ o,K.lookup a = some o ∧ o.cls = .type "tuple" ∧ o.data = .seq y.1 y.2 := by
  obtain ⟨o,ho,e⟩ := Option.bind_eq_some_iff.mp e
  by_cases c : o.cls = .type "tuple"
  . rw [if_pos c] at e
    exact ⟨o,ho,c,seqD_eq e⟩
  . rw [if_neg c] at e
    cases e
noncomputable def isInF (K : Frag) : Nat -> PV -> Value -> Bool
  | 0, _, _ => false
  | n + 1,p,v => match p with
    | .int j => (intOf v).any fun q => q.1 == j
    | .str t => (strOf v).any fun q => q.1 == t
    | .tup xs => (refOf v).any fun a => (tupAt K a).any fun y => y.1.toList.length == xs.length && (xs.zip y.1.toList).all fun q => isInF K n q.1 q.2
    | _ => false
theorem is_of {K : Frag} {h₀ h : Heap} {Y : List Addr} (X : K.In h₀) (kp : ∀ b o,h₀.get? b = some o -> o.cls ≠ .none -> h.get? b = some o) (hY : ∀ y ∈ Y,h₀.objs.size <= y) : ∀ (n : Nat) (p : PV) (v : Value),isInF K n p v = true -> Is Y h v p := by
  intro n
  induction n with
  | zero => intro p v e; cases e
  | succ n ih =>
    intro p v e
    have key : ∀ (ys : List PV) (us : List Value),us.length = ys.length -> (∀ q ∈ ys.zip us,isInF K n q.1 q.2 = true) -> IsL Y h us ys := by
      intro ys
      induction ys with
      | nil => intro us hl _; rw [List.eq_nil_of_length_eq_zero hl]; exact .nil
      | cons y ys ih2 =>
        intro us hl hq
        obtain ⟨u,us,rfl⟩ := List.exists_cons_of_length_eq_add_one hl
        exact .cons (ih y u (hq (y,u) List.mem_cons_self)) (ih2 us (Nat.succ.inj hl) fun q hm => hq q (List.mem_cons_of_mem _ hm))
    cases p
    case int j => obtain ⟨q,e1,e2⟩ := any_some e; rw [intOf_eq e1,eq_of_beq e2]; exact .int _ _
    case str t => obtain ⟨q,e1,e2⟩ := any_some e; rw [strOf_eq e1,eq_of_beq e2]; exact .str _ _
    case tup xs =>
      obtain ⟨a,e1,e2⟩ := any_some e
      obtain ⟨y,e3,e4⟩ := any_some e2
      obtain ⟨e5,e6⟩ := Bool.and_eq_true_iff.mp e4
      obtain ⟨o,h1,h2,h3⟩ := tupAt_eq e3
      have h0 := X _ _ h1
      rw [refOf_eq e1]
      exact .tup (vs := y.1.toList) (fun m => Nat.lt_irrefl _ (Nat.lt_of_lt_of_le (Heap.lt_size h0) (hY a m))) ⟨o,kp _ _ h0 (by rw [h2]; intro c; cases c),h2,y.2,by rw [Array.toArray_toList]; exact h3⟩ (key _ _ (eq_of_beq e5) (List.all_eq_true.mp e6))
    all_goals cases e
noncomputable def fragOf (as : List Addr) (h : Heap) : Frag := as.filterMap fun a => (h.get? a).map fun o => (a,o)
theorem frag_in (h : Heap) : ∀ as : List Addr,(fragOf as h).In h
  | [], _, _,e => by cases e
  | b :: as,a,o,e => by
    unfold fragOf at e
    rw [List.filterMap_cons] at e
    cases hb : h.get? b with
    | none => rw [hb] at e; exact frag_in h as a o e
    | some x =>
      rw [hb] at e
      by_cases c : (a == b) = true
      . have e' : some x = some o := by simpa [List.lookup_cons,c] using e
        rw [eq_of_beq c,hb,e']
      . refine frag_in h as a o ?_
        simpa [fragOf,List.lookup_cons,c] using e
noncomputable def asK : List Addr := [0,2,3,4,20,21,30,34,35,37,41,42,48,49,55,56,58,62,63,65,71,72,73,74,75,76,77,78,79,80,81,82,83,84,85,86,87,88,89,90,91,92,93,94,95,96,97,98,99,100,101,102,103,104,105,106,107,108,109,110,111,112,113,114,115,116,117,118,119,125,126,132,133,137,138,144,145,149,150,156,157,163,164,168,169,171,173,174]
noncomputable def ckL (K : Frag) : List (Option Obj) := [21,35,42,49,56,63,79,86,126,133,138,145,150,157,164,169,174,72,30,37,58,171,cStatics,4,65].map fun a => K.lookup a
noncomputable def wantL : List (Option Obj) := [some { cls := .type "function",data := .func (docDef (Str.ofString "_div2n1n") (paramsOf (stmtAt 2)) (bodyOf (stmtAt 2)) (scopeOf (stmtAt 2)) (.str (Str.ofString "cpy313._pylong") 187) (.ref 20) .none) },
  some { cls := .type "function",data := .func (docDef (Str.ofString "_int2digits") (paramsOf (stmtAt 4)) (bodyOf (stmtAt 4)) (scopeOf (stmtAt 4)) (.str (Str.ofString "cpy313._pylong") 187) (.ref 34) .none) },
  some { cls := .type "function",data := .func (docDef (Str.ofString "_digits2int") (paramsOf (stmtAt 5)) (bodyOf (stmtAt 5)) (scopeOf (stmtAt 5)) (.str (Str.ofString "cpy313._pylong") 187) (.ref 41) .none) },
  some { cls := .type "function",data := .func (docDef (Str.ofString "_divmod_pos") (paramsOf (stmtAt 6)) (bodyOf (stmtAt 6)) (scopeOf (stmtAt 6)) (.str (Str.ofString "cpy313._pylong") 187) (.ref 48) .none) },
  some { cls := .type "function",data := .func (docDef (Str.ofString "int_divmod") (paramsOf (stmtAt 7)) (bodyOf (stmtAt 7)) (scopeOf (stmtAt 7)) (.str (Str.ofString "cpy313._pylong") 187) (.ref 55) .none) },
  some { cls := .type "function",data := .func (docDef (Str.ofString "cmp_to_key") (paramsOf (stmtAt 9)) (bodyOf (stmtAt 9)) (scopeOf (stmtAt 9)) (.str (Str.ofString "cpy313.functools") 269) (.ref 62) .none) },
  some { cls := .type "function",data := .func (docDef (Str.ofString "S_IMODE") (paramsOf (stmtAt 13)) (bodyOf (stmtAt 13)) (scopeOf (stmtAt 13)) (.str (Str.ofString "cpy313.stat") 293) (.ref 78) .none) },
  some { cls := .type "function",data := .func (docDef (Str.ofString "S_IFMT") (paramsOf (stmtAt 14)) (bodyOf (stmtAt 14)) (scopeOf (stmtAt 14)) (.str (Str.ofString "cpy313.stat") 293) (.ref 85) .none) },
  some { cls := .type "function",data := .func (docDef (Str.ofString "filemode") (paramsOf (stmtAt 35)) (bodyOf (stmtAt 35)) (scopeOf (stmtAt 35)) (.str (Str.ofString "cpy313.stat") 293) (.ref 125) .none) },
  some { cls := .type "function",data := .func (docDef (Str.ofString "_law_signs") (paramsOf (stmtAt 37)) (bodyOf (stmtAt 37)) (scopeOf (stmtAt 37)) (.str (Str.ofString "law_oc0164_01") 385) (.ref 132) .none) },
  some { cls := .type "function",data := .func (docDef (Str.ofString "_law_bits") (paramsOf (stmtAt 38)) (bodyOf (stmtAt 38)) (scopeOf (stmtAt 38)) (.str (Str.ofString "law_oc0164_01") 385) (.ref 137) .none) },
  some { cls := .type "function",data := .func (docDef (Str.ofString "_law_told") (paramsOf (stmtAt 39)) (bodyOf (stmtAt 39)) (scopeOf (stmtAt 39)) (.str (Str.ofString "law_oc0164_01") 385) (.ref 144) .none) },
  some { cls := .type "function",data := .func (docDef (Str.ofString "_law_signed") (paramsOf (stmtAt 40)) (bodyOf (stmtAt 40)) (scopeOf (stmtAt 40)) (.str (Str.ofString "law_oc0164_01") 385) (.ref 149) .none) },
  some { cls := .type "function",data := .func (docDef (Str.ofString "_law_all") (paramsOf (stmtAt 41)) (bodyOf (stmtAt 41)) (scopeOf (stmtAt 41)) (.str (Str.ofString "law_oc0164_01") 385) (.ref 156) .none) },
  some { cls := .type "function",data := .func (docDef (Str.ofString "_law_done") (paramsOf (stmtAt 42)) (bodyOf (stmtAt 42)) (scopeOf (stmtAt 42)) (.str (Str.ofString "law_oc0164_01") 385) (.ref 163) .none) },
  some { cls := .type "function",data := .func (docDef (Str.ofString "_law_drawn") (paramsOf (stmtAt 43)) (bodyOf (stmtAt 43)) (scopeOf (stmtAt 43)) (.str (Str.ofString "law_oc0164_01") 385) (.ref 168) .none) },
  some { cls := .type "function",data := .func (docDef (Str.ofString "law") (paramsOf (stmtAt 44)) (bodyOf (stmtAt 44)) (scopeOf (stmtAt 44)) (.str (Str.ofString "law_oc0164_01") 385) (.ref 173) .none) },
  some { cls := .type "function",data := .func (fdRed (.str (Str.ofString "cpy313.functools") 269) (.ref 71) .none 65) },
  some (tabObj #[]),
  some (tabObj #[]),
  some (tabObj #[]),
  some (tabObj #[]),
  some { cls := .none,data := .dict #[] },
  some { cls := .type "module",dict := some builtinsNs },
  some { cls := .type "tuple",data := .seq #[.ref 64] }]
noncomputable def ckN (K : Frag) : List (Option (Option Value)) := [Str.ofString "_div2n1n",Str.ofString "_int2digits",Str.ofString "_digits2int",Str.ofString "_divmod_pos",Str.ofString "int_divmod",Str.ofString "cmp_to_key",Str.ofString "S_IMODE",Str.ofString "S_IFMT",Str.ofString "filemode",Str.ofString "_law_signs",Str.ofString "_law_bits",Str.ofString "_law_told",Str.ofString "_law_signed",Str.ofString "_law_all",Str.ofString "_law_done",Str.ofString "_law_drawn",Str.ofString "law",Str.ofString "reduce",Str.ofString "__builtins__",Str.ofString "_DIV_LIMIT",Str.ofString "_filemode_table",Str.ofString "_initial_missing",Str.ofString "__name__",Str.ofString "range",Str.ofString "len",Str.ofString "sum",Str.ofString "max",Str.ofString "min",Str.ofString "divmod",Str.ofString "reversed",Str.ofString "enumerate",Str.ofString "iter",Str.ofString "sorted",Str.ofString "object"].map fun x => nsIn K mainGlobals x
noncomputable def wantN : List (Option (Option Value)) := [some (some (.ref 21)),some (some (.ref 35)),some (some (.ref 42)),some (some (.ref 49)),some (some (.ref 56)),some (some (.ref 63)),some (some (.ref 79)),some (some (.ref 86)),some (some (.ref 126)),some (some (.ref 133)),some (some (.ref 138)),some (some (.ref 145)),some (some (.ref 150)),some (some (.ref 157)),some (some (.ref 164)),some (some (.ref 169)),some (some (.ref 174)),some (some (.ref 72)),some (some (.ref 4)),some (some (.int 4000 189)),some (some (.ref 119)),some (some (.ref 64)),some (some (.str (Str.ofString "law_oc0164_01") 385)),some none,some none,some none,some none,some none,some none,some none,some none,some none,some none,some none]
noncomputable def ckB (K : Frag) : List (Option (Option Value)) := [Str.ofString "range",Str.ofString "len",Str.ofString "sum",Str.ofString "max",Str.ofString "min",Str.ofString "divmod",Str.ofString "reversed",Str.ofString "enumerate",Str.ofString "iter",Str.ofString "sorted",Str.ofString "object",Str.ofString "__build_class__"].map fun x => nsIn K builtinsNs x
noncomputable def wantB : List (Option (Option Value)) := [some (some (.type "range")),some (some (.builtin "len")),some (some (.builtin "sum")),some (some (.builtin "max")),some (some (.builtin "min")),some (some (.builtin "divmod")),some (some (.type "reversed")),some (some (.type "enumerate")),some (some (.builtin "iter")),some (some (.builtin "sorted")),some (some (.type "object")),some (some (.builtin "__build_class__"))]
noncomputable def ckR (K : Frag) : List Bool := [isInF K 4 tabP (.ref 119),recIn K 20 (Str.ofString "_div2n1n"),recIn K 34 (Str.ofString "_int2digits"),recIn K 41 (Str.ofString "_digits2int"),recIn K 48 (Str.ofString "_divmod_pos"),recIn K 55 (Str.ofString "int_divmod"),recIn K 62 (Str.ofString "cmp_to_key"),recIn K 78 (Str.ofString "S_IMODE"),recIn K 85 (Str.ofString "S_IFMT"),recIn K 125 (Str.ofString "filemode"),recIn K 132 (Str.ofString "_law_signs"),recIn K 137 (Str.ofString "_law_bits"),recIn K 144 (Str.ofString "_law_told"),recIn K 149 (Str.ofString "_law_signed"),recIn K 156 (Str.ofString "_law_all"),recIn K 163 (Str.ofString "_law_done"),recIn K 168 (Str.ofString "_law_drawn"),recIn K 173 (Str.ofString "law"),recIn K 71 (Str.ofString "reduce"),headIn K 34 30,headIn K 41 37,headIn K 62 58,headIn K 173 171]
noncomputable def wantR : List Bool := [true,true,true,true,true,true,true,true,true,true,true,true,true,true,true,true,true,true,true,true,true,true,true]
noncomputable def obsK (K : Frag) : List (Option Obj) × List (Option (Option Value)) × List (Option (Option Value)) × List Bool := (ckL K,ckN K,ckB K,ckR K)
noncomputable def wantK : List (Option Obj) × List (Option (Option Value)) × List (Option (Option Value)) × List Bool := (wantL,wantN,wantB,wantR)
noncomputable def topHook : Hook := ⟨_,fun s => obsK (fragOf asK s.heap),fun _ => wantK,fun _ h => ∃ K : Frag,K.In h ∧ obsK K = wantK,fun _ s e => ⟨_,frag_in s.heap asK,e⟩,fun _ _ _ ⟨K,X,e⟩ k => ⟨K,fun a o l => k a o (X a o l),e⟩⟩
section
variable {K : Frag} (F : obsK K = wantK)
include F
theorem atL (i : Nat) : (ckL K).getD i none = wantL.getD i none := by rw [show ckL K = wantL from congrArg (·.1) F]
theorem atN (i : Nat) : (ckN K).getD i none = wantN.getD i none := by rw [show ckN K = wantN from congrArg (·.2.1) F]
theorem atB (i : Nat) : (ckB K).getD i none = wantB.getD i none := by rw [show ckB K = wantB from congrArg (·.2.2.1) F]
theorem atR (i : Nat) : (ckR K).getD i true = wantR.getD i true := by rw [show ckR K = wantR from congrArg (·.2.2.2) F]
theorem k_div2n1n : K.lookup 21 = some { cls := .type "function",data := .func (docDef (Str.ofString "_div2n1n") (paramsOf (stmtAt 2)) (bodyOf (stmtAt 2)) (scopeOf (stmtAt 2)) (.str (Str.ofString "cpy313._pylong") 187) (.ref 20) .none) } := atL F 0
theorem k_int2digits : K.lookup 35 = some { cls := .type "function",data := .func (docDef (Str.ofString "_int2digits") (paramsOf (stmtAt 4)) (bodyOf (stmtAt 4)) (scopeOf (stmtAt 4)) (.str (Str.ofString "cpy313._pylong") 187) (.ref 34) .none) } := atL F 1
theorem k_digits2int : K.lookup 42 = some { cls := .type "function",data := .func (docDef (Str.ofString "_digits2int") (paramsOf (stmtAt 5)) (bodyOf (stmtAt 5)) (scopeOf (stmtAt 5)) (.str (Str.ofString "cpy313._pylong") 187) (.ref 41) .none) } := atL F 2
theorem k_divmodpos : K.lookup 49 = some { cls := .type "function",data := .func (docDef (Str.ofString "_divmod_pos") (paramsOf (stmtAt 6)) (bodyOf (stmtAt 6)) (scopeOf (stmtAt 6)) (.str (Str.ofString "cpy313._pylong") 187) (.ref 48) .none) } := atL F 3
theorem k_intdivmod : K.lookup 56 = some { cls := .type "function",data := .func (docDef (Str.ofString "int_divmod") (paramsOf (stmtAt 7)) (bodyOf (stmtAt 7)) (scopeOf (stmtAt 7)) (.str (Str.ofString "cpy313._pylong") 187) (.ref 55) .none) } := atL F 4
theorem k_cmptokey : K.lookup 63 = some { cls := .type "function",data := .func (docDef (Str.ofString "cmp_to_key") (paramsOf (stmtAt 9)) (bodyOf (stmtAt 9)) (scopeOf (stmtAt 9)) (.str (Str.ofString "cpy313.functools") 269) (.ref 62) .none) } := atL F 5
theorem k_SIMODE : K.lookup 79 = some { cls := .type "function",data := .func (docDef (Str.ofString "S_IMODE") (paramsOf (stmtAt 13)) (bodyOf (stmtAt 13)) (scopeOf (stmtAt 13)) (.str (Str.ofString "cpy313.stat") 293) (.ref 78) .none) } := atL F 6
theorem k_SIFMT : K.lookup 86 = some { cls := .type "function",data := .func (docDef (Str.ofString "S_IFMT") (paramsOf (stmtAt 14)) (bodyOf (stmtAt 14)) (scopeOf (stmtAt 14)) (.str (Str.ofString "cpy313.stat") 293) (.ref 85) .none) } := atL F 7
theorem k_filemode : K.lookup 126 = some { cls := .type "function",data := .func (docDef (Str.ofString "filemode") (paramsOf (stmtAt 35)) (bodyOf (stmtAt 35)) (scopeOf (stmtAt 35)) (.str (Str.ofString "cpy313.stat") 293) (.ref 125) .none) } := atL F 8
theorem k_lawsigns : K.lookup 133 = some { cls := .type "function",data := .func (docDef (Str.ofString "_law_signs") (paramsOf (stmtAt 37)) (bodyOf (stmtAt 37)) (scopeOf (stmtAt 37)) (.str (Str.ofString "law_oc0164_01") 385) (.ref 132) .none) } := atL F 9
theorem k_lawbits : K.lookup 138 = some { cls := .type "function",data := .func (docDef (Str.ofString "_law_bits") (paramsOf (stmtAt 38)) (bodyOf (stmtAt 38)) (scopeOf (stmtAt 38)) (.str (Str.ofString "law_oc0164_01") 385) (.ref 137) .none) } := atL F 10
theorem k_lawtold : K.lookup 145 = some { cls := .type "function",data := .func (docDef (Str.ofString "_law_told") (paramsOf (stmtAt 39)) (bodyOf (stmtAt 39)) (scopeOf (stmtAt 39)) (.str (Str.ofString "law_oc0164_01") 385) (.ref 144) .none) } := atL F 11
theorem k_lawsigned : K.lookup 150 = some { cls := .type "function",data := .func (docDef (Str.ofString "_law_signed") (paramsOf (stmtAt 40)) (bodyOf (stmtAt 40)) (scopeOf (stmtAt 40)) (.str (Str.ofString "law_oc0164_01") 385) (.ref 149) .none) } := atL F 12
theorem k_lawall : K.lookup 157 = some { cls := .type "function",data := .func (docDef (Str.ofString "_law_all") (paramsOf (stmtAt 41)) (bodyOf (stmtAt 41)) (scopeOf (stmtAt 41)) (.str (Str.ofString "law_oc0164_01") 385) (.ref 156) .none) } := atL F 13
theorem k_lawdone : K.lookup 164 = some { cls := .type "function",data := .func (docDef (Str.ofString "_law_done") (paramsOf (stmtAt 42)) (bodyOf (stmtAt 42)) (scopeOf (stmtAt 42)) (.str (Str.ofString "law_oc0164_01") 385) (.ref 163) .none) } := atL F 14
theorem k_lawdrawn : K.lookup 169 = some { cls := .type "function",data := .func (docDef (Str.ofString "_law_drawn") (paramsOf (stmtAt 43)) (bodyOf (stmtAt 43)) (scopeOf (stmtAt 43)) (.str (Str.ofString "law_oc0164_01") 385) (.ref 168) .none) } := atL F 15
theorem k_law : K.lookup 174 = some { cls := .type "function",data := .func (docDef (Str.ofString "law") (paramsOf (stmtAt 44)) (bodyOf (stmtAt 44)) (scopeOf (stmtAt 44)) (.str (Str.ofString "law_oc0164_01") 385) (.ref 173) .none) } := atL F 16
theorem k_reduce : K.lookup 72 = some { cls := .type "function",data := .func (fdRed (.str (Str.ofString "cpy313.functools") 269) (.ref 71) .none 65) } := atL F 17
theorem k_t30 : K.lookup 30 = some (tabObj #[]) := atL F 18
theorem k_t37 : K.lookup 37 = some (tabObj #[]) := atL F 19
theorem k_t58 : K.lookup 58 = some (tabObj #[]) := atL F 20
theorem k_t171 : K.lookup 171 = some (tabObj #[]) := atL F 21
theorem k_stat : K.lookup cStatics = some { cls := .none,data := .dict #[] } := atL F 22
theorem k_main : K.lookup 4 = some { cls := .type "module",dict := some builtinsNs } := atL F 23
theorem k_dflt : K.lookup 65 = some { cls := .type "tuple",data := .seq #[.ref 64] } := atL F 24
theorem n_div2n1n : nsIn K mainGlobals (Str.ofString "_div2n1n") = some (some (.ref 21)) := atN F 0
theorem n_int2digits : nsIn K mainGlobals (Str.ofString "_int2digits") = some (some (.ref 35)) := atN F 1
theorem n_digits2int : nsIn K mainGlobals (Str.ofString "_digits2int") = some (some (.ref 42)) := atN F 2
theorem n_divmodpos : nsIn K mainGlobals (Str.ofString "_divmod_pos") = some (some (.ref 49)) := atN F 3
theorem n_intdivmod : nsIn K mainGlobals (Str.ofString "int_divmod") = some (some (.ref 56)) := atN F 4
theorem n_cmptokey : nsIn K mainGlobals (Str.ofString "cmp_to_key") = some (some (.ref 63)) := atN F 5
theorem n_SIMODE : nsIn K mainGlobals (Str.ofString "S_IMODE") = some (some (.ref 79)) := atN F 6
theorem n_SIFMT : nsIn K mainGlobals (Str.ofString "S_IFMT") = some (some (.ref 86)) := atN F 7
theorem n_filemode : nsIn K mainGlobals (Str.ofString "filemode") = some (some (.ref 126)) := atN F 8
theorem n_lawsigns : nsIn K mainGlobals (Str.ofString "_law_signs") = some (some (.ref 133)) := atN F 9
theorem n_lawbits : nsIn K mainGlobals (Str.ofString "_law_bits") = some (some (.ref 138)) := atN F 10
theorem n_lawtold : nsIn K mainGlobals (Str.ofString "_law_told") = some (some (.ref 145)) := atN F 11
theorem n_lawsigned : nsIn K mainGlobals (Str.ofString "_law_signed") = some (some (.ref 150)) := atN F 12
theorem n_lawall : nsIn K mainGlobals (Str.ofString "_law_all") = some (some (.ref 157)) := atN F 13
theorem n_lawdone : nsIn K mainGlobals (Str.ofString "_law_done") = some (some (.ref 164)) := atN F 14
theorem n_lawdrawn : nsIn K mainGlobals (Str.ofString "_law_drawn") = some (some (.ref 169)) := atN F 15
theorem n_law : nsIn K mainGlobals (Str.ofString "law") = some (some (.ref 174)) := atN F 16
theorem n_reduce : nsIn K mainGlobals (Str.ofString "reduce") = some (some (.ref 72)) := atN F 17
theorem n_bi : nsIn K mainGlobals (Str.ofString "__builtins__") = some (some (.ref 4)) := atN F 18
theorem n_div : nsIn K mainGlobals (Str.ofString "_DIV_LIMIT") = some (some (.int 4000 189)) := atN F 19
theorem n_tab : nsIn K mainGlobals (Str.ofString "_filemode_table") = some (some (.ref 119)) := atN F 20
theorem n_im : nsIn K mainGlobals (Str.ofString "_initial_missing") = some (some (.ref 64)) := atN F 21
theorem n_name : nsIn K mainGlobals (Str.ofString "__name__") = some (some (.str (Str.ofString "law_oc0164_01") 385)) := atN F 22
theorem g_range : nsIn K mainGlobals (Str.ofString "range") = some none := atN F 23
theorem g_len : nsIn K mainGlobals (Str.ofString "len") = some none := atN F 24
theorem g_sum : nsIn K mainGlobals (Str.ofString "sum") = some none := atN F 25
theorem g_max : nsIn K mainGlobals (Str.ofString "max") = some none := atN F 26
theorem g_min : nsIn K mainGlobals (Str.ofString "min") = some none := atN F 27
theorem g_divmod : nsIn K mainGlobals (Str.ofString "divmod") = some none := atN F 28
theorem g_reversed : nsIn K mainGlobals (Str.ofString "reversed") = some none := atN F 29
theorem g_enumerate : nsIn K mainGlobals (Str.ofString "enumerate") = some none := atN F 30
theorem g_iter : nsIn K mainGlobals (Str.ofString "iter") = some none := atN F 31
theorem g_sorted : nsIn K mainGlobals (Str.ofString "sorted") = some none := atN F 32
theorem g_object : nsIn K mainGlobals (Str.ofString "object") = some none := atN F 33
theorem b_range : nsIn K builtinsNs (Str.ofString "range") = some (some (.type "range")) := atB F 0
theorem b_len : nsIn K builtinsNs (Str.ofString "len") = some (some (.builtin "len")) := atB F 1
theorem b_sum : nsIn K builtinsNs (Str.ofString "sum") = some (some (.builtin "sum")) := atB F 2
theorem b_max : nsIn K builtinsNs (Str.ofString "max") = some (some (.builtin "max")) := atB F 3
theorem b_min : nsIn K builtinsNs (Str.ofString "min") = some (some (.builtin "min")) := atB F 4
theorem b_divmod : nsIn K builtinsNs (Str.ofString "divmod") = some (some (.builtin "divmod")) := atB F 5
theorem b_reversed : nsIn K builtinsNs (Str.ofString "reversed") = some (some (.type "reversed")) := atB F 6
theorem b_enumerate : nsIn K builtinsNs (Str.ofString "enumerate") = some (some (.type "enumerate")) := atB F 7
theorem b_iter : nsIn K builtinsNs (Str.ofString "iter") = some (some (.builtin "iter")) := atB F 8
theorem b_sorted : nsIn K builtinsNs (Str.ofString "sorted") = some (some (.builtin "sorted")) := atB F 9
theorem b_object : nsIn K builtinsNs (Str.ofString "object") = some (some (.type "object")) := atB F 10
theorem b_build_class : nsIn K builtinsNs (Str.ofString "__build_class__") = some (some (.builtin "__build_class__")) := atB F 11
theorem r_tab : isInF K 4 tabP (.ref 119) = true := atR F 0
theorem r_div2n1n : recIn K 20 (Str.ofString "_div2n1n") = true := atR F 1
theorem r_int2digits : recIn K 34 (Str.ofString "_int2digits") = true := atR F 2
theorem r_digits2int : recIn K 41 (Str.ofString "_digits2int") = true := atR F 3
theorem r_divmodpos : recIn K 48 (Str.ofString "_divmod_pos") = true := atR F 4
theorem r_intdivmod : recIn K 55 (Str.ofString "int_divmod") = true := atR F 5
theorem r_cmptokey : recIn K 62 (Str.ofString "cmp_to_key") = true := atR F 6
theorem r_SIMODE : recIn K 78 (Str.ofString "S_IMODE") = true := atR F 7
theorem r_SIFMT : recIn K 85 (Str.ofString "S_IFMT") = true := atR F 8
theorem r_filemode : recIn K 125 (Str.ofString "filemode") = true := atR F 9
theorem r_lawsigns : recIn K 132 (Str.ofString "_law_signs") = true := atR F 10
theorem r_lawbits : recIn K 137 (Str.ofString "_law_bits") = true := atR F 11
theorem r_lawtold : recIn K 144 (Str.ofString "_law_told") = true := atR F 12
theorem r_lawsigned : recIn K 149 (Str.ofString "_law_signed") = true := atR F 13
theorem r_lawall : recIn K 156 (Str.ofString "_law_all") = true := atR F 14
theorem r_lawdone : recIn K 163 (Str.ofString "_law_done") = true := atR F 15
theorem r_lawdrawn : recIn K 168 (Str.ofString "_law_drawn") = true := atR F 16
theorem r_law : recIn K 173 (Str.ofString "law") = true := atR F 17
theorem r_reduce : recIn K 71 (Str.ofString "reduce") = true := atR F 18
theorem r_h34 : headIn K 34 30 = true := atR F 19
theorem r_h41 : headIn K 41 37 = true := atR F 20
theorem r_h62 : headIn K 62 58 = true := atR F 21
theorem r_h173 : headIn K 173 171 = true := atR F 22
end
noncomputable def QQ : Program := { PP with main := { PP.main with body := PP.main.body.drop 44 } }
noncomputable def namesAt : Stmt -> List Str
  | .FunctionDef n .. => [n]
  | .Assign ts _ _ => (allTargets? ts).getD []
  | _ => []
noncomputable def LL : List Str := (PP.main.body.take 44).flatMap namesAt
noncomputable def dLaw : DefRec := { name := Str.ofString "law",params := paramsOf (stmtAt 44),body := bodyOf (stmtAt 44),scope := scopeOf (stmtAt 44),pos := posOf (stmtAt 44) }
theorem left0 : LeftO PP QQ LL (fun _ => true) topHook.obs topHook.val 2134 := fun w => by kernel_rfl
theorem said0 : PySem.Challenge.rw_oc0164_01.wellSaid = true := by
  unfold OpenLaw.wellSaid OpenRow.wellSaid OpenRow.partSaid looksOpen
  repeat' with_reducible refine look_both ?_ ?_
  all_goals decide +kernel
end
section
set_option autoImplicit false
noncomputable def tabsL : List Addr := [30,37,58,171]
noncomputable def Form (h : Heap) (lo : Nat) (P : Addr) (pq : List (Pos × Str)) : Prop :=
  ∃ ps,h.get? P = some (tabObj ps) ∧ TriplesOk ps.toList ∧ ∀ q ∈ pq,codeAmong q.1 ps.toList = none ∨ ∃ c' : Addr,lo <= c' ∧ codeAmong q.1 ps.toList = some (.ref c') ∧ h.CodeRec (.ref c') q.2
theorem codeAmong_app {pos : Pos} {m : List Value} : ∀ (l : List Value),TriplesOk l -> codeAmong pos (l ++ m) = (codeAmong pos l).or (codeAmong pos m)
  | [], _ => by simp [codeAmong]
  | [.int _ _],h => h.elim
  | [.int _ _, .int _ _],h => h.elim
  | .int a t :: .int b u :: c :: r,h => by
    have ih := codeAmong_app (pos := pos) (m := m) r h
    show (if (a == (pos.line : Int) && b == (pos.col : Int)) = true then some c else codeAmong pos (r ++ m)) = (if (a == (pos.line : Int) && b == (pos.col : Int)) = true then some c else codeAmong pos r).or (codeAmong pos m)
    split
    . rfl
    . exact ih
theorem tab_ne_rec {h : Heap} {P c : Addr} {ps : Array Value} {q : Str} (hP : h.get? P = some (tabObj ps)) (ht : TriplesOk ps.toList) (hr : h.CodeRec (.ref c) q) : c ≠ P := by
  obtain ⟨c',o,vs,t,e1,e2,e3,e4⟩ := hr
  cases e1
  rintro rfl
  rw [hP] at e2
  cases e2
  cases e3
  rw [<- Array.getElem?_toList] at e4
  generalize ps.toList = l at ht e4
  cases l with
  | nil => cases e4
  | cons a l =>
    cases l with
    | nil => cases e4
    | cons b l =>
      obtain rfl := Option.some.inj (show some b = some _ from e4)
      cases a <;> exact ht.elim
theorem Form.keep {h h' : Heap} {lo : Nat} {P : Addr} {pq : List (Pos × Str)} (f : Form h lo P pq) (k : ∀ b o,h.get? b = some o -> h'.get? b = some o) : Form h' lo P pq := by
  obtain ⟨ps,a,b,c⟩ := f
  exact ⟨ps,k _ _ a,b,fun q hq => (c q hq).imp id fun ⟨c',l,e,r⟩ => ⟨c',l,e,r.keeps k⟩⟩
theorem Form.upd {h h' : Heap} {lo N : Nat} {P a : Addr} {oa : Obj} {pq : List (Pos × Str)} (f : Form h lo P pq) (hN : N <= a) (hP : P < N) (e : h.get? a = some oa) (nc : NotCode oa) (k : ∀ b o,b ≠ a -> h.get? b = some o -> h'.get? b = some o) : Form h' lo P pq := by
  obtain ⟨ps,a1,b1,c1⟩ := f
  refine ⟨ps,k _ _ (Nat.ne_of_lt (Nat.lt_of_lt_of_le hP hN)) a1,b1,fun q hq => (c1 q hq).imp id fun ⟨c',l,e1,c2,o,vs,t,e2,e3,e4,e5⟩ => ⟨c',l,e1,c2,o,vs,t,e2,k _ _ ?_ e3,e4,e5⟩⟩
  rintro rfl
  rw [e] at e3
  cases e3
  exact nc.2 _ e4 _ _ e5
theorem Form.ext {h h' : Heap} {lo : Nat} {P P' : Addr} {ps' : Array Value} {pq : List (Pos × Str)} (f : Form h lo P pq) (hne : P ≠ P') (hP' : h.get? P' = some (tabObj ps')) (ht : TriplesOk ps'.toList) (k : Heap.ExtBut P' h h') : Form h' lo P pq := by
  obtain ⟨ps,a1,b1,c1⟩ := f
  refine ⟨ps,k _ _ hne a1,b1,fun q hq => (c1 q hq).imp id fun ⟨c',l,e1,r⟩ => ⟨c',l,e1, ?_⟩⟩
  have hc := tab_ne_rec hP' ht r
  obtain ⟨c2,o,vs,t,e2,e3,e4,e5⟩ := r
  cases e2
  exact ⟨_,o,vs,t,rfl,k _ _ hc e3,e4,e5⟩
theorem Form.grow {h h' : Heap} {lo : Nat} {P c : Addr} {ps : Array Value} {pos : Pos} {qual : Str} {pq : List (Pos × Str)} (f : Form h lo P pq) (hq : ∀ q ∈ pq,q.2 = qual) (hP : h.get? P = some (tabObj ps)) (k : Heap.ExtBut P h h') (hg : h'.get? P = some (tabObj (ps ++ #[rawInt pos.line,rawInt pos.col, .ref c]))) (hlo : lo <= c) (hr : h'.CodeRec (.ref c) qual) : Form h' lo P pq := by
  obtain ⟨ps0,a1,b1,c1⟩ := f
  rw [hP] at a1
  cases a1
  have e0 : (ps ++ #[rawInt pos.line,rawInt pos.col,Value.ref c]).toList = ps.toList ++ [rawInt pos.line,rawInt pos.col, .ref c] := by simp
  refine ⟨_,hg,by rw [e0]; exact TriplesOk_snoc _ _ _ _ b1,fun q hqm => ?_⟩
  rw [e0,codeAmong_app _ b1]
  rcases c1 q hqm with e | ⟨c',l,e,r⟩
  . rw [e]
    show codeAmong q.1 [rawInt pos.line,rawInt pos.col, .ref c] = none ∨ ∃ c' : Addr,lo <= c' ∧ codeAmong q.1 [rawInt pos.line,rawInt pos.col, .ref c] = some (.ref c') ∧ _
    unfold rawInt
    unfold codeAmong
    split
    . exact .inr ⟨c,hlo,rfl,by rw [hq q hqm]; exact hr⟩
    . exact .inl rfl
  . refine .inr ⟨c',l,by rw [e]; rfl, ?_⟩
    have hc := tab_ne_rec hP b1 r
    obtain ⟨c2,o,vs,t,e2,e3,e4,e5⟩ := r
    cases e2
    exact ⟨_,o,vs,t,rfl,k _ _ hc e3,e4,e5⟩
noncomputable abbrev pqI : List (Pos × Str) := [(posOf (innerOf 4),qInner4)]
noncomputable abbrev pqD : List (Pos × Str) := [(posOf (innerOf 5),qInner5)]
noncomputable abbrev pqL : List (Pos × Str) := [(⟨209,14,209,58⟩,qLam),(⟨219,46,219,80⟩,qLam)]
structure TopE (h₀ : Heap) (ex : Option Obj -> Prop) (h : Heap) : Prop where
  st : ∀ b o,h₀.get? b = some o -> b ∉ tabsL -> h.get? b = some o
  sz : h₀.objs.size <= h.objs.size
  fI : Form h 0 30 pqI
  fD : Form h 0 37 pqD
  fL : Form h h₀.objs.size 171 pqL
  fC : ∃ qs,h.get? 58 = some (tabObj qs)
  ex : ex (h.get? 58)
structure Base (h₀ : Heap) (mg mb : Str -> Option Value) : Prop where
  g : h₀.Ns mainGlobals mg
  b : h₀.Ns builtinsNs mb
  lim : h₀.NoLimit
  t30 : h₀.get? 30 = some (tabObj #[])
  t37 : h₀.get? 37 = some (tabObj #[])
  t58 : h₀.get? 58 = some (tabObj #[])
  t171 : h₀.get? 171 = some (tabObj #[])
section
variable {h₀ : Heap} {mg mb : Str -> Option Value} {ex : Option Obj -> Prop} {h : Heap}
theorem Base.start (B : Base h₀ mg mb) : TopE h₀ (fun o => o = some (tabObj #[])) h₀ where
  st := fun b o e _ => e
  sz := Nat.le_refl _
  fI := ⟨#[],B.t30,trivial,fun q _ => .inl rfl⟩
  fD := ⟨#[],B.t37,trivial,fun q _ => .inl rfl⟩
  fL := ⟨#[],B.t171,trivial,fun q _ => .inl rfl⟩
  fC := ⟨#[],B.t58⟩
  ex := B.t58
theorem Base.lt (B : Base h₀ mg mb) : ∀ P ∈ tabsL,P < h₀.objs.size := by
  intro P hP
  have : (171 : Nat) < h₀.objs.size := Heap.lt_size B.t171
  simp only [tabsL,List.mem_cons,List.not_mem_nil,or_false] at hP
  rcases hP with rfl | rfl | rfl | rfl
  . exact Nat.lt_trans (by decide) this
  . exact Nat.lt_trans (by decide) this
  . exact Nat.lt_trans (by decide) this
  . exact this
theorem Base.cls (B : Base h₀ mg mb) (t : TopE h₀ ex h) {b : Addr} {o : Obj} (e : h₀.get? b = some o) (hc : o.cls ≠ .none) : h.get? b = some o := by
  refine t.st b o e fun hb => ?_
  simp only [tabsL,List.mem_cons,List.not_mem_nil,or_false] at hb
  rcases hb with rfl | rfl | rfl | rfl
  . rw [B.t30] at e; cases e; exact hc rfl
  . rw [B.t37] at e; cases e; exact hc rfl
  . rw [B.t58] at e; cases e; exact hc rfl
  . rw [B.t171] at e; cases e; exact hc rfl
theorem Base.ok (B : Base h₀ mg mb) (ex : Option Obj -> Prop) : TbOk h₀.objs.size [] (TopE h₀ ex) where
  keep := fun h h' k z x => ⟨fun b o e hb => k _ _ (x.st b o e hb),Nat.le_trans x.sz z,x.fI.keep k,x.fD.keep k,x.fL.keep k,let ⟨qs,e⟩ := x.fC; ⟨qs,k _ _ e⟩,by obtain ⟨qs,e⟩ := x.fC; have := x.ex; rw [e] at this; rw [k _ _ e]; exact this⟩
  upd := fun h h' a oa n e c k z x => by
    have l := B.lt
    have n58 : (58 : Addr) ≠ a := Nat.ne_of_lt (Nat.lt_of_lt_of_le (l 58 (by decide)) n)
    exact ⟨fun b o eb hb => k _ _ (Nat.ne_of_lt (Nat.lt_of_lt_of_le (Heap.lt_size eb) n)) (x.st b o eb hb),Nat.le_trans x.sz z,x.fI.upd n (l 30 (by decide)) e c k,x.fD.upd n (l 37 (by decide)) e c k,x.fL.upd n (l 171 (by decide)) e c k,
      let ⟨qs,eq⟩ := x.fC; ⟨qs,k _ _ n58 eq⟩,by obtain ⟨qs,eq⟩ := x.fC; have := x.ex; rw [eq] at this; rw [k _ _ n58 eq]; exact this⟩
  size := fun h x => x.sz
  low := fun h x y hy => by cases hy
  limit := fun h x => by
    obtain ⟨mc,⟨o,es,ep,e,r⟩,q⟩ := B.lim
    exact ⟨mc,⟨o,es,ep,x.st _ _ e (by decide),r⟩,q⟩
theorem Base.nsG (B : Base h₀ mg mb) (t : TopE h₀ ex h) : h.Ns mainGlobals mg := by
  obtain ⟨o,es,ep,e,r⟩ := B.g
  exact ⟨o,es,ep,t.st _ _ e (by decide),r⟩
theorem Base.nsB (B : Base h₀ mg mb) (t : TopE h₀ ex h) : h.Ns builtinsNs mb := by
  obtain ⟨o,es,ep,e,r⟩ := B.b
  exact ⟨o,es,ep,t.st _ _ e (by decide),r⟩
theorem TopE.grow {h' : Heap} {P c : Addr} {ps : Array Value} {pos : Pos} {qual : Str} (t : TopE h₀ ex h) (hP : P ∈ tabsL) (h58 : P ≠ 58) (hg : h.get? P = some (tabObj ps)) (k : Heap.ExtBut P h h') (z : h.objs.size <= h'.objs.size) (hg' : h'.get? P = some (tabObj (ps ++ #[rawInt pos.line,rawInt pos.col, .ref c])))
    (hr : h'.CodeRec (.ref c) qual) (q1 : P = 30 -> qual = qInner4) (q2 : P = 37 -> qual = qInner5) (q3 : P = 171 -> qual = qLam ∧ h₀.objs.size <= c) : TopE h₀ ex h' := by
  have htr : TriplesOk ps.toList := by
    simp only [tabsL,List.mem_cons,List.not_mem_nil,or_false] at hP
    rcases hP with rfl | rfl | rfl | rfl
    . obtain ⟨qs,a,b, _⟩ := t.fI; rw [hg] at a; cases a; exact b
    . obtain ⟨qs,a,b, _⟩ := t.fD; rw [hg] at a; cases a; exact b
    . exact absurd rfl h58
    . obtain ⟨qs,a,b, _⟩ := t.fL; rw [hg] at a; cases a; exact b
  have ne58 : (58 : Addr) ≠ P := Ne.symm h58
  obtain ⟨qs,hC⟩ := t.fC
  refine ⟨fun b o e hb => k _ _ (fun e' => hb (e' ▸ hP)) (t.st b o e hb),Nat.le_trans t.sz z, ?_, ?_, ?_,⟨qs,k _ _ ne58 hC⟩, ?_⟩
  . by_cases e : P = 30
    . subst e
      exact t.fI.grow (qual := qual) (fun q hq => by rw [List.mem_singleton] at hq; subst hq; exact (q1 rfl).symm) hg k hg' (Nat.zero_le _) hr
    . exact t.fI.ext (Ne.symm e) hg htr k
  . by_cases e : P = 37
    . subst e
      exact t.fD.grow (qual := qual) (fun q hq => by rw [List.mem_singleton] at hq; subst hq; exact (q2 rfl).symm) hg k hg' (Nat.zero_le _) hr
    . exact t.fD.ext (Ne.symm e) hg htr k
  . by_cases e : P = 171
    . subst e
      refine t.fL.grow (qual := qual) (fun q hq => ?_) hg k hg' (q3 rfl).2 hr
      simp only [pqL,List.mem_cons,List.not_mem_nil,or_false] at hq
      rcases hq with rfl | rfl <;> exact (q3 rfl).1.symm
    . exact t.fL.ext (Ne.symm e) hg htr k
  . have := t.ex
    rw [hC] at this
    rw [k _ _ ne58 hC]
    exact this
end
end
section
set_option autoImplicit false
theorem ns_val_of {K : Frag} {h : Heap} {A : Addr} {mg : Str -> Option Value} {n : Str} {v : Value} (X : K.In h) (G : h.Ns A mg) (e : nsIn K A n = some (some v)) : mg n = some v := by
  obtain ⟨o,es,ep,ho,hd, _,hf⟩ := G
  unfold nsIn at e
  split at e
  . rename_i c d es' n' sl q
    have := X _ _ q
    rw [ho] at this
    cases this
    cases hd
    split at e
    . rename_i en he
      cases e
      rw [<- hf]
      unfold nsFind findBy
      rw [<- Array.find?_toList,he]
      rfl
    . split at e <;> cases e
  . cases e
section
variable {h₀ : Heap} {mg mb : Str -> Option Value} {ex : Option Obj -> Prop} {K : Frag}
theorem base_of (X : K.In h₀) (F : obsK K = wantK) (g : h₀.Ns mainGlobals mg) (b : h₀.Ns builtinsNs mb) (l : h₀.NoLimit) : Base h₀ mg mb := ⟨g,b,l,X _ _ (k_t30 F),X _ _ (k_t37 F),X _ _ (k_t58 F),X _ _ (k_t171 F)⟩
theorem glob_is (X : K.In h₀) (B : Base h₀ mg mb) {x : Str} {v : Value} (e : nsIn K mainGlobals x = some (some v)) : GlobIs (TopE h₀ ex) x v := fun h t => ⟨mg,B.nsG t,mg_of X B.g e⟩
theorem built_is (X : K.In h₀) (B : Base h₀ mg mb) {x : Str} {v : Value} (e1 : nsIn K mainGlobals x = some none) (e2 : nsIn K builtinsNs x = some (some v)) : BuiltIs (TopE h₀ ex) x v := fun h t => ⟨mg,mb,B.nsG t,mg_none_of X B.g e1,B.nsB t,ns_val_of X B.b e2⟩
theorem def_at (X : K.In h₀) (B : Base h₀ mg mb) {f : Addr} {fd : FuncData} (e : K.lookup f = some { cls := .type "function",data := .func fd }) : DefAt (TopE h₀ ex) f fd := ⟨_,rfl,fun h t => B.cls t (X _ _ e) (by intro c; cases c)⟩
theorem rec_at (X : K.In h₀) (B : Base h₀ mg mb) {c : Addr} {x : Str} (e : recIn K c x = true) (h : Heap) (t : TopE h₀ ex h) : h.CodeRec (.ref c) x := by
  obtain ⟨c',o,vs,tk,e1,e2,e3,e4⟩ := rec_of X e
  cases e1
  refine ⟨_,o,vs,tk,rfl,t.st _ _ e2 fun hb => ?_,e3,e4⟩
  simp only [tabsL,List.mem_cons,List.not_mem_nil,or_false] at hb
  rcases hb with rfl | rfl | rfl | rfl
  . rw [B.t30] at e2; cases e2; cases e3; cases e4
  . rw [B.t37] at e2; cases e2; cases e3; cases e4
  . rw [B.t58] at e2; cases e2; cases e3; cases e4
  . rw [B.t171] at e2; cases e2; cases e3; cases e4
theorem head_at (X : K.In h₀) (B : Base h₀ mg mb) {c T : Addr} (e : headIn K c T = true) (h : Heap) (t : TopE h₀ ex h) : CodeHd h c T := by
  obtain ⟨o,vs,file,tf,fl,tg,b,tx,tt,e1,e2,r⟩ := head_of X e
  exact ⟨o,vs,file,tf,fl,tg,b,tx,tt,B.cls t e1 (by rw [e2]; intro c; cases c),e2,r⟩
theorem def_ok (X : K.In h₀) (B : Base h₀ mg mb) {x : Str} {i : Nat} {f c : Addr} {pm doc : Value} (e1 : nsIn K mainGlobals x = some (some (.ref f))) (e2 : K.lookup f = some { cls := .type "function",data := .func (docDef x (paramsOf (stmtAt i)) (bodyOf (stmtAt i)) (scopeOf (stmtAt i)) pm (.ref c) doc) }) (e3 : recIn K c x = true) : DefOk (TopE h₀ ex) x i f :=
  ⟨glob_is X B e1,pm, .ref c,doc,def_at X B e2,rec_at X B e3⟩
theorem def_okC (X : K.In h₀) (B : Base h₀ mg mb) {x : Str} {i : Nat} {f c : Addr} {pm doc : Value} (e1 : nsIn K mainGlobals x = some (some (.ref f))) (e2 : K.lookup f = some { cls := .type "function",data := .func (docDef x (paramsOf (stmtAt i)) (bodyOf (stmtAt i)) (scopeOf (stmtAt i)) pm (.ref c) doc) }) (e3 : recIn K c x = true) : DefOkC (TopE h₀ ex) x i f (.ref c) :=
  ⟨glob_is X B e1,pm,doc,def_at X B e2,rec_at X B e3⟩
theorem bui_at (X : K.In h₀) (F : obsK K = wantK) (B : Base h₀ mg mb) {T : Addr} (hT : T ∈ tabsL) (h : Heap) (t : TopE h₀ ex h) : h.BuiltinsAt mg T := by
  refine ⟨4, _,mg_of X B.g (n_bi F),by decide,by decide, ?_,B.cls t (X _ _ (k_main F)) (by intro c; cases c),rfl,rfl,rfl⟩
  simp only [tabsL,List.mem_cons,List.not_mem_nil,or_false] at hT
  rcases hT with rfl | rfl | rfl | rfl <;> decide
theorem nest_of (X : K.In h₀) (F : obsK K = wantK) (B : Base h₀ mg mb) {pos : Pos} {qual : Str} {c T : Addr} (hT : T ∈ tabsL) (h58 : T ≠ 58) (e : headIn K c T = true) (hf : ∀ h,TopE h₀ ex h -> Form h 0 T [(pos,qual)]) (q1 : T = 30 -> qual = qInner4) (q2 : T = 37 -> qual = qInner5) (q3 : T ≠ 171) : Nest h₀.objs.size (TopE h₀ ex) (.ref c) pos qual c T where
  cd := rfl
  low := B.lt T hT
  gl := by
    simp only [tabsL,List.mem_cons,List.not_mem_nil,or_false] at hT
    rcases hT with rfl | rfl | rfl | rfl <;> decide
  code := head_at X B e
  glob := fun h t => ⟨mg,B.nsG t,bui_at X F B hT h t⟩
  tab := fun h t => by
    obtain ⟨ps,a,b,c⟩ := hf h t
    exact ⟨ps,a,b,(c (pos,qual) List.mem_cons_self).imp id fun ⟨c', _,e,r⟩ => ⟨c',e,r⟩⟩
  upd := fun h h' ps c' t hg _ k z hg' hr => t.grow hT h58 hg k z hg' hr q1 q2 fun e => absurd e q3
theorem lam_of (X : K.In h₀) (F : obsK K = wantK) (B : Base h₀ mg mb) {pos : Pos} (hq : (pos,qLam) ∈ pqL) (e : headIn K 173 171 = true) : LamN h₀.objs.size (TopE h₀ ex) (.ref 173) pos qLam 173 171 where
  cd := rfl
  low := B.lt 171 (by decide)
  gl := by decide
  code := head_at X B e
  glob := fun h t => ⟨mg,B.nsG t,bui_at X F B (by decide) h t⟩
  tab := fun h t => by
    obtain ⟨ps,a,b,c⟩ := t.fL
    exact ⟨ps,a,b,c (pos,qLam) hq⟩
  upd := fun h h' ps c' t hg _ k z hg' hl hr => t.grow (by decide) (by decide) hg k z hg' hr (fun e => absurd e (by decide)) (fun e => absurd e (by decide)) fun _ => ⟨rfl,hl⟩
noncomputable def gz_of (X : K.In h₀) (F : obsK K = wantK) (B : Base h₀ mg mb) : GZ h₀.objs.size (TopE h₀ ex) where
  T := B.ok ex
  fSigns := 133
  fBits := 138
  fTold := 145
  fSigned := 150
  fAll := 157
  fDone := 164
  fDrawn := 169
  fMode := 79
  fFmt := 86
  fFile := 126
  fDig := 35
  fInt := 42
  fDiv2 := 21
  fPos := 49
  fDivmod := 56
  dSigns := def_ok X B (n_lawsigns F) (k_lawsigns F) (r_lawsigns F)
  dBits := def_ok X B (n_lawbits F) (k_lawbits F) (r_lawbits F)
  dTold := def_ok X B (n_lawtold F) (k_lawtold F) (r_lawtold F)
  dSigned := def_ok X B (n_lawsigned F) (k_lawsigned F) (r_lawsigned F)
  dAll := def_ok X B (n_lawall F) (k_lawall F) (r_lawall F)
  dDone := def_ok X B (n_lawdone F) (k_lawdone F) (r_lawdone F)
  dDrawn := def_ok X B (n_lawdrawn F) (k_lawdrawn F) (r_lawdrawn F)
  dMode := def_ok X B (n_SIMODE F) (k_SIMODE F) (r_SIMODE F)
  dFmt := def_ok X B (n_SIFMT F) (k_SIFMT F) (r_SIFMT F)
  dFile := def_ok X B (n_filemode F) (k_filemode F) (r_filemode F)
  dDig := def_ok X B (n_int2digits F) (k_int2digits F) (r_int2digits F)
  dInt := def_ok X B (n_digits2int F) (k_digits2int F) (r_digits2int F)
  dDiv2 := def_ok X B (n_div2n1n F) (k_div2n1n F) (r_div2n1n F)
  dPos := def_ok X B (n_divmodpos F) (k_divmodpos F) (r_divmodpos F)
  dDivmod := def_ok X B (n_intdivmod F) (k_intdivmod F) (r_intdivmod F)
  bRange := built_is X B (g_range F) (b_range F)
  bLen := built_is X B (g_len F) (b_len F)
  bSum := built_is X B (g_sum F) (b_sum F)
  bMax := built_is X B (g_max F) (b_max F)
  bMin := built_is X B (g_min F) (b_min F)
  bDivmod := built_is X B (g_divmod F) (b_divmod F)
  bRev := built_is X B (g_reversed F) (b_reversed F)
  bEn := built_is X B (g_enumerate F) (b_enumerate F)
  bIter := built_is X B (g_iter F) (b_iter F)
  bSorted := built_is X B (g_sorted F) (b_sorted F)
  cdInt := .ref 41
  cInt := 41
  pInt := 37
  dIntC := def_okC X B (n_digits2int F) (k_digits2int F) (r_digits2int F)
  nInt := nest_of X F B (by decide) (by decide) (r_h41 F) (fun h t => t.fD) (fun e => absurd e (by decide)) (fun _ => rfl) (by decide)
  cdDig := .ref 34
  cDig := 34
  pDig := 30
  dDigC := def_okC X B (n_int2digits F) (k_int2digits F) (r_int2digits F)
  nDig := nest_of X F B (by decide) (by decide) (r_h34 F) (fun h t => t.fI) (fun _ => rfl) (fun e => absurd e (by decide)) (by decide)
  tDiv := 189
  gDiv := glob_is X B (n_div F)
  tb := 119
  gTab := glob_is X B (n_tab F)
  hTab := fun Y h hY t => is_of X (fun b o e hc => B.cls t e hc) hY 4 _ _ (r_tab F)
  fRed := 72
  im := 64
  td := 65
  pmR := .str (Str.ofString "cpy313.functools") 269
  cdR := .ref 71
  docR := .none
  gRed := glob_is X B (n_reduce F)
  dRed := def_at X B (k_reduce F)
  cRed := rec_at X B (r_reduce F)
  hRed := fun h t => ⟨_,B.cls t (X _ _ (k_dflt F)) (by intro c; cases c),rfl,0,rfl⟩
  gIm := glob_is X B (n_im F)
noncomputable def gc_of (X : K.In h₀) (F : obsK K = wantK) (B : Base h₀ mg mb) : GC h₀.objs.size (TopE h₀ fun o => o = some (tabObj #[])) (TopE h₀ fun _ => True) where
  fCmp := 63
  pmC := .str (Str.ofString "cpy313.functools") 269
  c0 := 62
  docC := .none
  tK := 58
  gCmp := glob_is X B (n_cmptokey F)
  dCmp := def_at X B (k_cmptokey F)
  cCmp := rec_at X B (r_cmptokey F)
  tLow := B.lt 58 (by decide)
  sLow := Heap.lt_size (X _ _ (k_stat F))
  bf := fun h t => ⟨mg, _,⟨head_at X B (r_h62 F) h t,t.ex,trivial,rfl,B.nsG t,bui_at X F B (by decide) h t,by decide,by decide,⟨_,mg_of X B.g (n_name F)⟩,t.st _ _ (X _ _ (k_stat F)) (by decide),by kernel_rfl,(B.ok _).limit h t⟩,
    ⟨mb,B.nsB t,ns_val_of X B.b (b_build_class F),ns_val_of X B.b (b_object F)⟩,mg_none_of X B.g (g_object F)⟩
  but := fun h h' t k z hq => by
    have n (P : Addr) (hP : P ≠ 58) (f : Form h 0 P pqI) : True := trivial
    have f58 : ∃ ps,h.get? 58 = some (tabObj ps) ∧ TriplesOk ps.toList := ⟨#[],t.ex,trivial⟩
    obtain ⟨ps,e58,htr⟩ := f58
    exact ⟨fun b o e hb => k _ _ (fun e' => hb (by rw [e']; decide)) (t.st b o e hb),Nat.le_trans t.sz z,t.fI.ext (by decide) e58 htr k,t.fD.ext (by decide) e58 htr k,t.fL.ext (by decide) e58 htr k,hq,trivial⟩
end
end
section
set_option autoImplicit false
section
variable {h₀ : Heap} {mg mb : Str -> Option Value} {K : Frag}
theorem old_of (X : K.In h₀) (F : obsK K = wantK) (B : Base h₀ mg mb) {h : Heap} (t : TopE h₀ (fun _ => True) h) : OldK h₀ h := by
  have tb : ∀ (c T : Addr) (ps : Array Value),headIn K c T = true -> h₀.get? T = some (tabObj #[]) -> h.get? T = some (tabObj ps) -> ∀ o,h₀.get? T = some o -> asItWas h₀ h T o := fun c T ps e e0 e1 o eo => by
    rw [e0] at eo
    cases eo
    exact .inr (.inl ⟨((head_of X e).tab e0).isCodeTable,rfl, #[],ps,rfl,by rw [e1]; simp⟩)
  obtain ⟨p1,f1, _⟩ := t.fI
  obtain ⟨p2,f2, _⟩ := t.fD
  obtain ⟨p3,f3⟩ := t.fC
  obtain ⟨p4,f4, _⟩ := t.fL
  refine ⟨fun b o e => ?_,fun b o e => ?_⟩
  . by_cases hb : b ∈ tabsL
    . simp only [tabsL,List.mem_cons,List.not_mem_nil,or_false] at hb
      rcases hb with rfl | rfl | rfl | rfl
      . exact tb 34 30 p1 (r_h34 F) B.t30 f1 o e
      . exact tb 41 37 p2 (r_h41 F) B.t37 f2 o e
      . exact tb 62 58 p3 (r_h62 F) B.t58 f3 o e
      . exact tb 173 171 p4 (r_h173 F) B.t171 f4 o e
    . exact .inl (t.st b o e hb)
  . by_cases hb : b ∈ tabsL
    . simp only [tabsL,List.mem_cons,List.not_mem_nil,or_false] at hb
      rcases hb with rfl | rfl | rfl | rfl
      . exact ⟨_,f1⟩
      . exact ⟨_,f2⟩
      . exact ⟨_,f3⟩
      . exact ⟨_,f4⟩
    . exact ⟨_,t.st b o e hb⟩
end
end
end Mine
theorem PySem.Challenge.cw_oc0164_01_holds : PySem.Challenge.rw_oc0164_01.Holds := by
  refine holds_law Mine.said0 fun said => ?_
  refine holds_open (q := Mine.QQ) (loose := Mine.LL) (Xt := fun _ => true) (XP := fun _ _ => True) (Yf := Mine.topHook.obs) (Ya := Mine.topHook.val) (YP := Mine.topHook.says) (d := Mine.dLaw) (kwd := []) (N := 2134) Mine.left0 Mine.topHook.of Mine.topHook.keeps (fun _ _ => trivial) (fun _ _ _ _ _ => trivial) (by kernel_rfl) (by kernel_rfl) (by kernel_rfl) (fun s _ => recFacts_of (by kernel_rfl)) (by kernel_rfl) said (by decide +kernel) ⟨rfl,rfl,rfl,rfl,rfl,by decide +kernel⟩ (by w_witness2) ?_
  intro w s₀ s₁ mg mb G Y fa o pm cd doc dV kV ho hd hcd hD hmg hg args vals as hpre hlay hrd hwl hlo
  obtain ⟨K,KX,KF⟩ := Y
  refine Ground.open G ?_
  intro T B D TE TW
  clear D TE TW B
  wrow_args hpre hlay hrd hwl hlo
  rename_i ns _ _ _ _ _ _ _ l vs _ hL _ hW _ hI _ hcond _
  have BB := Mine.base_of KX KF T.g T.b T.nolimit
  have e1 := hmg.symm.trans (mg_of KX T.g (Mine.n_law KF))
  cases e1
  have hlen : ns.length ≤ 63 := by omega
  have hv : Mine.Is [] s₁.heap (.ref l) (Mine.intsP ns) := by
    obtain ⟨us,hus⟩ : ∃ us : List Value,s₁.heap.get? l = some { cls := .type "list",data := .seq us.toArray } := by
      cases hW with
      | list e _ => exact ⟨_,e⟩
    obtain ⟨ol,hol,hcl,n,hdl⟩ := hL
    rw [hus] at hol
    cases hol
    cases hdl
    exact .list (by simp) ⟨0,hus⟩ (Mine.IsL.ofInts hI)
  show wpAny (Mine.MM w) callerA (call (.ref 174) [.ref l]) _ _ s₁
  refine Mine.law_call (Mine.gz_of KX KF BB) (Mine.gz_of KX KF BB) (Mine.gc_of KX KF BB) (Mine.def_okC KX BB (Mine.n_law KF) (Mine.k_law KF) (Mine.r_law KF)) (Mine.lam_of KX KF BB (by decide) (Mine.r_h173 KF)) (Mine.lam_of KX KF BB (by decide) (Mine.r_h173 KF)) ⟨rfl,by decide,by decide⟩ hlen hv BB.start fun h' tk nx t0 => ?_
  exact ⟨.inl ⟨.bool true, .bool true, [],rfl,fun _ => rfl, .bool true,(by with_unfolding_all rfl),fun _ => ⟨.nil,fun a h => by cases h⟩⟩,Mine.old_of KX KF BB t0,rfl, .of_eq hg⟩
