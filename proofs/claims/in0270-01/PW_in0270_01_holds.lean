import PyProof.Rows.All
import Wide.All
import OpenK.AllK
import Wide.FinOn
import KE.KLam
import KE.KSortKey
import PyProof.Rows.SortStr
import PyProof.ListRange
import KE.KNest
import PyProof.ExcFactsAll.ValueError
import PyProof.ExcAttrAll.ValueError
import PyProof.StationsW
import Lean
import PySem.Challenge.RW_in0270_01
open PySem PySem.W PyProof.Rows
set_option Elab.async false
set_option maxRecDepth 100000
set_option maxHeartbeats 0
set_option linter.unusedVariables false
set_option linter.unusedSimpArgs false
set_option autoImplicit false
set_option genSizeOf false
set_option compiler.extract_closed false
set_option backward.match.sparseCases false
open List (all_eq_true any_cons append_assoc append_nil cons_append cons_lt_cons_iff cons_ne_nil contains_cons dropLast_concat dropLast_concat_getLast drop_append_length drop_drop drop_eq_getElem_cons drop_eq_nil_of_le drop_zero exists_cons_of_ne_nil ext_getElem? filterMap_cons_none filterMap_cons_some filter_cons filter_eq_nil_iff filter_eq_self find?_cons flatMap_cons flatMap_map flatten_append flatten_cons foldl_append foldl_cons foldl_toArray forIn_cons forIn_nil getD_eq_getElem?_getD getElem?_append_left getElem?_append_right getElem?_drop getElem?_eq_getElem getElem?_map getElem?_range getElem?_set_ne getElem?_set_self getElem_of_mem getElem_zip getLast?_concat getLast?_eq_none_iff getLast?_eq_some_iff head?_eq_some_iff isEmpty_iff length_append length_cons length_eq_zero_iff length_filter_le length_flatten length_map length_nil length_pos_iff length_range length_reverse length_set length_singleton length_take_le length_take_le' lookup_cons lookup_nil map_append map_congr_left map_cons map_drop map_eq_nil_iff map_map map_nil map_reverse map_take mem_append mem_cons mem_cons_of_mem mem_cons_self mem_filter mem_filterMap mem_flatMap mem_map mem_map_of_mem mem_of_getElem? mem_of_mem_drop mem_of_mem_take mem_or_eq_of_mem_set mem_range mem_range'_1 mem_reverse mem_singleton mem_singleton_self nil_append nodup_append nodup_cons nodup_nil not_mem_nil of_mem_zip pairwise_cons range_eq_range' range_succ_eq_map replicate_succ reverse_perm size_toArray sum_cons sum_nil take_append take_eq_nil_iff take_length take_of_length_le take_succ_cons)
open Array (forIn_toList getElem?_push getElem?_setIfInBounds_ne getElem?_toList length_toList size_extract toList_extract toList_inj)
open PySem.Heap (get?_push_of_some get?_push_size get?_update_ne get?_update_self lt_size)
open PySem.Str (ofString)
open Nat (add_comm add_le_add_left add_sub_cancel_left add_zero div_le_self eq_zero_or_pos le_add_left le_add_right le_of_eq le_of_lt le_of_lt_succ le_refl le_total le_trans lt_irrefl lt_of_le_of_lt lt_of_lt_of_le lt_succ_iff_lt_or_eq lt_succ_self min_eq_left min_eq_right min_le_right mod_lt ne_of_gt ne_of_lt not_lt sub_le sub_zero succ_le_of_lt succ_le_succ succ_ne_zero succ_pos zero_add zero_le)
namespace Mine
universe u
@[elab_as_elim] theorem aJ {α : Sort u} {a b : α} {P : α -> Prop} (h : a = b) (p : P b) : P a := h ▸ p
@[elab_as_elim] theorem cE {α : Sort u} {a b : α} {P : α -> Prop} (h : b = a) (p : P b) : P a := h ▸ p
theorem ns {α : Type u} {x : Option α} {b : α} {C : Prop} (h : x = none) (e : x = some b) : C := by rw [h] at e;cases e
theorem nS {α : Type u} {b : α} {C : Prop} (h : none = some b) : C := by cases h
theorem sN {α : Type u} {b : α} {C : Prop} (h : some b = none) : C := by cases h
theorem si {α : Type u} {a b : α} (h : some a = some b) : a = b := Option.some.inj h
theorem xL {i n : Nat} (h : i < n) : ¬ i ∈ [n] := mt mem_singleton.mp (ne_of_lt h)
theorem lA {α : Type} {l : List α} {x : α} : (l ++ [x]).length = l.length + 1 := length_append
theorem aS {a n : Nat} : a + 1 + n = a + (n + 1) := Nat.add_right_comm a 1 n
theorem lS {α : Type} {l : List α} {x : α} {n m : Nat} (h : l.length + (n + 1) <= m) : (l ++ [x]).length + n <= m := aJ lA (aJ aS h)
theorem nz {n m k : Nat} (h : n <= k) (g : k <= m) : 0 + n <= m := aJ (zero_add n) (le_trans h g)
theorem lm {α β : Type} {f : α -> β} {l : List α} {n : Nat} (h : l.length <= n) : (l.map f).length <= n := aJ (length_map f) h
theorem Ht {α β : Type} {f : α -> β} {l : List α} {n : Nat} (h : l.length < n) : (l.map f).length < n := aJ (length_map f) h
theorem lR {s m n : Nat} (h : m <= n) : (List.range' s m).length <= n := aJ List.length_range' h
theorem O7 {m n : Nat} (h : m <= n) : (List.range m).length <= n := aJ length_range h
theorem pL {α : Type} {a b c : List α} {x : α} : (a.length : Int) < ((a ++ b ++ x :: c).length : Int) := Int.ofNat_lt.mpr (aJ length_append (aJ length_append (aJ (Nat.add_assoc ..) (Nat.lt_add_of_pos_right (succ_pos _)))))
theorem O8 {α : Type} {a b c : List α} {x : α} : (a.length : Int) < ((a ++ x :: b ++ c).length : Int) := by rw [append_assoc];exact Int.ofNat_lt.mpr (aJ length_append (Nat.lt_add_of_pos_right (succ_pos _)))
theorem pE {α : Type} {a : List α} {x : α} {n : Nat} : (((a ++ [x]).length + n : Nat) : Int) = ((a.length + (n + 1) : Nat) : Int) := congrArg _ ((congrArg (· + n) lA).trans aS)
theorem O9 {α : Type} {i : Nat} {a b : List α} (h : i < a.length) : i ≠ (a ++ b).length := ne_of_lt (lt_of_lt_of_le h (length_append ▸ le_add_right _ _))
theorem nL {α : Type} {a : List α} {x : α} : -((a ++ [x]).length : Int) <= -1 := by rw [lA];exact Int.neg_le_neg (Int.ofNat_le.mpr (succ_pos _))
theorem tL {α : Type} {a : List α} {x : α} : (-1 + ((a ++ [x]).length : Int)).toNat = a.length := by rw [lA];lia
theorem aM {α : Type} {a b : List α} {x : α} : (a ++ x :: b)[a.length]? = some x := aJ (getElem?_append_right (le_refl _)) (aJ (Nat.sub_self _) rfl)
theorem Q1 {α : Type} {a b : List α} {x : α} : (a ++ [x] ++ b)[a.length]? = some x := aJ (append_assoc ..) aM
theorem Ot {α : Type} {a b c : List α} {x : α} : (a ++ x :: b ++ c)[a.length]? = some x := aJ (append_assoc ..) aM
theorem nQ {α : Type} {M : Model} {A : Around} {t : Sem α} {Q : α -> Shared -> Prop} {E : Value -> Shared -> Prop} {s : Shared} (h : let Q' := Q;wpAny M A t Q' E s) : wpAny M A t Q E s := h
theorem nE {α : Type} {M : Model} {A : Around} {t : Sem α} {Q : α -> Shared -> Prop} {E : Value -> Shared -> Prop} {s : Shared} (h : let E' := E;wpAny M A t Q E' s) : wpAny M A t Q E s := h
theorem nC {M : Model} {A : Around} {c : Code} {Q : Result -> Shared -> Prop} {s : Shared} (h : let Q' := Q;codeAny M A c Q' s) : codeAny M A c Q s := h
@[elab_as_elim] theorem nV {α : Sort u} {P : α -> Prop} (a : α) (h : let x := a;P x) : P a := h
theorem iL {a b : Nat} : (a : Int) < a + ((b : Int) + 1) := Int.ofNat_lt.mpr (Nat.lt_add_of_pos_right (succ_pos b))
theorem Pa {i : Nat} (h : i <= 8) : i ≠ 9 /\ i ≠ 10 /\ i ≠ 11 /\ i ≠ 12 := by
 refine ⟨?_,?_,?_,?_⟩ <;> exact ne_of_lt (lt_of_le_of_lt h (by decide))
theorem Pb {p : Nat} : p < 2 * p + 1 := Nat.lt_succ_of_le (Nat.le_mul_of_pos_left _ (by decide))
inductive MV where
 | none
 | bool (b : Bool)
 | int (i : Int)
 | str (x : Str)
 | tup (xs : List MV)
 | ref (i : Nat)
 | val (v : Value)
 | app (i : Nat)
inductive MO where
 | list (xs : List MV)
 | obj
noncomputable abbrev bI := Nat -> Option MV
noncomputable abbrev cB := Value -> Shared -> Prop
noncomputable abbrev cM := MV -> List MO -> Prop
theorem bP {p : Prop} (h : (p -> False) -> False) : p := Classical.byContradiction h
theorem kE {α β : Type} {E : α -> β -> Prop} (a : α) (b : β) (h : E a b) : E a b := h
inductive Sm {α : Type} (o : Option α) (P : α -> Prop) : Prop
 | mk (v : α) (h : o = some v) (p : P v) : Sm o P
inductive Is {α β : Type} (f : α -> β) (v : β) (P : α -> Prop) : Prop
 | mk (x : α) (h : v = f x) (p : P x) : Is f v P
noncomputable abbrev WE := bI -> List MO -> (MV -> List MO -> Prop) -> Prop
mutual
noncomputable def VR (α : List Addr) (h : Heap) : MV -> Value -> Prop
 | .none,v => v = .none
 | .bool b,v => v = .bool b
 | .int i,v => ∃ t,v = .int i t
 | .str x,v => ∃ t,v = .str x t /\ x.length <= sizeLine
 | .tup xs,v => xs.length <= 1000 /\ ∃ a vs n,v = .ref a /\ h.get? a = some { cls := .type "tuple",data := .seq vs n } /\ c8 α h xs vs.toList
 | .ref i,v => ∃ a,α[i]? = some a /\ v = .ref a
 | .val u,v => v = u
 | .app i,v => ∃ a b,α[i]? = some a /\ v = .ref b /\ h.get? b = some { cls := .type "builtin_function_or_method",data := .fields #[.builtin "list.append",.ref a] }
noncomputable def c8 (α : List Addr) (h : Heap) : List MV -> List Value -> Prop
 | [],vs => vs = []
 | x :: xs,vs => ∃ v r,vs = v :: r /\ VR α h x v /\ c8 α h xs r
end
noncomputable def Mb (o : Obj) : Prop := (∃ vs n,o = { cls := .type "tuple",data := .seq vs n }) \/ (∃ vs,o = { cls := .type "builtin_function_or_method",data := .fields vs })
noncomputable def tI (h h' : Heap) : Prop := ∀ b o,h.get? b = some o -> Mb o -> h'.get? b = some o
mutual
theorem VR.mono {α : List Addr} {h h' : Heap} (β : List Addr) (k : tI h h') : ∀ {x : MV} {v : Value},VR α h x v -> VR (α ++ β) h' x v
 | .none,v,r => r
 | .bool b,v,r => r
 | .int i,v,r => r
 | .str x,v,r => r
 | .tup xs,v,r => by
   refine bP fun no => ?_;obtain ⟨l,a,vs,n,e,g,q⟩ := r;refine no ?_;exact ⟨l,a,vs,n,e,k _ _ g (.inl ⟨vs,n,rfl⟩),c8.mono β k q⟩
 | .ref i,v,r => by
   obtain ⟨a,e,q⟩ := r;exact ⟨a,by refine aJ (getElem?_append_left (List.getElem?_eq_some_iff.mp e).1) ?_;exact e,q⟩
 | .val u,v,r => r
 | .app i,v,r => by
   refine bP fun no => ?_;obtain ⟨a,b,e,q,g⟩ := r;refine no ?_;exact ⟨a,b,by refine aJ (getElem?_append_left (List.getElem?_eq_some_iff.mp e).1) ?_;exact e,q,k _ _ g (.inr ⟨_,rfl⟩)⟩
theorem c8.mono {α : List Addr} {h h' : Heap} (β : List Addr) (k : tI h h') : ∀ {xs : List MV} {vs : List Value},c8 α h xs vs -> c8 (α ++ β) h' xs vs
 | [],vs,r => r
 | x :: xs,vs,r => by
   obtain ⟨v,r',e,q,q'⟩ := r;exact ⟨v,r',e,VR.mono β k q,c8.mono β k q'⟩
end
noncomputable def OR (α : List Addr) (h : Heap) (a : Addr) : MO -> Prop
 | .list xs => xs.length <= 2 ^ 30 /\ ∃ vs n,h.get? a = some { cls := .type "list",data := .seq vs n } /\ c8 α h xs vs.toList
 | .obj => h.get? a = some { cls := .type "object" }
structure Gl where
 prog : Program
 w : World
 h₀ : Heap
 mg : Str -> Option Value
 mb : Str -> Option Value
 tabs : List (Addr × Addr)
 qual : Pos -> Option Str
noncomputable abbrev Gl.tb (G : Gl) : List Addr := G.tabs.map (·.2)
noncomputable def Au (G : Gl) (h : Heap) : Prop := ∀ q ∈ G.tabs,∃ ps,h.get? q.2 = some (tabObj ps) /\ TriplesOk ps.toList /\
 ∀ pos cv,codeAmong pos ps.toList = some cv -> ∃ c',cv = .ref c' /\ ∀ n,G.qual pos = some n -> h.CodeRec (.ref c') n
structure cL (G : Gl) (α : List Addr) (H : List MO) (s : Shared) : Prop where
 base : ∀ b o,G.h₀.get? b = some o -> s.heap.get? b = some o
 len : α.length = H.length
 nodup : α.Nodup
 fresh : ∀ a ∈ α,G.h₀.get? a = none
 objs : ∀ (i : Nat) (a : Addr) (o : MO),α[i]? = some a -> H[i]? = some o -> OR α s.heap a o
 tabs : Au G s.heap
 bare : AllBare s.gens
structure a5 (G : Gl) (X : List Addr) (α : List Addr) (s : Shared) (α' : List Addr) (s' : Shared) : Prop where
 ext : ∃ β,α' = α ++ β /\ ∀ a ∈ β,s.heap.get? a = none
 keep : ∀ b o,s.heap.get? b = some o -> b ∉ α -> b ∉ G.tb -> b ∉ X -> s'.heap.get? b = some o
 imm : tI s.heap s'.heap
 drawn : s'.drawn = s.drawn
 os : s'.os = s.os
 gens : ∀ (i : Nat) (g : GenState),s.gens[i]? = some g -> s'.gens[i]? = some g
 there : ∀ b o,s.heap.get? b = some o -> ∃ o',s'.heap.get? b = some o'
theorem a5.refl {G : Gl} {X α : List Addr} {s : Shared} : a5 G X α s α s :=
 ⟨⟨[],by simp,by exact fun _ h => absurd h not_mem_nil⟩,fun _ _ e _ _ _ => e,fun _ _ e _ => e,rfl,rfl,fun _ _ e => e,fun _ o e => ⟨o,e⟩⟩
theorem a5.trans {G : Gl} {X α α' α'' : List Addr} {s s' s'' : Shared} (a : a5 G X α s α' s') (b : a5 G X α' s' α'' s'') : a5 G X α s α'' s'' := by
 obtain ⟨β,rfl,hβ⟩ := a.ext;obtain ⟨γ,rfl,hγ⟩ := b.ext;refine ⟨⟨β ++ γ,by simp,fun x hx => ?_⟩,fun x o e h1 h2 h3 => ?_,fun x o e i => b.imm _ _ (a.imm _ _ e i) i,b.drawn.trans a.drawn,b.os.trans a.os,fun i g e => b.gens i g (a.gens i g e),fun x o e => ?_⟩
 · rcases mem_append.mp hx with h | h
   · exact hβ x h
   · cases q : s.heap.get? x with
     | none => rfl
     | some o =>
       obtain ⟨o',e'⟩ := a.there x o q;rw [hγ x h] at e';exact nS e'
 · refine b.keep x o (a.keep x o e h1 h2 h3) (fun h => ?_) h2 h3;rcases mem_append.mp h with h | h
   · exact h1 h
   · rw [hβ x h] at e;exact nS e
 · obtain ⟨o',e'⟩ := a.there x o e;exact b.there x o' e'
theorem a5.weak {G : Gl} {X Y α α' : List Addr} {s s' : Shared} (a : a5 G X α s α' s') (h : ∀ x ∈ X,x ∈ Y) : a5 G Y α s α' s' :=
 ⟨a.ext,fun b o e h1 h2 h3 => a.keep b o e h1 h2 fun q => h3 (h _ q),a.imm,a.drawn,a.os,a.gens,a.there⟩
theorem a5.nil {G : Gl} {Y α α' : List Addr} {s s' : Shared} (a : a5 G [] α s α' s') : a5 G Y α s α' s' := a.weak (by exact fun _ h => absurd h not_mem_nil)
theorem VR.step {G : Gl} {X α α' : List Addr} {s s' : Shared} (a : a5 G X α s α' s') {x : MV} {v : Value} (r : VR α s.heap x v) : VR α' s'.heap x v := by
 obtain ⟨β,rfl,_⟩ := a.ext;exact VR.mono β a.imm r
theorem c8.step {G : Gl} {X α α' : List Addr} {s s' : Shared} (a : a5 G X α s α' s') {x : List MV} {v : List Value} (r : c8 α s.heap x v) : c8 α' s'.heap x v := by
 obtain ⟨β,rfl,_⟩ := a.ext;exact c8.mono β a.imm r
noncomputable def kY (env : Env) (x : Str) (h : Heap) (v : Value) : Prop :=
 (env.kindOf x = some .local /\ ∃ m,h.Ns env.locals m /\ m x = some v) \/
 ((env.kindOf x = some .cell \/ env.kindOf x = some .free) /\ ∃ c,env.cells.lookup x = some c /\ h.IsCell c (some v))
noncomputable abbrev bV (env : Env) : List Addr := env.locals :: env.cells.map (·.2)
structure St (G : Gl) (env : Env) (names : List Str) (ρ : bI) (α : List Addr) (H : List MO) (s : Shared) : Prop where
 inv : cL G α H s
 var : ∀ (i : Nat) (x : Str) (v : MV),names[i]? = some x -> ρ i = some v -> ∃ v',kY env x s.heap v' /\ VR α s.heap v v'
 ns : ∃ m,s.heap.Ns env.locals m
 cell : ∀ x c,(x,c) ∈ env.cells -> ∃ v,s.heap.IsCell c v
 apart : ∀ a ∈ bV env,a ∉ α /\ a ∉ G.tb /\ G.h₀.get? a = none
 nodup : (bV env).Nodup
theorem cI {α : Type} : ∀ {l : List (Str × α)} {n : Str} {c : α},l.lookup n = some c -> (n,c) ∈ l := by
 intro l;induction l with
 | nil => intro n c h;exact nS h
 | cons p r ih =>
   intro n c h;cases p with | mk k v =>
   rw [lookup_cons] at h;cases hb : n == k with
   | true => rw [hb] at h;(injection h with h;subst h);rw [beq_iff_eq.mp hb];exact mem_cons_self
   | false => rw [hb] at h;exact mem_cons_of_mem _ (ih h)
theorem tJ {G : Gl} {X α α' : List Addr} {s s' : Shared} (a : a5 G X α s α' s') {b : Addr} {o : Obj} (e : s.heap.get? b = some o) (h : b ∉ α) : b ∉ α' := by
 obtain ⟨β,rfl,hβ⟩ := a.ext;intro q;rcases mem_append.mp q with q | q
 · exact h q
 · rw [hβ b q] at e;exact nS e
theorem St.kp {G : Gl} {env : Env} {names : List Str} {ρ : bI} {α : List Addr} {H : List MO} {s : Shared} (x : St G env names ρ α H s) {α' : List Addr} {s' : Shared} (a : a5 G [] α s α' s') {b : Addr} {o : Obj} (hb : b ∈ bV env) (e : s.heap.get? b = some o) : s'.heap.get? b = some o :=
 a.keep b o e (x.apart b hb).1 (x.apart b hb).2.1 not_mem_nil
theorem kY.step {G : Gl} {env : Env} {names : List Str} {ρ : bI} {α : List Addr} {H : List MO} {s : Shared} (x : St G env names ρ α H s) {α' : List Addr} {s' : Shared} (a : a5 G [] α s α' s') {n : Str} {v : Value} (l : kY env n s.heap v) : kY env n s'.heap v := by
 rcases l with ⟨hk,m,hn,hm⟩ | ⟨hk,c,hc,o,e,hd⟩
 · obtain ⟨o,es,ep,e,r⟩ := hn;exact .inl ⟨hk,m,⟨o,es,ep,x.kp a mem_cons_self e,r⟩,hm⟩
 · exact .inr ⟨hk,c,hc,o,x.kp a (mem_cons_of_mem _ (mem_map_of_mem (cI hc))) e,hd⟩
theorem St.step {G : Gl} {env : Env} {names : List Str} {ρ : bI} {α : List Addr} {H : List MO} {s : Shared} (x : St G env names ρ α H s) {α' : List Addr} {H' : List MO} {s' : Shared} (a : a5 G [] α s α' s') (i : cL G α' H' s') : St G env names ρ α' H' s' := by
 refine ⟨i,fun j n v hj hv => ?_,?_,fun n c hc => ?_,fun b hb => ⟨?_,(x.apart b hb).2⟩,x.nodup⟩
 · obtain ⟨v',l,r⟩ := x.var j n v hj hv;exact ⟨v',l.step x a,r.step a⟩
 · obtain ⟨m,o,es,ep,e,r⟩ := x.ns;exact ⟨m,o,es,ep,x.kp a mem_cons_self e,r⟩
 · obtain ⟨v,o,e,hd⟩ := x.cell n c hc;exact ⟨v,o,x.kp a (mem_cons_of_mem _ (mem_map_of_mem hc)) e,hd⟩
 · have : ∃ o,s.heap.get? b = some o := by
     rcases mem_cons.mp hb with rfl | hb
     · obtain ⟨m,o,es,ep,e,r⟩ := x.ns;exact ⟨o,e⟩
     · obtain ⟨p,hp,rfl⟩ := mem_map.mp hb;obtain ⟨v,o,e,hd⟩ := x.cell p.1 p.2 hp;exact ⟨o,e⟩
   obtain ⟨o,e⟩ := this;exact tJ a e (x.apart b hb).1
noncomputable def Ok (A : Around) (n : Nat) : Prop := A.handled = none /\ A.depth + n < recursionLimit /\ A.units + 8 * n + 128 < cLine
inductive d2 (G : Gl) (α : List Addr) (s : Shared) (P : cM) (v' : Value) (s' : Shared) : Prop
 | mk (v : MV) (H' : List MO) (α' : List Addr) (p : P v H') (r : VR α' s'.heap v v') (i : cL G α' H' s') (t : a5 G [] α s α' s') : d2 G α s P v' s'
noncomputable def aP (G : Gl) (env : Env) (names : List Str) (n : Nat) (e : Expr) (w : WE) : Prop :=
 ∀ (A : Around),Ok A n -> ∀ (E : Value -> Shared -> Prop) (s : Shared) (α : List Addr) (H : List MO) (ρ : bI) (P : MV -> List MO -> Prop),St G env names ρ α H s -> w ρ H P ->
   wpAny (model G.prog G.w) A (eval e env) (d2 G α s P) E s
theorem fM {M : Model} {A : Around} {m : Sem Value} {G : Gl} {α : List Addr} {s₀ s : Shared} {P : cM} {E Q : cB} (h : wpAny M A m (d2 G α s₀ P) E s) (k : ∀ v H' α' v' s',P v H' -> VR α' s'.heap v v' -> cL G α' H' s' -> a5 G [] α s₀ α' s' -> Q v' s') : wpAny M A m Q E s :=
 wpAny_mono h (fun _ _ ⟨v,H',α',p,r,i,t⟩ => k v H' α' _ _ p r i t) kE
theorem d2.trans {G : Gl} {α α' : List Addr} {s s' : Shared} {P : MV -> List MO -> Prop} (a : a5 G [] α s α' s') {v : Value} {s'' : Shared} (r : d2 G α' s' P v s'') : d2 G α s P v s'' := by
 obtain ⟨v,H',α'',p,q,i,b⟩ := r;exact ⟨v,H',α'',p,q,i,a.trans b⟩
structure Kp (s s' : Shared) : Prop where
 keep : ∀ b o,s.heap.get? b = some o -> s'.heap.get? b = some o
 drawn : s'.drawn = s.drawn
 os : s'.os = s.os
 gens : s'.gens = s.gens
theorem Kp.refl {s : Shared} : Kp s s := ⟨fun _ _ e => e,rfl,rfl,rfl⟩
theorem Kp.trans {s s' s'' : Shared} (a : Kp s s') (b : Kp s' s'') : Kp s s'' := ⟨fun x o e => b.keep x o (a.keep x o e),b.drawn.trans a.drawn,b.os.trans a.os,b.gens.trans a.gens⟩
theorem Kp.push {s : Shared} (o : Obj) : Kp s { s with heap := s.heap.push o } := ⟨fun _ _ e => get?_push_of_some _ e,rfl,rfl,rfl⟩
theorem Kp.tok {s : Shared} (t : Nat) : Kp s { s with toks := t } := ⟨fun _ _ e => e,rfl,rfl,rfl⟩
theorem Kp.step {G : Gl} {X α : List Addr} {s s' : Shared} (k : Kp s s') : a5 G X α s α s' :=
 ⟨⟨[],by simp,by exact fun _ h => absurd h not_mem_nil⟩,fun b o e _ _ _ => k.keep b o e,fun b o e _ => k.keep b o e,k.drawn,k.os,fun i g e => by refine aJ k.gens ?_;exact e,fun b o e => ⟨o,k.keep b o e⟩⟩
theorem VR.kp {α : List Addr} {s s' : Shared} (k : Kp s s') {x : MV} {v : Value} (r : VR α s.heap x v) : VR α s'.heap x v := by
 have := VR.mono (h' := s'.heap) [] (fun b o e _ => k.keep b o e) r
 rwa [append_nil] at this
theorem c8.kp {α : List Addr} {s s' : Shared} (k : Kp s s') {x : List MV} {v : List Value} (r : c8 α s.heap x v) : c8 α s'.heap x v := by
 have := c8.mono (h' := s'.heap) [] (fun b o e _ => k.keep b o e) r
 rwa [append_nil] at this
theorem OR.mono {α : List Addr} {h h' : Heap} (β : List Addr) (k : tI h h') {a : Addr} (e : ∀ o,h.get? a = some o -> h'.get? a = some o) : ∀ {o : MO},OR α h a o -> OR (α ++ β) h' a o
 | .list xs,⟨l,vs,n,g,r⟩ => ⟨l,vs,n,e _ g,c8.mono β k r⟩
 | .obj,g => e _ g
theorem Au.keeps {G : Gl} {h h' : Heap} (t : Au G h) (k : ∀ b o,h.get? b = some o -> h'.get? b = some o) : Au G h' := fun q hq => by
 obtain ⟨ps,e,t1,t2⟩ := t q hq;refine ⟨ps,k _ _ e,t1,fun pos cv hc => ?_⟩;obtain ⟨c',e',f⟩ := t2 pos cv hc;exact ⟨c',e',fun n hn => (f n hn).keeps k⟩
theorem cL.kp {G : Gl} {α : List Addr} {H : List MO} {s s' : Shared} (i : cL G α H s) (k : Kp s s') : cL G α H s' :=
 ⟨fun b o e => k.keep b o (i.base b o e),i.len,i.nodup,i.fresh,fun j a o h1 h2 => by
   have := OR.mono (h' := s'.heap) [] (fun b o e _ => k.keep b o e) (fun o e => k.keep a o e) (i.objs j a o h1 h2)
   rwa [append_nil] at this,i.tabs.keeps k.keep,by refine aJ k.gens ?_;exact i.bare⟩
theorem a9 {h : Heap} {a : Addr} (l : h.objs.size <= a) : h.get? a = none := by
 cases e : h.get? a with
 | none => rfl
 | some o => exact absurd (lt_size e) (not_lt.mpr l)
theorem cL.has {G : Gl} {α : List Addr} {H : List MO} {s : Shared} (i : cL G α H s) {a : Addr} (h : a ∈ α) : ∃ o,s.heap.get? a = some o := by
 obtain ⟨j,hj,e⟩ := getElem_of_mem h;have hl : j < H.length := by refine cE i.len ?_;exact hj
 have := i.objs j a H[j] (by refine cE e ?_;simp [hj]) (by simp [hl]);generalize H[j] = mo at this;cases mo with
 | list xs => obtain ⟨_,vs,n,g,_⟩ := this;exact ⟨_,g⟩
 | obj => exact ⟨_,this⟩
theorem dN {o : Obj} (h1 : o.cls ≠ .type "tuple") (h2 : o.cls ≠ .type "builtin_function_or_method") : ¬ Mb o := fun q => by
 rcases q with ⟨_,_,q⟩ | ⟨_,q⟩
 · exact h1 (aJ q rfl)
 · exact h2 (aJ q rfl)
theorem pD {o : Obj} (h1 : o.cls ≠ .none) (ps : Array Value) : o ≠ tabObj ps := fun q => h1 (aJ q rfl)
theorem cL.add {G : Gl} {α : List Addr} {H : List MO} {s s' : Shared} (i : cL G α H s) (k : Kp s s') {a : Addr} {o : MO} (hf : s.heap.get? a = none) (hn : OR α s'.heap a o) : cL G (α ++ [a]) (H ++ [o]) s' /\ a5 G [] α s (α ++ [a]) s' := by
 have hna : a ∉ α := fun q => by
   obtain ⟨o',e⟩ := i.has q;rw [hf] at e;exact nS e
 have hb : G.h₀.get? a = none := by
   cases e : G.h₀.get? a with
   | none => rfl
   | some o' => rw [i.base _ _ e] at hf;exact sN hf
 refine ⟨⟨fun b o e => k.keep b o (i.base b o e),by simp [i.len],?_,fun b hb' => ?_,fun j b o' h1 h2 => ?_,i.tabs.keeps k.keep,by rw [k.gens];exact i.bare⟩,⟨[a],rfl,fun b hb' => ?_⟩,fun b o e _ _ _ => k.keep b o e,fun b o e _ => k.keep b o e,k.drawn,k.os,fun j g e => by rw [k.gens];exact e,fun b o e => ⟨o,k.keep b o e⟩⟩
 · rw [nodup_append];exact ⟨i.nodup,by simp,fun x hx y hy => by replace hy := mem_singleton.mp hy;subst hy;exact fun q => hna (q ▸ hx)⟩
 · rcases mem_append.mp hb' with h | h
   · exact i.fresh b h
   · replace h := mem_singleton.mp h;subst h;exact hb
 · by_cases hj : j < α.length
   · rw [getElem?_append_left hj] at h1;rw [getElem?_append_left (by rw [<- i.len];exact hj)] at h2;exact OR.mono (h' := s'.heap) [a] (fun b o e _ => k.keep b o e) (fun o e => k.keep b o e) (i.objs j b o' h1 h2)
   · have hj' : j = α.length := by
       have := (List.getElem?_eq_some_iff.mp h1).1;simp at this;lia
     subst hj';rw [getElem?_append_right (le_refl _)] at h1;rw [getElem?_append_right (by rw [i.len];exact le_refl _)] at h2;simp [i.len] at h1 h2;subst h1;subst h2;exact OR.mono [a] (fun b o e _ => e) (fun o e => e) hn
 · replace hb' := mem_singleton.mp hb';subst hb';exact hf
theorem c8.length {α : List Addr} {h : Heap} : ∀ {xs : List MV} {vs : List Value},c8 α h xs vs -> xs.length = vs.length
 | [],vs,r => by skip;subst r;rfl
 | x :: xs,vs,r => by
   skip
   obtain ⟨v,r',e,q,q'⟩ := r;subst e;simp [q'.length]
theorem c8.nil {α : List Addr} {h : Heap} : c8 α h [] [] := by skip;rfl
theorem c8.cons {α : List Addr} {h : Heap} {x : MV} {v : Value} {xs : List MV} {vs : List Value} (a : VR α h x v) (b : c8 α h xs vs) : c8 α h (x :: xs) (v :: vs) := by skip;exact ⟨v,vs,rfl,a,b⟩
theorem c8.get {α : List Addr} {h : Heap} : ∀ {xs : List MV} {vs : List Value},c8 α h xs vs -> ∀ {i : Nat} {x : MV},xs[i]? = some x -> ∃ v,vs[i]? = some v /\ VR α h x v
 | [],_,r,i,x,e => by exact nS e
 | y :: xs,vs,r,i,x,e => by
   skip
   obtain ⟨v,r',rfl,q,q'⟩ := r;cases i with
   | zero => replace e := si e;subst e;exact ⟨v,rfl,q⟩
   | succ i => exact q'.get (by simpa using e)
theorem c8.append {α : List Addr} {h : Heap} : ∀ {xs ys : List MV} {vs ws : List Value},c8 α h xs vs -> c8 α h ys ws -> c8 α h (xs ++ ys) (vs ++ ws)
 | [],ys,vs,ws,r,r' => by skip;subst r;exact r'
 | y :: xs,ys,vs,ws,r,r' => by
   skip
   obtain ⟨v,w,rfl,q,q'⟩ := r;exact .cons q (q'.append r')
theorem c8.take {α : List Addr} {h : Heap} : ∀ {xs : List MV} {vs : List Value} (n : Nat),c8 α h xs vs -> c8 α h (xs.take n) (vs.take n)
 | xs,vs,0,r => by exact c8.nil
 | [],vs,n + 1,r => by skip;subst r;exact c8.nil
 | y :: xs,vs,n + 1,r => by
   skip
   obtain ⟨v,w,rfl,q,q'⟩ := r;exact c8.cons q (q'.take n)
theorem c8.set {α : List Addr} {h : Heap} : ∀ {xs : List MV} {vs : List Value} (n : Nat) {x : MV} {v : Value},c8 α h xs vs -> VR α h x v -> c8 α h (xs.set n x) (vs.set n v)
 | [],vs,n,x,v,r,_ => by skip;subst r;exact c8.nil
 | y :: xs,vs,0,x,v,r,r' => by
   skip
   obtain ⟨_,w,rfl,q,q'⟩ := r;exact c8.cons r' q'
 | y :: xs,vs,n + 1,x,v,r,r' => by
   skip
   obtain ⟨_,w,rfl,q,q'⟩ := r;exact c8.cons q (q'.set n r')
theorem c8.reverse {α : List Addr} {h : Heap} : ∀ {xs : List MV} {vs : List Value},c8 α h xs vs -> c8 α h xs.reverse vs.reverse
 | [],vs,r => by skip;subst r;exact c8.nil
 | y :: xs,vs,r => by
   skip
   obtain ⟨_,w,rfl,q,q'⟩ := r;simpa using c8.append q'.reverse (c8.cons q .nil)
theorem mP : ∀ {α : List Addr},α.Nodup -> ∀ {i j : Nat} {a : Addr},α[i]? = some a -> α[j]? = some a -> i = j := by
 intro α;induction α with
 | nil => intro _ i j a h;exact nS h
 | cons x l ih =>
   intro n i j a h h';cases i with
   | zero => cases j with
     | zero => rfl
     | succ j =>
       cases si h;exact absurd (mem_of_getElem? (show l[j]? = _ from h')) (nodup_cons.mp n).1
   | succ i => cases j with
     | zero =>
       cases si h';exact absurd (mem_of_getElem? (show l[i]? = _ from h)) (nodup_cons.mp n).1
     | succ j => exact congrArg (· + 1) (ih (nodup_cons.mp n).2 (i := i) (j := j) (a := a) h h')
theorem d2.of_kp {G : Gl} {α : List Addr} {H : List MO} {s s' : Shared} {P : cM} {v : MV} {v' : Value} (i : cL G α H s) (k : Kp s s') (r : VR α s'.heap v v') (p : P v H) : d2 G α s P v' s' :=
 ⟨v,H,α,p,r,i.kp k,k.step⟩
theorem d2.new {G : Gl} {α : List Addr} {H : List MO} {s s' : Shared} {P : cM} {a : Addr} {o : MO} (i : cL G α H s) (k : Kp s s') (hf : s.heap.get? a = none) (hn : OR α s'.heap a o) (p : P (.ref H.length) (H ++ [o])) : d2 G α s P (.ref a) s' := by
 obtain ⟨j,st⟩ := i.add k hf hn;exact ⟨.ref H.length,H ++ [o],α ++ [a],p,by skip;exact ⟨a,by simp [<- i.len],rfl⟩,j,st⟩
theorem cL.upd {G : Gl} {α : List Addr} {H : List MO} {s s' : Shared} (i : cL G α H s) {j : Nat} {a : Addr} {o : MO} (hj : α[j]? = some a) (hk : ∀ b,b ≠ a -> s'.heap.get? b = s.heap.get? b) (hn : OR α s'.heap a o) (hd : s'.drawn = s.drawn) (ho : s'.os = s.os) (hg : s'.gens = s.gens) : cL G α (H.set j o) s' /\ a5 G [] α s α s' := by
 have ha : a ∈ α := mem_of_getElem? hj;have hjl : j < H.length := by rw [<- i.len];exact (List.getElem?_eq_some_iff.mp hj).1
 obtain ⟨ob,hob,hni⟩ : ∃ ob,s.heap.get? a = some ob /\ ¬ Mb ob /\ (∀ ps,ob ≠ tabObj ps) /\ (ob.cls = .type "list" \/ ob.cls = .type "object") := by
   have := i.objs j a H[j] hj (by simp [hjl]);generalize H[j] = mo at this;cases mo with
   | list xs =>
     obtain ⟨_,vs,n,g,_⟩ := this;exact ⟨_,g,dN (show Value.type "list" ≠ Value.type "tuple" by decide) (show Value.type "list" ≠ Value.type "builtin_function_or_method" by decide),pD (show Value.type "list" ≠ Value.none by decide),.inl rfl⟩
   | obj => exact ⟨_,this,dN (by decide) (by decide),pD (by decide),.inr rfl⟩
 have imm : tI s.heap s'.heap := fun b o' e q => by
   have : b ≠ a := fun z => by rw [z,hob] at e;(injection e with e;subst e);exact hni.1 q
   rw [hk b this];exact e
 have hb : ∀ b o,G.h₀.get? b = some o -> b ≠ a := fun b o e z => by rw [z,i.fresh a ha] at e;exact nS e
 refine ⟨⟨fun b o' e => by rw [hk b (hb b o' e)];exact i.base b o' e,by simp [i.len],i.nodup,i.fresh,fun l b o' h1 h2 => ?_,fun q hq => ?_,by rw [hg];exact i.bare⟩,⟨[],by simp,by exact fun _ h => absurd h not_mem_nil⟩,fun b o' e h1 _ _ => ?_,imm,hd,ho,fun l g e => by rw [hg];exact e,fun b o' e => ?_⟩
 · by_cases hl : l = j
   · subst hl;rw [hj] at h1;(injection h1 with h1;subst h1);rw [getElem?_set_self hjl] at h2;(injection h2 with h2;subst h2);exact hn
   · rw [getElem?_set_ne (Ne.symm hl)] at h2;have hne : b ≠ a := fun z => by
       subst z;exact hl (mP i.nodup h1 hj)
     have := OR.mono (h' := s'.heap) [] imm (fun o e => by rw [hk b hne];exact e) (i.objs l b o' h1 h2)
     rwa [append_nil] at this
 · obtain ⟨ps,e,t1,t2⟩ := i.tabs q hq;have hne : q.2 ≠ a := fun z => by rw [z,hob] at e;exact hni.2.1 ps (Option.some.inj e)
   refine ⟨ps,by rw [hk _ hne];exact e,t1,fun pos cv hc => ?_⟩;obtain ⟨c',e',f⟩ := t2 pos cv hc;refine ⟨c',e',fun n hn' => ?_⟩;refine bP fun no => ?_;obtain ⟨c,oc,vs,t,z1,z2,z3,z4⟩ := f n hn';refine no ?_;refine ⟨c,oc,vs,t,z1,?_,z3,z4⟩;have hnc : c ≠ a := fun z => by
     rw [z,hob] at z2;(injection z2 with z2;subst z2);have := i.objs j a H[j] hj (by simp [hjl]);generalize H[j] = mo at this;cases mo with
     | list xs => obtain ⟨_,vs',n',g,_⟩ := this;rw [hob] at g;(injection g with g;subst g);cases z3
     | obj => rw [show s.heap.get? a = _ from this] at hob;(injection hob with hob;subst hob);cases z3
   rw [hk _ hnc];exact z2
 · have : b ≠ a := fun z => h1 (z ▸ ha);rw [hk b this];exact e
 · by_cases z : b = a
   · subst z;cases o with
     | list xs => obtain ⟨_,vs,n,g,_⟩ := hn;exact ⟨_,g⟩
     | obj => exact ⟨_,hn⟩
   · exact ⟨o',by rw [hk b z];exact e⟩
structure sK (G : Gl) : Prop where
 g : G.h₀.Ns mainGlobals G.mg
 b : G.h₀.Ns builtinsNs G.mb
 lim : G.h₀.NoLimit
section
variable {G : Gl} {env : Env} {names : List Str} {n : Nat}
noncomputable def aE (i : Nat) : WE := fun ρ H P => Sm (ρ i) (P · H)
theorem E.loc {i : Nat} {x : Str} {pos : Pos} (hk : env.scope.kind = .function := by rfl) (hx : names[i]? = some x := by rfl) (hd : (x == ("__debug__" : Str)) = false := by rfl) (hc : (x == ("__classdict__" : Str)) = false := by rfl) : aP G env names n (.Name x pos) (aE i) := by
 intro A _ E s α H ρ P st hw;refine bP fun no => ?_;obtain ⟨v,hv,hp⟩ := hw;obtain ⟨v',l,r⟩ := st.var i x v hx hv;refine no ?_;refine wpAny_Name ?_ hd;rcases l with ⟨k,m,hn,hm⟩ | ⟨k | k,c,hl,hcell⟩
 · exact wpAny_loadName_local hk k hn hm (d2.of_kp st.inv .refl r hp)
 · exact wpAny_loadName_cell hk k hl hcell (d2.of_kp st.inv .refl r hp)
 · exact wpAny_loadName_free hk k hl hcell (d2.of_kp st.inv .refl r hp) hc
noncomputable def wK (v : MV) : WE := fun _ H P => P v H
theorem E.glob {x : Str} {v : Value} {u : MV} {pos : Pos} (O : sK G) (hk : env.scope.kind = .function) (hg : env.globals = mainGlobals) (hx : env.kindOf x = some .globalImplicit) (hm : G.mg x = some v) (hr : ∀ α h,VR α h u v) (hd : (x == ("__debug__" : Str)) = false) : aP G env names n (.Name x pos) (wK u) := by
 intro A _ E s α H ρ P st hw;exact Calls.Name_function_global hk hx (Calls.loadGlobal_global (mg := G.mg) (by refine aJ hg ?_;exact O.g.keeps st.inv.base) hm (d2.of_kp st.inv .refl (hr _ _) hw)) hd
theorem E.builtin {x : Str} {v : Value} {pos : Pos} (O : sK G) (hk : env.scope.kind = .function) (hg : env.globals = mainGlobals) (hb : env.builtins = builtinsNs) (hx : env.kindOf x = some .globalImplicit) (hm : G.mg x = none) (hv : G.mb x = some v) (hd : (x == ("__debug__" : Str)) = false) : aP G env names n (.Name x pos) (wK (.val v)) := by
 intro A _ E s α H ρ P st hw;exact Calls.Name_function_global hk hx (Calls.loadGlobal_builtin (mg := G.mg) (mb := G.mb) (by refine aJ hg ?_;exact O.g.keeps st.inv.base) hm (by refine aJ hb ?_;exact O.b.keeps st.inv.base) hv (d2.of_kp st.inv .refl (by skip;rfl) hw)) hd
theorem E.kInt {i : Int} {kd : _} {pos : Pos} : aP G env names n (.Constant (.int i) kd pos) (wK (.int i)) := by
 intro A _ E s α H ρ P st hw;exact wpAny_Constant_int (d2.of_kp st.inv (Kp.tok _) (by skip;exact ⟨_,rfl⟩) hw)
theorem E.kStr {x : Str} {kd : _} {pos : Pos} (l : x.length <= sizeLine := by decide) : aP G env names n (.Constant (.str x) kd pos) (wK (.str x)) := by
 intro A _ E s α H ρ P st hw;exact wpAny_Constant_str (d2.of_kp st.inv (Kp.tok _) (by skip;exact ⟨_,rfl,l⟩) hw)
theorem E.kBool {b : Bool} {kd : _} {pos : Pos} : aP G env names n (.Constant (.bool b) kd pos) (wK (.bool b)) := by
 intro A _ E s α H ρ P st hw;exact wpAny_Constant_bool (d2.of_kp st.inv .refl (by skip;rfl) hw)
theorem E.kNone {kd : _} {pos : Pos} : aP G env names n (.Constant .none kd pos) (wK .none) := by
 intro A _ E s α H ρ P st hw;exact wpAny_Constant_none (d2.of_kp st.inv .refl (by skip;rfl) hw)
noncomputable abbrev P2 := MV -> MV -> List MO -> (MV -> List MO -> Prop) -> Prop
noncomputable def jO (G : Gl) (op : Operator) (p : P2) : Prop := ∀ (A : Around),Ok A 0 -> ∀ (E : cB) (s : Shared) (α : List Addr) (H : List MO) (P : cM) (a b : MV) (a' b' : Value),
 cL G α H s -> VR α s.heap a a' -> VR α s.heap b b' -> p a b H P -> wpAny (model G.prog G.w) A (binaryOp op a' b') (d2 G α s P) E s
theorem Ok.le {A : Around} {m k : Nat} (h : Ok A m) (l : k <= m) : Ok A k := ⟨h.1,by have := h.2.1;lia,by have := h.2.2;lia⟩
theorem Ok.zero {A : Around} {m : Nat} (h : Ok A m) : Ok A 0 := h.le (zero_le _)
noncomputable def k2 (p : MV -> MV -> List MO -> Prop) (b : WE) (ρ : bI) : cM := fun va H₁ => b ρ H₁ (p va)
noncomputable def pB (p : P2) (P : cM) (va : MV) : cM := fun vb bH => p va vb bH P
noncomputable def aX (p : P2) (a b : WE) : WE := fun ρ H P => a ρ H (k2 (pB p P) b ρ)
theorem E.bin {l r : Expr} {op : Operator} {pos : Pos} {wl wr : WE} {p : P2} (hl : aP G env names n l wl) (hr : aP G env names n r wr) (hp : jO G op p) : aP G env names n (.BinOp l op r pos) (aX p wl wr) := by
 intro A ok E s α H ρ P st hw;refine wpAny_BinOp (fM (hl A ok E s α H ρ _ st hw) fun va H₁ aQ a aO cX bO aZ aU => ?_);refine fM (hr A ok E aO aQ H₁ ρ _ (st.step aU aZ) cX) fun vb bH bL b s₂ rD dW bQ bF => ?_;exact wpAny_mono (hp A ok.zero E s₂ bL bH P va vb a b bQ (bO.step bF) dW rD) (fun v s₃ rv => (rv.trans bF).trans aU) kE
noncomputable def bD : P2 := fun a b H P => match a,b with
 | .int i,.int j => P (.int (i + j)) H
 | .str x,.str y => x.length + y.length <= sizeLine /\ P (.str (x ++ y)) H
 | .ref i,.ref j => ∃ xs ys,H[i]? = some (.list xs) /\ H[j]? = some (.list ys) /\ xs.length + ys.length <= sizeLine /\ P (.ref H.length) (H ++ [.list (xs ++ ys)])
 | _,_ => False
noncomputable def fN : P2 := fun a b H P => match a,b with
 | .int i,.int j => P (.int (i - j)) H
 | .bool p,.bool q => P (.int (p.toInt - q.toInt)) H
 | _,_ => False
noncomputable def rJ : P2 := fun a b H P => match a,b with
 | .int i,.int j => i.natAbs < 2 ^ 31 /\ P (.int (i * j)) H
 | .ref i,.int j => ∃ xs,H[i]? = some (.list xs) /\ j = 2 /\ xs.length = 1 /\ P (.ref H.length) (H ++ [.list (xs ++ xs)])
 | _,_ => False
noncomputable def rK : P2 := fun a b H P => match a,b with
 | .int i,.int j => 0 < j /\ j < 1073741824 /\ P (.int (i / j)) H
 | _,_ => False
noncomputable def pF : P2 := fun a b H P => match a,b with
 | .int i,.int j => 0 < j /\ P (.int (i % j)) H
 | _,_ => False
noncomputable def K0 : P2 := fun a b H P => match a,b with
 | .int i,.int j => i = 10 /\ j = 6 /\ P (.int 1000000) H
 | _,_ => False
noncomputable def Hx : P2 := fun a b H P => match a,b with
 | .int i,.int j => 0 <= i /\ j = 1 /\ P (.int (i / 2)) H
 | _,_ => False
inductive Mf (i : Int) : Value -> Prop
 | mk (t : Tok) : Mf i (.int i t)
inductive Mg (x : Str) : Value -> Prop
 | mk (t : Tok) : Mg x (.str x t)
inductive Mh (α : List Addr) (i : Nat) : Value -> Prop
 | mk (a : Addr) (h : α[i]? = some a) : Mh α i (.ref a)
inductive Mi (α : List Addr) (h : Heap) (xs : List MV) : Value -> Prop
 | mk (a : Addr) (vs : Array Value) (n : Nat) (g : h.get? a = some { cls := .type "tuple",data := .seq vs n }) (r : c8 α h xs vs.toList) : Mi α h xs (.ref a)
inductive Mj (α : List Addr) (h : Heap) (xs : List MV) (j : Nat) : Value -> Prop
 | mk (a : Addr) (vs : Array Value) (n : Nat) (i : α[j]? = some a) (g : h.get? a = some { cls := .type "list",data := .seq vs n }) (r : c8 α h xs vs.toList) : Mj α h xs j (.ref a)
theorem VR.int_inv {α : List Addr} {h : Heap} {i : Int} {v : Value} (r : VR α h (.int i) v) : Mf i v := by skip;obtain ⟨t,rfl⟩ := r;exact ⟨t⟩
theorem VR.str_inv {α : List Addr} {h : Heap} {x : Str} {v : Value} (r : VR α h (.str x) v) : Mg x v := by skip;obtain ⟨t,rfl,_⟩ := r;exact ⟨t⟩
theorem VR.str_len {α : List Addr} {h : Heap} {x : Str} {v : Value} (r : VR α h (.str x) v) : x.length <= sizeLine := by skip;obtain ⟨t,e,l⟩ := r;exact l
theorem VR.bool_inv {α : List Addr} {h : Heap} {b : Bool} {v : Value} (r : VR α h (.bool b) v) : v = .bool b := by skip;exact r
theorem VR.none_inv {α : List Addr} {h : Heap} {v : Value} (r : VR α h .none v) : v = .none := by skip;exact r
theorem VR.ref_inv {α : List Addr} {h : Heap} {i : Nat} {v : Value} (r : VR α h (.ref i) v) : Mh α i v := by skip;obtain ⟨a,h,rfl⟩ := r;exact ⟨a,h⟩
theorem VR.tup_inv {α : List Addr} {h : Heap} {xs : List MV} {v : Value} (r : VR α h (.tup xs) v) : Mi α h xs v := by skip;obtain ⟨_,a,vs,n,rfl,g,q⟩ := r;exact ⟨a,vs,n,g,q⟩
theorem VR.tup_len {α : List Addr} {h : Heap} {xs : List MV} {v : Value} (r : VR α h (.tup xs) v) : xs.length <= 1000 := by skip;exact r.1
theorem VR.int {α : List Addr} {h : Heap} {i : Int} {t : Tok} : VR α h (.int i) (.int i t) := by skip;exact ⟨_,rfl⟩
theorem VR.str {α : List Addr} {h : Heap} {x : Str} {t : Tok} (l : x.length <= sizeLine) : VR α h (.str x) (.str x t) := by skip;exact ⟨_,rfl,l⟩
theorem VR.bool {α : List Addr} {h : Heap} {b : Bool} : VR α h (.bool b) (.bool b) := by skip;rfl
theorem VR.val {α : List Addr} {h : Heap} {v : Value} : VR α h (.val v) v := by skip;rfl
theorem VR.tup {α : List Addr} {h : Heap} {xs : List MV} {a : Addr} {vs : Array Value} {n : Nat} (g : h.get? a = some { cls := .type "tuple",data := .seq vs n }) (r : c8 α h xs vs.toList) (l : xs.length <= 1000) : VR α h (.tup xs) (.ref a) := by skip;exact ⟨l,a,vs,n,rfl,g,r⟩
theorem VR.ref {α : List Addr} {h : Heap} {i : Nat} {a : Addr} (e : α[i]? = some a) : VR α h (.ref i) (.ref a) := by skip;exact ⟨a,e,rfl⟩
theorem cL.list {G : Gl} {α : List Addr} {H : List MO} {s : Shared} (i : cL G α H s) {j : Nat} {v : Value} {xs : List MV} (r : VR α s.heap (.ref j) v) (e : H[j]? = some (.list xs)) : Mj α s.heap xs j v := by
 obtain ⟨a,ha⟩ := r.ref_inv;obtain ⟨_,vs,n,g,q⟩ := i.objs j a _ ha e;exact ⟨a,vs,n,ha,g,q⟩
inductive Mk (α : List Addr) (h : Heap) (xs : List MV) (a : Addr) : Prop
 | mk (vs : Array Value) (n : Nat) (g : h.get? a = some { cls := .type "list",data := .seq vs n }) (r : c8 α h xs vs.toList) : Mk α h xs a
theorem cL.lst {G : Gl} {α : List Addr} {H : List MO} {s : Shared} (i : cL G α H s) {j : Nat} {a : Addr} {xs : List MV} (ha : α[j]? = some a) (e : H[j]? = some (.list xs)) : Mk α s.heap xs a := by
 obtain ⟨_,vs,n,g,q⟩ := i.objs j a _ ha e;exact ⟨vs,n,g,q⟩
theorem cL.list_len {G : Gl} {α : List Addr} {H : List MO} {s : Shared} (i : cL G α H s) {j : Nat} {v : Value} {xs : List MV} (r : VR α s.heap (.ref j) v) (e : H[j]? = some (.list xs)) : xs.length <= 2 ^ 30 := by
 obtain ⟨a,ha⟩ := r.ref_inv;exact (i.objs j a _ ha e).1
theorem K1 {n : Nat} (h : n <= sizeLine) : n <= 2 ^ 30 := le_trans h (by decide)
theorem dE {h : Heap} {a : Addr} {vs : Array Value} {n : Nat} (g : h.get? a = some { cls := .type "list",data := .seq vs n }) : h.IsList a vs := ⟨_,g,rfl,n,rfl⟩
theorem iI {h : Heap} {a : Addr} {vs : Array Value} {n : Nat} (g : h.get? a = some { cls := .type "tuple",data := .seq vs n }) : h.IsTuple a vs := ⟨_,g,rfl,n,rfl⟩
inductive II : MV -> MV -> Prop
 | i (x y : Int) : II (.int x) (.int y)
inductive Ml : MV -> MV -> Prop
 | i (x y : Int) : Ml (.int x) (.int y)
 | s (x y : Str) : Ml (.str x) (.str y)
inductive Hy : MV -> MV -> Prop
 | i (x y : Int) : Hy (.int x) (.int y)
 | s (x y : Str) : Hy (.str x) (.str y)
 | r (x y : Nat) : Hy (.ref x) (.ref y)
inductive K2 : MV -> MV -> Prop
 | i (x y : Int) : K2 (.int x) (.int y)
 | b (x y : Bool) : K2 (.bool x) (.bool y)
inductive Hz : MV -> MV -> Prop
 | i (x y : Int) : Hz (.int x) (.int y)
 | r (x : Nat) (y : Int) : Hz (.ref x) (.int y)
theorem Mm {a b : MV} {H : List MO} {P : cM} (h : bD a b H P) : Hy a b := by cases a <;> first | exact False.elim h | (cases b <;> first | exact False.elim h | exact .i _ _ | exact .s _ _ | exact .r _ _)
theorem Mn {a b : MV} {H : List MO} {P : cM} (h : fN a b H P) : K2 a b := by cases a <;> first | exact False.elim h | (cases b <;> first | exact False.elim h | exact .i _ _ | exact .b _ _)
theorem Mo {a b : MV} {H : List MO} {P : cM} (h : rJ a b H P) : Hz a b := by cases a <;> first | exact False.elim h | (cases b <;> first | exact False.elim h | exact .i _ _ | exact .r _ _)
theorem Mp {a b : MV} {H : List MO} {P : cM} (h : rK a b H P) : II a b := by cases a <;> first | exact False.elim h | (cases b <;> first | exact False.elim h | exact .i _ _)
theorem Mq {a b : MV} {H : List MO} {P : cM} (h : pF a b H P) : II a b := by cases a <;> first | exact False.elim h | (cases b <;> first | exact False.elim h | exact .i _ _)
theorem Mr {a b : MV} {H : List MO} {P : cM} (h : K0 a b H P) : II a b := by cases a <;> first | exact False.elim h | (cases b <;> first | exact False.elim h | exact .i _ _)
theorem Ms {a b : MV} {H : List MO} {P : cM} (h : Hx a b H P) : II a b := by cases a <;> first | exact False.elim h | (cases b <;> first | exact False.elim h | exact .i _ _)
theorem B.add : jO G .Add bD := by
 intro A ok E s α H P a b a' b' i ra rb hp;cases Mm hp with
 | i x y =>
   obtain ⟨t⟩ := ra.int_inv;obtain ⟨u⟩ := rb.int_inv;exact add_int (d2.of_kp i (Kp.tok _) VR.int hp)
 | s x y =>
   obtain ⟨t⟩ := ra.str_inv;obtain ⟨u⟩ := rb.str_inv;exact add_str (fun t' tk => d2.of_kp i (Kp.tok _) (VR.str (by refine aJ (Str.length_append ..) ?_;exact hp.1)) hp.2) hp.1
 | r x y =>
   refine bP fun no => ?_;obtain ⟨xs,ys,e1,e2,hsz,hp⟩ := hp;obtain ⟨a,vs,k,h1,g1,q1⟩ := i.list ra e1;obtain ⟨b,ws,l,h2,g2,q2⟩ := i.list rb e2;refine no ?_;have l1 := q1.length;have l2 := q2.length;refine concat_meets ⟨_,g1,rfl⟩ ⟨_,g2,rfl⟩ noFill_list_add seq_list_add PySem.F.slot_list_add PySem.F.entry_list_add (PySem.F.args_list_add_2 _ _) (list_addW a b vs ws k l none none #[] #[] (by simp at l1 l2;lia)) ⟨g1,g2,?_⟩;exact d2.new (o := .list (xs ++ ys)) i (Kp.push _) (a9 (le_refl _)) ⟨K1 (by simpa using hsz),_,_,get?_push_size _ rfl,by simpa using (q1.append q2).kp (Kp.push _)⟩ hp
theorem B.sub : jO G .Sub fN := by
 intro A ok E s α H P a b a' b' i ra rb hp;cases Mn hp with
 | i x y =>
   obtain ⟨t⟩ := ra.int_inv;obtain ⟨u⟩ := rb.int_inv;exact sub_int (d2.of_kp i (Kp.tok _) VR.int hp)
 | b p q =>
   obtain rfl := ra.bool_inv;obtain rfl := rb.bool_inv;refine sub_bool (d2.of_kp i (Kp.tok _) (v := .int (p.toInt - q.toInt)) ?_ hp);cases p <;> cases q <;> exact VR.int
theorem B.div : jO G .FloorDiv rK := by
 intro A ok E s α H P a b a' b' i ra rb hp;cases Mp hp with
 | i x y =>
   dsimp only [rK] at hp;obtain ⟨t⟩ := ra.int_inv;obtain ⟨u⟩ := rb.int_inv;refine floordiv_int (by omega) (d2.of_kp i (Kp.tok _) (v := .int (x / y)) ?_ hp.2.2) (.inl (PyProof.noPylong_small (by omega)));refine aJ (Int.fdiv_eq_ediv_of_nonneg _ (by omega)) ?_;exact VR.int
theorem B.mod : jO G .Mod pF := by
 intro A ok E s α H P a b a' b' i ra rb hp;cases Mq hp with
 | i x y =>
   dsimp only [pF] at hp;obtain ⟨t⟩ := ra.int_inv;obtain ⟨u⟩ := rb.int_inv;refine mod_int' (by lia) (d2.of_kp i (Kp.tok _) (v := .int (x % y)) ?_ hp.2);refine aJ (Int.fmod_eq_emod_of_nonneg _ (by lia)) ?_;exact VR.int
theorem B.pow : jO G .Pow K0 := by
 intro A ok E s α H P a b a' b' i ra rb hp;cases Mr hp with
 | i x y =>
   obtain ⟨t⟩ := ra.int_inv;obtain ⟨u⟩ := rb.int_inv;obtain ⟨rfl,rfl,hp⟩ := hp;exact AutoIntOps.pow_4 (by decide) (by decide) (by decide) (by decide) (by decide +kernel) (d2.of_kp i (Kp.tok _) VR.int hp)
theorem B.shr : jO G .RShift Hx := by
 intro A ok E s α H P a b a' b' i ra rb hp;cases Ms hp with
 | i x y =>
   obtain ⟨t⟩ := ra.int_inv;obtain ⟨u⟩ := rb.int_inv;obtain ⟨h0,rfl,hp⟩ := hp;exact wpAny_rshift1_int h0 (d2.of_kp i (Kp.tok _) VR.int hp)
theorem B.mul : jO G .Mult rJ := by
 intro A ok E s α H P a b a' b' i ra rb hp;cases Mo hp with
 | i x y =>
   dsimp only [rJ] at hp;obtain ⟨t⟩ := ra.int_inv;obtain ⟨u⟩ := rb.int_inv;exact mul_int (d2.of_kp i (Kp.tok _) VR.int hp.2) (IntMulOk.of_left (intBits_le_64 (by omega) (by omega)))
 | r j y =>
   refine bP fun no => ?_;obtain ⟨xs,e1,rfl,hl,hp⟩ := hp;obtain ⟨a,vs,k,h1,g1,q1⟩ := i.list ra e1;obtain ⟨u⟩ := rb.int_inv;have l1 := q1.length;obtain ⟨items⟩ := vs;refine no ?_;obtain ⟨x,rfl⟩ : ∃ x,items = [x] := by
     cases items with
     | nil => simp [hl] at l1
     | cons x r => cases r with
       | nil => exact ⟨x,rfl⟩
       | cons y r => simp [hl] at l1
   refine wpAny_binaryOp_repeat_ref (T := "list") (U := "int") (by decide) ⟨_,g1,rfl⟩ (fun s' => typeIs_int s' _ u) noFill_list_mul PySem.F.fills_int_mul PySem.F.slot_int_rmul repeat_list PySem.F.slot_int_index.lookup
    (call_meets PySem.F.slot_int_rmul (typeIs_int s _ u) PySem.F.entry_int_rmul (PySem.F.args_int_rmul_2 _ _) (int___rmul___int_list _ u a _ k)
     ⟨g1,rfl,⟨_,g1,rfl⟩,call_meets PySem.F.slot_list_mul ⟨_,g1,rfl⟩ PySem.F.entry_list_mul (PySem.F.args_list_mul_2 _ _)
       (AutoListH.list___mul___list_int_3 a #[x] k 2 u (by decide) (show ¬ (2 : Nat) > (2 ^ 63 - 1) / 8 by decide) (show ¬ Builtin.List.listTooLong 2 = true by decide)) ⟨g1,?_⟩⟩)
   exact d2.new (o := .list (xs ++ xs)) i (Kp.push _) (a9 (le_refl _)) ⟨by simp [hl],_,_,get?_push_size _ rfl,by exact (q1.append q1).kp (Kp.push _)⟩ hp
end
open PySem.SeqAt
open AutoSeq1 (wpAny_loadPart')
theorem Er {β : Type} {M : Model} {A : Around} {vs : List Value} {m : Sem β} {Q : β -> Shared -> Prop} {E : cB} {s : Shared} (h : wpAny M A (holding vs m) Q E s) : wpAny M A m Q E s :=
 fun Γ p hΓ => by have := h Γ p hΓ;rwa [Sem.wp_holding] at this
theorem B5 (l b : Addr) (x0 x1 y0 y1 : Value) (n n2 : Nat) (e0 : Bool) (r0 r1 : Bool) (e1 : Bool) : Meets (Builtin.«tuple.__lt__» ⟨[.ref l,.ref b],[]⟩) (fun A R s => s.heap.get? l = some { cls := .type "tuple",data := .seq #[x0,x1] n } /\ s.heap.get? b = some { cls := .type "tuple",data := .seq #[y0,y1] n2 } /\ EqAt A.in1 s x0 y0 e0 /\ EqAt A.in1 s x1 y1 e1 /\ (∀ (prog : Program) (w : World) (E : cB) (Q : cB),Q (.bool r0) s -> wpAny (model prog w) A.in1 (richCompare .Lt x0 y0) Q E s) /\ (∀ (prog : Program) (w : World) (E : cB) (Q : cB),Q (.bool r1) s -> wpAny (model prog w) A.in1 (richCompare .Lt x1 y1) Q E s) /\ R (.ok (.ret (.bool (if e0 then (if e1 then false else r1) else r0)))) s) :=
 .of_wp fun prog w A R s h => by
   refine nQ ?_;intro bU;refine nE ?_;intro Jv;refine bP fun no => ?_;obtain ⟨hp,g,d,tk,os⟩ := s;obtain ⟨hl,hb,h0,h1,c0,c1,h⟩ := h;refine no ?_;have f2 := AutoSeq1.sub_tuple_tuple;have k0 := fun (E : cB) Q => h0 prog w E Q;have k1 := fun (E : cB) Q => h1 prog w E Q;have k2 := fun (E : cB) Q => c0 prog w E Q;have k3 := fun (E : cB) Q => c1 prog w E Q
   skip
   wp_walk using wpAny_loadPart' hl,wpAny_loadPart' hb
   refine (fun (E : cB) Q hq => Er (k0 E Q hq)) _ _ ?_;cases e0 with
   | false =>
     skip
     generalize richCompare CmpOp.Lt x0 y0 = m0 at k2 ⊢
     wp_walk using k2;exact ⟨_,rfl,by exact h⟩
   | true =>
     wp_walk
     refine (fun (E : cB) Q hq => Er (k1 E Q hq)) _ _ ?_;refine nQ ?_;intro bU;cases e1 with
     | false =>
       skip
       generalize richCompare CmpOp.Lt x1 y1 = m0 at k3 ⊢
       wp_walk using k3;exact ⟨_,rfl,by exact h⟩
     | true => wp_walk;exact ⟨_,rfl,by exact h⟩
noncomputable abbrev PC := MV -> MV -> List MO -> Option Bool
noncomputable def eG (G : Gl) (op : CmpOp) (p : PC) : Prop := ∀ (A : Around),Ok A 0 -> ∀ (E : cB) (s : Shared) (α : List Addr) (H : List MO) (a b : MV) (a' b' : Value) (c : Bool) (Q : cB),
 cL G α H s -> VR α s.heap a a' -> VR α s.heap b b' -> p a b H = some c -> (∀ s',Kp s s' -> Q (.bool c) s') -> wpAny (model G.prog G.w) A (compareOp op a' b') Q E s
noncomputable def iY : MV -> MV -> Option Bool
 | .int i,.int j => some (i == j)
 | .str x,.str y => some (x == y)
 | _,_ => none
noncomputable def eP : List MV -> List MV -> Option Bool
 | [],[] => some true
 | x :: xs,y :: ys => match iY x y,eP xs ys with
   | some a,some b => some (a && b)
   | _,_ => none
 | _,_ => none
noncomputable def dH : PC := fun a b H => match a,b with
 | .int i,.int j => some (i == j)
 | .str x,.str y => some (x == y)
 | .bool p,.bool q => some (p == q)
 | .ref i,.ref j => match H[i]?,H[j]? with
   | some (.list xs),some (.list ys) => if xs.length = ys.length then eP xs ys else some false
   | _,_ => none
 | _,_ => none
noncomputable def lM : PC := fun a b H => (dH a b H).map (!·)
noncomputable def fW : PC := fun a b H => match a,b with
 | .int i,.int j => some (decide (i < j))
 | .str x,.str y => some (decide (x.cps.toList < y.cps.toList))
 | .tup [.str x,.int i],.tup [.str y,.int j] => some (if x == y then (if i == j then false else decide (i < j)) else decide (x.cps.toList < y.cps.toList))
 | _,_ => none
noncomputable def rL : PC := fun a b _ => match a,b with
 | .int i,.int j => some (decide (i > j))
 | .str x,.str y => some (decide (y.cps.toList < x.cps.toList))
 | _,_ => none
noncomputable def vD : PC := fun a b _ => match a,b with
 | .int i,.int j => some (decide (i <= j))
 | .str x,.str y => some (!decide (y.cps.toList < x.cps.toList))
 | _,_ => none
noncomputable def Es : PC := fun a b _ => match a,b with
 | .int i,.int j => some (decide (i >= j))
 | _,_ => none
noncomputable def Mc : PC := fun a b H => match a,b with
 | .none,.none => some true
 | .bool p,.bool q => some (p == q)
 | .none,.bool _ => some false
 | .bool _,.none => some false
 | .str _,.none => some false
 | .str _,.ref _ => some false
 | .ref _,.none => some false
 | .ref i,.ref j => some (i == j)
 | _,_ => none
noncomputable def d4 : PC := fun a b H => (Mc a b H).map (!·)
noncomputable def B6 : PC := fun a b _ => match a,b with
 | .str y,.str x => match y.cps.toList with
   | [c] => some (decide (c ∈ x.cps.toList))
   | _ => none
 | .str y,.tup [.str u,.str v] => some (u == y || v == y)
 | _,_ => none
noncomputable def iD : PC := fun a b H => (B6 a b H).map (!·)
theorem bJ {α : Type} {c : α} {p : Prop} (h : none = some c) : p := nomatch h
inductive Ou : MV -> MV -> Prop
 | i (x y : Int) : Ou (.int x) (.int y)
 | s (x y : Str) : Ou (.str x) (.str y)
 | t (x : Str) (i : Int) (y : Str) (j : Int) : Ou (.tup [.str x,.int i]) (.tup [.str y,.int j])
inductive Mt : MV -> MV -> Prop
 | i (x y : Int) : Mt (.int x) (.int y)
 | s (x y : Str) : Mt (.str x) (.str y)
 | b (x y : Bool) : Mt (.bool x) (.bool y)
 | r (x y : Nat) : Mt (.ref x) (.ref y)
inductive R0 : List MV -> Prop
 | mk (x : Str) (i : Int) : R0 [.str x,.int i]
inductive Pc : MV -> MV -> Prop
 | s (x y : Str) : Pc (.str x) (.str y)
 | t (x u v : Str) : Pc (.str x) (.tup [.str u,.str v])
inductive H0 : MV -> MV -> Prop
 | nn : H0 .none .none
 | bb (p q : Bool) : H0 (.bool p) (.bool q)
 | nb (p : Bool) : H0 .none (.bool p)
 | bn (p : Bool) : H0 (.bool p) .none
 | sn (x : Str) : H0 (.str x) .none
 | sr (x : Str) (i : Nat) : H0 (.str x) (.ref i)
 | rn (i : Nat) : H0 (.ref i) .none
 | rr (i j : Nat) : H0 (.ref i) (.ref j)
theorem Pd {a b : MV} {H : List MO} {c : Bool} (h : rL a b H = some c) : Ml a b := by cases a <;> first | exact bJ h | (cases b <;> first | exact bJ h | exact .i _ _ | exact .s _ _)
theorem Pe {a b : MV} {H : List MO} {c : Bool} (h : vD a b H = some c) : Ml a b := by cases a <;> first | exact bJ h | (cases b <;> first | exact bJ h | exact .i _ _ | exact .s _ _)
theorem Pf {a b : MV} {H : List MO} {c : Bool} (h : Es a b H = some c) : II a b := by cases a <;> first | exact bJ h | (cases b <;> first | exact bJ h | exact .i _ _)
theorem Mu {a b : MV} {H : List MO} {c : Bool} (h : dH a b H = some c) : Mt a b := by cases a <;> first | exact bJ h | (cases b <;> first | exact bJ h | exact .i _ _ | exact .s _ _ | exact .b _ _ | exact .r _ _)
theorem Pg {a b : MV} {H : List MO} {c : Bool} (h : Mc a b H = some c) : H0 a b := by cases a <;> first | exact bJ h | (cases b <;> first | exact bJ h | exact .nn | exact .bb _ _ | exact .nb _ | exact .bn _ | exact .sn _ | exact .sr _ _ | exact .rn _ | exact .rr _ _)
theorem Ph {a b : MV} {H : List MO} {c : Bool} (h : fW a b H = some c) : Ou a b := by
 cases a with
 | int x => cases b <;> first | exact bJ h | exact .i _ _
 | str x => cases b <;> first | exact bJ h | exact .s _ _
 | tup l =>
   rcases l with _ | ⟨u,l⟩
   · exact bJ h
   cases u <;> first | exact bJ h | skip
   rcases l with _ | ⟨v,l⟩
   · exact bJ h
   cases v <;> first | exact bJ h | skip
   rcases l with _ | _
   · cases b <;> first | exact bJ h | skip
     rename_i m;rcases m with _ | ⟨u,m⟩
     · exact bJ h
     cases u <;> first | exact bJ h | skip
     rcases m with _ | ⟨v,m⟩
     · exact bJ h
     cases v <;> first | exact bJ h | skip
     rcases m with _ | _
     · exact .t _ _ _ _
     · exact bJ h
   · exact bJ h
 | _ => exact bJ h
theorem Pj {a b : MV} {H : List MO} {c : Bool} (h : B6 a b H = some c) : Pc a b := by
 cases a with
 | str x =>
   cases b with
   | str y => exact .s _ _
   | tup m =>
     rcases m with _ | ⟨u,m⟩
     · exact bJ h
     cases u <;> first | exact bJ h | skip
     rcases m with _ | ⟨v,m⟩
     · exact bJ h
     cases v <;> first | exact bJ h | skip
     rcases m with _ | _
     · exact .t _ _ _
     · exact bJ h
   | _ => exact bJ h
 | _ => exact bJ h
section
variable {G : Gl}
theorem C.lt : eG G .Lt fW := by
 intro A ok E s α H a b a' b' c Q i ra rb hp hq;cases Ph hp
 · obtain ⟨t⟩ := ra.int_inv;obtain ⟨u⟩ := rb.int_inv
   (injection hp with hp;subst hp)
   exact lt_int (hq _ .refl)
 · obtain ⟨t⟩ := ra.str_inv;obtain ⟨u⟩ := rb.str_inv
   (injection hp with hp;subst hp)
   exact lt_str (hq _ .refl)
 · obtain ⟨a,vs,n,g1,r1⟩ := ra.tup_inv;obtain ⟨b,ws,m,g2,r2⟩ := rb.tup_inv
   skip;obtain ⟨v0,r,e1,q0,r1⟩ := r1
   skip;obtain ⟨v1,r',e2,q1,r1⟩ := r1
   skip
   skip;obtain ⟨w0,t,f1,p0,r2⟩ := r2
   skip;obtain ⟨w1,t',f2,p1,r2⟩ := r2
   skip
   refine bP fun no => ?_;subst r1 r2 e2 f2;obtain ⟨t0⟩ := q0.str_inv;obtain ⟨t1⟩ := q1.int_inv;obtain ⟨u0⟩ := p0.str_inv;obtain ⟨u1⟩ := p1.int_inv;have e1' : vs = #[_,_] := toList_inj.mp e1;have f1' : ws = #[_,_] := toList_inj.mp f1;subst e1' f1';refine no ?_
   (injection hp with hp;subst hp)
   rename_i x i y j;refine richCompare_meets_room (op := .Lt) ⟨_,g1,rfl⟩ ⟨_,g2,rfl⟩ F.slot_tuple_lt F.entry_tuple_lt (F.args_tuple_lt_2 _ _)
     (B5 a b _ _ _ _ n m (x == y) (decide (x.cps.toList < y.cps.toList)) (decide (i < j)) (i == j))
     ⟨g1,g2,EqAt.str_str _ _ _ _,EqAt.int_int _ _ _ _,fun prog w E Q h => lt_str h,fun prog w E Q h => lt_int h,?_⟩ (by have := ok.2.2;exact lt_of_le_of_lt (le_add_right _ _) ‹_›)
   exact ⟨fun h => (nomatch h),hq _ .refl⟩
theorem C.gt : eG G .Gt rL := by
 intro A ok E s α H a b a' b' c Q i ra rb hp hq;cases Pd hp
 · obtain ⟨t⟩ := ra.int_inv;obtain ⟨u⟩ := rb.int_inv
   (injection hp with hp;subst hp)
   exact gt_int (hq _ .refl)
 · obtain ⟨t⟩ := ra.str_inv;obtain ⟨u⟩ := rb.str_inv
   (injection hp with hp;subst hp)
   exact PySem.P.gt_str (hq _ .refl)
theorem C.le : eG G .LtE vD := by
 intro A ok E s α H a b a' b' c Q i ra rb hp hq;cases Pe hp
 · obtain ⟨t⟩ := ra.int_inv;obtain ⟨u⟩ := rb.int_inv
   (injection hp with hp;subst hp)
   exact le_int (hq _ .refl)
 · obtain ⟨t⟩ := ra.str_inv;obtain ⟨u⟩ := rb.str_inv
   (injection hp with hp;subst hp)
   exact PySem.P.le_str (hq _ .refl)
theorem C.ge : eG G .GtE Es := by
 intro A ok E s α H a b a' b' c Q i ra rb hp hq;cases Pf hp
 · obtain ⟨t⟩ := ra.int_inv;obtain ⟨u⟩ := rb.int_inv
   (injection hp with hp;subst hp)
   exact ge_int (hq _ .refl)
theorem B7 {x y : MV} {xs ys : List MV} {c : Bool} {C : Prop} (h : eP (x :: xs) (y :: ys) = some c) (k : ∀ a b,iY x y = some a -> eP xs ys = some b -> (a && b) = c -> C) : C := by
 have h' : (match iY x y,eP xs ys with | some a,some b => some (a && b) | _,_ => none) = some c := h;cases e1 : iY x y with
 | none => rw [e1] at h';exact nS h'
 | some a =>
   cases e2 : eP xs ys with
   | none => rw [e1,e2] at h';exact nS h'
   | some b => rw [e1,e2] at h';exact k a b e1 e2 (si h')
theorem B8 {A : Around} {s : Shared} {α : List Addr} {h : Heap} {a b : MV} {a' b' : Value} {c : Bool} (ra : VR α h a a') (rb : VR α h b b') (e : iY a b = some c) : EqAt A s a' b' c := by
 cases a <;> first
   | exact nS e
   | (cases b <;> first
       | exact nS e
       | (obtain ⟨t⟩ := ra.int_inv;obtain ⟨u⟩ := rb.int_inv;injection e with e;subst e;exact EqAt.int_int _ _ _ _)
       | (obtain ⟨t⟩ := ra.str_inv;obtain ⟨u⟩ := rb.str_inv;injection e with e;subst e;exact EqAt.str_str _ _ _ _))
theorem pH {A : Around} {s : Shared} {α : List Addr} {h : Heap} : ∀ {xs ys : List MV} {vs ws : List Value} {c : Bool},c8 α h xs vs -> c8 α h ys ws -> eP xs ys = some c -> ∃ e : Nat -> Bool,(∀ j (h1 : j < vs.length) (h2 : j < ws.length),EqAt A s vs[j] ws[j] (e j)) /\ (List.range vs.length).all e = c := by
 intro xs;induction xs with
 | nil =>
   intro cs0;cases cs0 with
   | nil =>
     intro vs ws c r q h
     skip;subst r q;exact ⟨fun _ => true,fun j h1 => absurd h1 (Nat.not_lt_zero _),si h⟩
   | cons y ys =>
     intro vs ws c r q h;exact nS h
 | cons x xs ih =>
   intro cs0;cases cs0 with
   | nil =>
     intro vs ws c r q h;exact nS h
   | cons y ys =>
     intro vs ws c r q h;refine B7 h fun a b e1 e2 e3 => ?_;refine bP fun no => ?_;obtain ⟨v,vs,rfl,r1,r⟩ := r;obtain ⟨w,ws,rfl,q1,q⟩ := q;obtain ⟨e,k1,k2⟩ := ih r q e2;refine no ?_;refine ⟨fun j => if j = 0 then a else e (j - 1),fun j h1 h2 => ?_,?_⟩
     · cases j with
       | zero => exact B8 r1 q1 e1
       | succ j => exact k1 j (Nat.lt_of_succ_lt_succ h1) (Nat.lt_of_succ_lt_succ h2)
     · refine aJ length_cons (aJ range_succ_eq_map (aJ List.all_cons (aJ List.all_map (cE e3 (cE k2 ?_)))));rfl
theorem Av {i j : Nat} {H : List MO} {c : Bool} (h : dH (.ref i) (.ref j) H = some c) : ∃ xs ys,H[i]? = some (.list xs) /\ H[j]? = some (.list ys) /\ (if xs.length = ys.length then eP xs ys else some false) = some c := by
 have h' : (match H[i]?,H[j]? with | some (.list xs),some (.list ys) => if xs.length = ys.length then eP xs ys else some false | _,_ => none) = some c := h;generalize H[i]? = o at h';generalize H[j]? = o2 at h';cases o with
 | none => exact nS h'
 | some o => cases o <;> first | exact nS h' | (cases o2 with
   | none => exact nS h'
   | some o2 => cases o2 <;> first | exact nS h' | exact ⟨_,_,rfl,rfl,h'⟩)
theorem C.eq : eG G .Eq dH := by
 intro A ok E s α H a b a' b' c Q i ra rb hp hq;cases Mu hp with
 | b x y =>
   obtain rfl := ra.bool_inv;obtain rfl := rb.bool_inv
   (injection hp with hp;subst hp)
   exact compareEq_shaped (.bool _) (.bool _) rfl rfl (by have := ok.2.2;lia) (hq _ .refl)
 | i x y =>
   obtain ⟨t⟩ := ra.int_inv;obtain ⟨u⟩ := rb.int_inv
   (injection hp with hp;subst hp)
   exact eq_int (hq _ .refl)
 | s x y =>
   obtain ⟨t⟩ := ra.str_inv;obtain ⟨u⟩ := rb.str_inv
   (injection hp with hp;subst hp)
   exact eq_str (hq _ .refl)
 | r x y =>
   obtain ⟨xs,ys,e1,e2,e⟩ := Av hp;obtain ⟨a,vs,n,h1,g1,r1⟩ := i.list ra e1;obtain ⟨b,ws,m,h2,g2,r2⟩ := i.list rb e2;have l1 := r1.length;have l2 := r2.length;dsimp only [length_toList] at l1 l2;split at e
   · obtain ⟨f,k1,k2⟩ := pH (A := A.in1) (s := s) r1 r2 e;refine eq_listAt (e := f) (dE g1) (dE g2) (by lia) (by have := ok.2.2;exact lt_of_le_of_lt (le_add_right _ _) ‹_›) (fun j h1 h2 => by have := k1 j (by exact h1) (by exact h2);exact this) ?_;refine aJ (by exact k2 : (List.range vs.size).all f = c) ?_;exact hq _ .refl
   · (injection e with e;subst e)
     exact eq_list_lengthsAt (dE g1) (dE g2) (by simp;lia) (by have := ok.2.2;exact lt_of_le_of_lt (le_add_right _ _) ‹_›) (hq _ .refl)
theorem C.ne : eG G .NotEq lM := by
 intro A ok E s α H a b a' b' c Q i ra rb hp hq
 skip
 refine bP fun no => ?_;obtain ⟨c',hp',rfl⟩ := Option.map_eq_some_iff.mp hp;refine no ?_;clear hp;have hp := hp';clear hp';cases Mu hp with
 | b x y =>
   obtain rfl := ra.bool_inv;obtain rfl := rb.bool_inv
   (injection hp with hp;subst hp)
   exact compareNe_shaped (.bool _) (.bool _) rfl rfl (by have := ok.2.2;lia) (hq _ .refl)
 | i x y =>
   obtain ⟨t⟩ := ra.int_inv;obtain ⟨u⟩ := rb.int_inv
   (injection hp with hp;subst hp)
   exact ne_int (hq _ .refl)
 | s x y =>
   obtain ⟨t⟩ := ra.str_inv;obtain ⟨u⟩ := rb.str_inv
   (injection hp with hp;subst hp)
   exact ne_str (hq _ .refl)
 | r x y =>
   obtain ⟨xs,ys,e1,e2,e⟩ := Av hp;obtain ⟨a,vs,n,h1,g1,r1⟩ := i.list ra e1;obtain ⟨b,ws,m,h2,g2,r2⟩ := i.list rb e2;have l1 := r1.length;have l2 := r2.length;dsimp only [length_toList] at l1 l2;split at e
   · obtain ⟨f,k1,k2⟩ := pH (A := A.in1) (s := s) r1 r2 e;refine RcNeAt.lists (e := f) (dE g1) (dE g2) (by lia) (by have := ok.2.2;exact lt_of_le_of_lt (le_add_right _ _) ‹_›) (fun j h1 h2 => by have := k1 j (by exact h1) (by exact h2);exact this) _ _ _ _ ?_;refine aJ (by exact k2 : (List.range vs.size).all f = c') ?_;exact hq _ .refl
   · (injection e with e;subst e)
     exact RcNeAt.lists_lengths (dE g1) (dE g2) (by simp;lia) (by have := ok.2.2;exact lt_of_le_of_lt (le_add_right _ _) ‹_›) _ _ _ _ (hq _ .refl)
end
open PySem.SeqAt
section
variable {G : Gl}
theorem Aw {α : List Addr} {H : List MO} {s : Shared} (i : cL G α H s) {j : Nat} {a : Addr} (h : α[j]? = some a) : ∃ o,s.heap.get? a = some o /\ o.cls ≠ .type "tuple" := by
 have hl : j < H.length := by refine cE i.len ?_;exact (List.getElem?_eq_some_iff.mp h).1
 have := i.objs j a H[j] h (by simp [hl]);generalize H[j] = mo at this;cases mo with
 | list xs => obtain ⟨_,vs,n,g,_⟩ := this;exact ⟨_,g,show Value.type "list" ≠ Value.type "tuple" by decide⟩
 | obj => exact ⟨_,this,show Value.type "object" ≠ Value.type "tuple" by decide⟩
theorem C.is_all {A : Around} {E : cB} {s : Shared} {α : List Addr} {H : List MO} {a b : MV} {a' b' : Value} {c : Bool} {Q Q' : cB} (i : cL G α H s) (ra : VR α s.heap a a') (rb : VR α s.heap b b') (hp : Mc a b H = some c) (hq : Q (.bool c) s) (hq' : Q' (.bool (!c)) s) : wpAny (model G.prog G.w) A (compareOp .Is a' b') Q E s /\ wpAny (model G.prog G.w) A (compareOp .IsNot a' b') Q' E s := by
 refine nV (model G.prog G.w) ?_;intro xG;cases Pg hp
 · obtain rfl := ra.none_inv;obtain rfl := rb.none_inv;(injection hp with hp;subst hp);exact ⟨is_none hq,isNot_none hq'⟩
 · obtain rfl := ra.bool_inv;obtain rfl := rb.bool_inv;(injection hp with hp;subst hp);rename_i p q;have e : (Value.bool p == Value.bool q) = (p == q) := by cases p <;> cases q <;> rfl
   exact ⟨wpAny_is_plain rfl (by refine aJ e ?_;exact hq),wpAny_isNot_plain rfl (by refine aJ e ?_;exact hq')⟩
 · obtain rfl := ra.none_inv;obtain rfl := rb.bool_inv;(injection hp with hp;subst hp);exact ⟨wpAny_is_plain rfl hq,wpAny_isNot_plain rfl hq'⟩
 · obtain rfl := ra.bool_inv;obtain rfl := rb.none_inv;(injection hp with hp;subst hp);exact ⟨is_none hq,isNot_none hq'⟩
 · obtain ⟨_⟩ := ra.str_inv;obtain rfl := rb.none_inv;(injection hp with hp;subst hp);exact ⟨is_none hq,isNot_none hq'⟩
 · obtain ⟨_⟩ := ra.str_inv;obtain ⟨_,_⟩ := rb.ref_inv;(injection hp with hp;subst hp);exact ⟨wpAny_is_plain rfl hq,wpAny_isNot_plain rfl hq'⟩
 · obtain ⟨_,_⟩ := ra.ref_inv;obtain rfl := rb.none_inv;(injection hp with hp;subst hp);exact ⟨is_none hq,isNot_none hq'⟩
 · obtain ⟨x,hx⟩ := ra.ref_inv;obtain ⟨y,hy⟩ := rb.ref_inv;(injection hp with hp;subst hp);rename_i k l;by_cases h : k = l
   · subst h
     replace hy := hx ▸ hy;(injection hy with hy;subst hy)
     simp only [beq_self_eq_true] at hq hq';exact ⟨wpAny_is_ref_self hq,wpAny_isNot_ref_self hq'⟩
   · have hb : (k == l) = false := beq_eq_false_iff_ne.mpr h;rw [hb] at hq hq';have hxy : x ≠ y := fun e => h (mP i.nodup hx (e ▸ hy));refine bP fun no => ?_;obtain ⟨ox,gx,cx⟩ := Aw i hx;obtain ⟨oy,gy,cy⟩ := Aw i hy;refine no ?_;exact ⟨wpAny_is_ref_other hxy gx gy cx hq,wpAny_isNot_ref_other hxy gx gy cx hq'⟩
theorem C.is : eG G .Is Mc := fun A ok E s α H a b a' b' c Q i ra rb hp hq => (C.is_all (Q' := fun _ _ => True) i ra rb hp (hq _ .refl) trivial).1
theorem C.isNot : eG G .IsNot d4 := fun A ok E s α H a b a' b' c Q i ra rb hp hq => by
 skip
 obtain ⟨c',hp',rfl⟩ := Option.map_eq_some_iff.mp hp;exact (C.is_all (Q := fun _ _ => True) i ra rb hp' trivial (hq _ .refl)).2
theorem C.in_all {A : Around} {E : cB} {s : Shared} {α : List Addr} {H : List MO} {a b : MV} {a' b' : Value} {c : Bool} {Q Q' : cB} (i : cL G α H s) (ra : VR α s.heap a a') (rb : VR α s.heap b b') (hp : B6 a b H = some c) (hq : Q (.bool c) s) (hq' : Q' (.bool (!c)) s) : wpAny (model G.prog G.w) A (compareOp .In a' b') Q E s /\ wpAny (model G.prog G.w) A (compareOp .NotIn a' b') Q' E s := by
 refine nV (model G.prog G.w) ?_;intro xG;cases Pj hp
 · obtain ⟨t⟩ := ra.str_inv;obtain ⟨u⟩ := rb.str_inv;rename_i y x;have hp' : (match y.cps.toList with | [c] => some (decide (c ∈ x.cps.toList)) | _ => none) = some c := hp;generalize hc : y.cps.toList = l at hp';cases l with
   | nil => exact nS hp'
   | cons c0 l => cases l with
     | cons _ _ => exact nS hp'
     | nil =>
     (injection hp' with hp';subst hp')
     have e : y = ⟨#[c0]⟩ := by obtain ⟨l⟩ := y;obtain ⟨l⟩ := l;simp at hc;exact aJ hc rfl
     subst e;have f := StrLaws.found_one x c0;exact ⟨in_str (by refine aJ f ?_;exact hq),notIn_str (by refine aJ f ?_;exact hq')⟩
 · obtain ⟨t⟩ := ra.str_inv;obtain ⟨d,ws,m,g2,r2⟩ := rb.tup_inv
   skip;obtain ⟨w0,t0,f1,p0,r2⟩ := r2
   skip;obtain ⟨w1,t',f2,p1,r2⟩ := r2
   skip
   refine bP fun no => ?_;subst r2 f2;obtain ⟨u0⟩ := p0.str_inv;obtain ⟨u1⟩ := p1.str_inv;have f1' : ws = #[_,_] := toList_inj.mp f1;subst f1';refine no ?_;rename_i y u v
   (injection hp with hp;subst hp)
   have he : ∀ z,z ∈ (#[Value.str u u0,Value.str v u1] : Array Value) -> EqAt A.in1 s z (.str y t) (match z with | .str x _ => x == y | _ => false) := fun z hz => by
     simp at hz;rcases hz with rfl | rfl <;> exact EqAt.str_str _ _ _ _
   exact ⟨in_tupleAt _ (iI g2) he (by simpa using hq),notIn_tupleAt _ (iI g2) he (by simpa using hq')⟩
theorem C.in_ : eG G .In B6 := fun A ok E s α H a b a' b' c Q i ra rb hp hq => (C.in_all (Q' := fun _ _ => True) i ra rb hp (hq _ .refl) trivial).1
theorem C.notIn : eG G .NotIn iD := fun A ok E s α H a b a' b' c Q i ra rb hp hq => by
 skip
 obtain ⟨c',hp',rfl⟩ := Option.map_eq_some_iff.mp hp;exact (C.in_all (Q := fun _ _ => True) i ra rb hp' trivial (hq _ .refl)).2
end
section
variable {G : Gl} {env : Env} {names : List Str} {n : Nat}
noncomputable def pC (p : PC) (P : Bool -> List MO -> Prop) (va : MV) : cM := fun vb bH => Sm (p va vb bH) (P · bH)
noncomputable def kD (p : PC) (a b : WE) : WE := fun ρ H P => a ρ H (k2 (pC p fun c => P (.bool c)) b ρ)
theorem E.cmp {l r : Expr} {op : CmpOp} {pos : Pos} {wl wr : WE} {p : PC} (hl : aP G env names n l wl) (hr : aP G env names n r wr) (hp : eG G op p) (hm : behindInMarks op r = false) : aP G env names n (.Compare l [op] [r] pos) (kD p wl wr) := by
 intro A ok E s α H ρ P st hw;refine wpAny_Compare1 (fM (hl A ok E s α H ρ _ st hw) fun va H₁ aQ a aO cX bO aZ aU => ?_) hm;refine fM (hr A ok E aO aQ H₁ ρ _ (st.step aU aZ) cX) fun vb bH bL b s₂ q3 dW bQ bF => ?_;obtain ⟨c,hc,hP⟩ := q3;exact hp A ok.zero E s₂ bL bH va vb a b c _ bQ (bO.step bF) dW hc fun s' k => ((d2.of_kp bQ k VR.bool hP).trans bF).trans aU
noncomputable abbrev WT := bI -> List MO -> (Bool -> List MO -> Prop) -> Prop
inductive vF (G : Gl) (α : List Addr) (s : Shared) (P : Bool -> List MO -> Prop) (b : Bool) (s' : Shared) : Prop
 | mk (H' : List MO) (α' : List Addr) (p : P b H') (i : cL G α' H' s') (t : a5 G [] α s α' s') : vF G α s P b s'
theorem Ia {M : Model} {A : Around} {m : Sem Bool} {G : Gl} {α : List Addr} {s₀ s : Shared} {P : Bool -> List MO -> Prop} {E : cB} {Q : Bool -> Shared -> Prop} (h : wpAny M A m (vF G α s₀ P) E s) (k : ∀ H' α' b s',P b H' -> cL G α' H' s' -> a5 G [] α s₀ α' s' -> Q b s') : wpAny M A m Q E s :=
 wpAny_mono h (fun _ _ ⟨H',α',p,i,t⟩ => k H' α' _ _ p i t) kE
theorem vF.trans {α α' : List Addr} {s s' : Shared} {P : Bool -> List MO -> Prop} (a : a5 G [] α s α' s') {v : Bool} {s'' : Shared} (r : vF G α' s' P v s'') : vF G α s P v s'' := by
 obtain ⟨H',α'',p,i,b⟩ := r;exact ⟨H',α'',p,i,a.trans b⟩
noncomputable def cO (G : Gl) (env : Env) (names : List Str) (n : Nat) (e : Expr) (w : WT) : Prop :=
 ∀ (A : Around),Ok A n -> ∀ (E : cB) (s : Shared) (α : List Addr) (H : List MO) (ρ : bI) (P : Bool -> List MO -> Prop),St G env names ρ α H s -> w ρ H P ->
   wpAny (model G.prog G.w) A (isTrue e env (eval e env)) (vF G α s P) E s
noncomputable def aN (p : PC) (a b : WE) : WT := fun ρ H P => a ρ H (k2 (pC p P) b ρ)
theorem T.cmp {l r : Expr} {op : CmpOp} {pos : Pos} {wl wr : WE} {p : PC} (hl : aP G env names n l wl) (hr : aP G env names n r wr) (hp : eG G op p) (hm : behindInMarks op r = false := by rfl) : cO G env names n (.Compare l [op] [r] pos) (aN p wl wr) := by
 intro A ok E s α H ρ P st hw;refine wpAny_isTrue_Compare1 (fM (hl A ok E s α H ρ _ st hw) fun va H₁ aQ a aO cX bO aZ aU => ?_) hm;refine fM (hr A ok E aO aQ H₁ ρ _ (st.step aU aZ) cX) fun vb bH bL b s₂ q3 dW bQ bF => ?_;obtain ⟨c,hc,hP⟩ := q3;exact hp A ok.zero E s₂ bL bH va vb a b c _ bQ (bO.step bF) dW hc fun s' k => wpAny_truthy_bool ⟨bH,bL,hP,bQ.kp k,(aU.trans bF).trans k.step⟩
noncomputable def oZ (p q : PC) (a b c : WE) : WT := fun ρ H P => a ρ H (k2 (fun va vb bH => Sm (p va vb bH) fun t => if t then c ρ bH (pC q P vb) else P false bH) b ρ)
theorem T.chain {l r r' : Expr} {op op' : CmpOp} {pos : Pos} {wl wr wr' : WE} {p q : PC} (hl : aP G env names n l wl) (hr : aP G env names n r wr) (hr' : aP G env names n r' wr') (hp : eG G op p) (hq : eG G op' q) (hm : lastMarks [op,op'] [r,r'] = false) : cO G env names n (.Compare l [op,op'] [r,r'] pos) (oZ p q wl wr wr') := by
 intro A ok E s α H ρ P st hw;refine isTrue_chain (fM (hl A ok E s α H ρ _ st hw) fun va H₁ aQ a aO cX bO aZ aU => ?_) hm;show wpAny (model G.prog G.w) A (do
   let rv <- holding [a] (eval r env)
   standAt pos
   let c <- holding [a,rv] (compareOp op a rv)
   release [a,rv] [c]
   if <- holding [c,rv] (truthy c) then testChain pos rv [op'] [eval r' env] else pure false) _ E aO
 refine wpAny_bind (wpAny_holding (fM (hr A ok E aO aQ H₁ ρ _ (st.step aU aZ) cX) fun vb bH bL b s₂ q3 dW bQ bF => ?_));obtain ⟨c,hc,hP⟩ := q3;refine wpAny_bind (wpAny_standAt (wpAny_bind (wpAny_holding (hp A ok.zero E s₂ bL bH va vb a b c _ bQ (bO.step bF) dW hc fun s₃ k => ?_))));have eN := bQ.kp k;have cV : a5 G [] α s bL s₃ := (aU.trans bF).trans k.step;refine wpAny_bind (fun Γ p hΓ => (Sem.wp_release ..).mpr ?_);clear hΓ;show wpAny (model G.prog G.w) A (do
     let d <- holding [Value.bool c,b] (truthy (Value.bool c))
     if d = true then testChain pos b [op'] [eval r' env] else pure false) (vF G α s P) E s₃
 refine wpAny_bind (wpAny_holding (wpAny_truthy_bool ?_));cases c with
 | false => exact wpAny_pure ⟨bH,bL,hP,eN,cV⟩
 | true =>
   show wpAny (model G.prog G.w) A (do
     let rv <- holding [b] (eval r' env)
     standAt pos
     let c <- operate [b,rv] (compareOp op' b rv)
     holding [c] (truthy c)) _ E s₃
   refine wpAny_bind (wpAny_holding (fM (hr' A ok E s₃ bL bH ρ _ (st.step cV eN) hP) fun vd sI kW d bY q3 L6 fU iH => ?_));obtain ⟨u,hu,hPu⟩ := q3;refine wpAny_bind (wpAny_standAt (wpAny_bind (wpAny_operating (hq A ok.zero E bY kW sI vb vd b d u _ fU ((dW.kp k).step iH) L6 hu fun fT k' => ?_))));exact wpAny_holding (wpAny_truthy_bool ⟨sI,kW,hPu,fU.kp k',(cV.trans iH).trans k'.step⟩)
noncomputable def Pk (P : Bool -> List MO -> Prop) : Bool -> List MO -> Prop := fun b H' => P (!b) H'
noncomputable def eR (w : WT) : WT := fun ρ H P => w ρ H (Pk P)
theorem T.not {x : Expr} {pos : Pos} {w : WT} (h : cO G env names n x w) : cO G env names n (.UnaryOp .Not x pos) (eR w) := by
 intro A ok E s α H ρ P st hw;exact wpAny_isTrue_Not (wpAny_mono (h A ok E s α H ρ _ st hw) (fun _ _ ⟨H,α,p,i,t⟩ => ⟨H,α,p,i,t⟩) kE)
noncomputable def Mv (b : WT) (ρ : bI) (P : Bool -> List MO -> Prop) : Bool -> List MO -> Prop := fun x H' => if x then b ρ H' P else P false H'
noncomputable def dF (a b : WT) : WT := fun ρ H P => a ρ H (Mv b ρ P)
noncomputable def Pl (b : WT) (ρ : bI) (P : Bool -> List MO -> Prop) : Bool -> List MO -> Prop := fun x H' => if x then P true H' else b ρ H' P
noncomputable def rM (a b : WT) : WT := fun ρ H P => a ρ H (Pl b ρ P)
theorem T.and {x y : Expr} {pos : Pos} {a b : WT} (ha : cO G env names n x a) (hb : cO G env names n y b) : cO G env names n (.BoolOp .And [x,y] pos) (dF a b) := by
 intro A ok E s α H ρ P st hw;refine wpAny_isTrue_BoolOp (wpAny_allTrue_And_cons (Ia (ha A ok E s α H ρ _ st hw) fun H₁ aQ c aO hP aZ aU => ?_));cases c with
 | false => exact ⟨H₁,aQ,hP,aZ,aU⟩
 | true =>
   refine wpAny_allTrue_And_cons (wpAny_mono (hb A ok E aO aQ H₁ ρ _ (st.step aU aZ) hP) (fun c s₂ r => ?_) kE);have r := r.trans aU;cases c with
   | false => exact r
   | true => exact wpAny_allTrue_And_nil r
theorem T.or {x y : Expr} {pos : Pos} {a b : WT} (ha : cO G env names n x a) (hb : cO G env names n y b) : cO G env names n (.BoolOp .Or [x,y] pos) (rM a b) := by
 intro A ok E s α H ρ P st hw;refine wpAny_isTrue_BoolOp (wpAny_allTrue_Or_cons (Ia (ha A ok E s α H ρ _ st hw) fun H₁ aQ c aO hP aZ aU => ?_));cases c with
 | true => exact ⟨H₁,aQ,hP,aZ,aU⟩
 | false =>
   refine wpAny_allTrue_Or_cons (wpAny_mono (hb A ok E aO aQ H₁ ρ _ (st.step aU aZ) hP) (fun c s₂ r => ?_) kE);have r := r.trans aU;cases c with
   | true => exact r
   | false => exact wpAny_allTrue_Or_nil r
noncomputable def J7 : MV -> List MO -> Option Bool := fun v H => match v with
 | .bool b => some b
 | .int i => some (i != 0)
 | .str x => some (!(x.length == 0))
 | .ref i => match H[i]? with
   | some (.list xs) => some (!xs.isEmpty)
   | _ => none
 | _ => none
theorem Ib {j : Nat} {H : List MO} {c : Bool} {C : Prop} (h : J7 (.ref j) H = some c) (k : ∀ xs,H[j]? = some (.list xs) -> (!xs.isEmpty) = c -> C) : C := by
 have h' : (match H[j]? with | some (.list xs) => some (!xs.isEmpty) | _ => none) = some c := h;generalize H[j]? = o at h' k;cases o with
 | none => exact nS h'
 | some o => cases o <;> first | exact nS h' | exact k _ rfl (si h')
theorem lN {A : Around} {E : cB} {s : Shared} {α : List Addr} {H : List MO} {v : MV} {v' : Value} {c : Bool} {Q : Bool -> Shared -> Prop} (i : cL G α H s) (r : VR α s.heap v v') (h : J7 v H = some c) (hq : ∀ s',Kp s s' -> Q c s') : wpAny (model G.prog G.w) A (truthy v') Q E s := by
 cases v with
 | bool b => obtain rfl := r.bool_inv;(injection h with h;subst h);exact wpAny_truthy_bool (hq _ .refl)
 | int j => obtain ⟨t⟩ := r.int_inv;(injection h with h;subst h);exact truthy_int (hq _ .refl)
 | str x =>
   have hl := r.str_len;obtain ⟨t⟩ := r.str_inv;(injection h with h;subst h);refine PySem.P.truthy_str (by unfold sizeLine at hl;lia) ?_;have e : ((x.length : Int) != 0) = !(x.length == 0) := by cases x.length <;> rfl
   refine aJ e ?_;exact hq _ (Kp.tok _)
 | ref j =>
   refine Ib h fun xs e h => ?_
   · have hl := i.list_len r e;obtain ⟨a,vs,k,h1,g1,r1⟩ := i.list r e;have l := r1.length;simp only [length_toList] at l;subst h;refine wpAny_truthy_list (dE g1) (by lia) ?_;have e : (!vs.isEmpty) = !xs.isEmpty := by
       congr 1;rw [Bool.eq_iff_iff];simp [Array.isEmpty,isEmpty_iff,<- length_eq_zero_iff,l]
     refine aJ e ?_;exact hq _ (Kp.tok _)
 | none => exact nS h
 | tup _ => exact nS h
 | val _ => exact nS h
 | app _ => exact nS h
noncomputable def Pm (P : Bool -> List MO -> Prop) : cM := fun v H' => Sm (J7 v H') (P · H')
noncomputable def cD (w : WE) : WT := fun ρ H P => w ρ H (Pm P)
theorem T.val {e : Expr} {w : WE} (h : aP G env names n e w) (he : ∀ whole,isTrue e env whole = (do let v <- whole;standAt e.pos;holding [v] (truthy v))) : cO G env names n e (cD w) := by
 intro A ok E s α H ρ P st hw;refine wpAny_isTrue_value (fM (h A ok E s α H ρ _ st hw) fun v H₁ aQ v' aO q3 bO aZ aU => ?_) (he _);obtain ⟨c,hc,hP⟩ := q3;exact lN aZ bO hc fun s' k => ⟨H₁,aQ,hP,aZ.kp k,aU.trans k.step⟩
noncomputable def Pn (b : WE) (ρ : bI) (P : cM) : cM := fun v H' => Sm (J7 v H') fun c => if c then b ρ H' P else P v H'
noncomputable def B9 (a b : WE) : WE := fun ρ H P => a ρ H (Pn b ρ P)
theorem E.and {x y : Expr} {pos : Pos} {a b : WE} (ha : aP G env names n x a) (hb : aP G env names n y b) : aP G env names n (.BoolOp .And [x,y] pos) (B9 a b) := by
 intro A ok E s α H ρ P st hw;refine wpAny_And2 (fM (ha A ok E s α H ρ _ st hw) fun v H₁ aQ v' aO q3 bO aZ aU => ?_);obtain ⟨c,hc,hP⟩ := q3;refine lN aZ bO hc fun s₂ k => ?_;cases c with
 | false => exact (d2.of_kp aZ k (bO.kp k) hP).trans aU
 | true => exact wpAny_mono (hb A ok E s₂ aQ H₁ ρ _ ((st.step aU aZ).step k.step (aZ.kp k)) hP) (fun v s₃ r => (r.trans k.step).trans aU) kE
noncomputable def Po (a b : WE) (ρ : bI) (P : cM) : Bool -> List MO -> Prop := fun c H' => if c then a ρ H' P else b ρ H' P
noncomputable def J8 (t : WT) (a b : WE) : WE := fun ρ H P => t ρ H (Po a b ρ P)
theorem E.ifexp {t x y : Expr} {pos : Pos} {wt : WT} {a b : WE} (ht : cO G env names n t wt) (ha : aP G env names n x a) (hb : aP G env names n y b) : aP G env names n (.IfExp t x y pos) (J8 wt a b) := by
 intro A ok E s α H ρ P st hw;refine wpAny_IfExp (Ia (ht A ok E s α H ρ _ st hw) fun H₁ aQ c aO hP aZ aU => ?_);cases c with
 | false => exact wpAny_mono (hb A ok E aO aQ H₁ ρ _ (st.step aU aZ) hP) (fun v s₃ r => r.trans aU) kE
 | true => exact wpAny_mono (ha A ok E aO aQ H₁ ρ _ (st.step aU aZ) hP) (fun v s₃ r => r.trans aU) kE
noncomputable def Pp (P : cM) : cM := fun v H' => Is .int v fun i => P (.int (-i)) H'
noncomputable def dO (w : WE) : WE := fun ρ H P => w ρ H (Pp P)
theorem E.neg {x : Expr} {pos : Pos} {w : WE} (h : aP G env names n x w) : aP G env names n (.UnaryOp .USub x pos) (dO w) := by
 intro A ok E s α H ρ P st hw;refine wpAny_UnaryOp (fM (h A ok E s α H ρ _ st hw) fun v H₁ aQ v' aO q3 bO aZ aU => ?_);obtain ⟨i,rfl,hP⟩ := q3;obtain ⟨t⟩ := bO.int_inv;exact neg_int ((d2.of_kp aZ (Kp.tok _) VR.int hP).trans aU)
end
section
variable {G : Gl} {env : Env} {names : List Str} {n : Nat}
noncomputable abbrev WL := bI -> List MO -> (List MV -> List MO -> Prop) -> Prop
inductive K3 (G : Gl) (α : List Addr) (s : Shared) (P : List MV -> List MO -> Prop) (vs : List Value) (s' : Shared) : Prop
 | mk (xs : List MV) (H' : List MO) (α' : List Addr) (p : P xs H') (r : c8 α' s'.heap xs vs) (i : cL G α' H' s') (t : a5 G [] α s α' s') : K3 G α s P vs s'
theorem Pq {M : Model} {A : Around} {m : Sem (List Value)} {G : Gl} {α : List Addr} {s₀ s : Shared} {P : List MV -> List MO -> Prop} {E : cB} {Q : List Value -> Shared -> Prop} (h : wpAny M A m (K3 G α s₀ P) E s) (k : ∀ xs H' α' vs s',P xs H' -> c8 α' s'.heap xs vs -> cL G α' H' s' -> a5 G [] α s₀ α' s' -> Q vs s') : wpAny M A m Q E s :=
 wpAny_mono h (fun _ _ ⟨xs,H',α',p,r,i,t⟩ => k xs H' α' _ _ p r i t) kE
noncomputable def d9 (G : Gl) (env : Env) (names : List Str) (n : Nat) (es : List Expr) (w : WL) : Prop :=
 ∀ (A : Around),Ok A n -> ∀ (E : cB) (s : Shared) (α : List Addr) (H : List MO) (ρ : bI) (P : List MV -> List MO -> Prop) (pos : Pos),St G env names ρ α H s -> w ρ H P ->
   wpAny (model G.prog G.w) A (spliced (backTo pos (starEach es env))) (K3 G α s P) E s
noncomputable def aL : WL := fun _ H P => P [] H
noncomputable def Q2 (v : MV) (P : List MV -> List MO -> Prop) : List MV -> List MO -> Prop := fun vs => P (v :: vs)
noncomputable def Mw (b : WL) (ρ : bI) (P : List MV -> List MO -> Prop) : cM := fun v H₁ => b ρ H₁ (Q2 v P)
noncomputable def aH (a : WE) (b : WL) : WL := fun ρ H P => a ρ H (Mw b ρ P)
theorem L.nil : d9 G env names n [] aL := by
 intro A ok E s α H ρ P pos st hw;exact wpAny_items_nil ⟨[],H,α,hw,.nil,st.inv,.refl⟩
theorem L.cons {e : Expr} {es : List Expr} {a : WE} {b : WL} (ha : aP G env names n e a) (hb : d9 G env names n es b) (he : starEach (e :: es) env = (false,eval e env) :: starEach es env := by rfl) : d9 G env names n (e :: es) (aH a b) := by
 intro A ok E s α H ρ P pos st hw;refine wpAny_items_cons (fM (ha A ok E s α H ρ _ st hw) fun v H₁ aQ v' aO cX bO aZ aU => ?_) he;refine Pq (hb A ok E aO aQ H₁ ρ _ pos (st.step aU aZ) cX) fun xs bH bL vs s₂ hP dW bQ bF => ?_;exact ⟨_,bH,bL,hP,.cons (bO.step bF) dW,bQ,aU.trans bF⟩
theorem Ax {k : Nat} (h : k <= 1000) : k <= sizeLine := le_trans h (by decide)
noncomputable def Mx (P : cM) : List MV -> List MO -> Prop := fun xs H' => xs.length <= 1000 /\ P (.ref H'.length) (H' ++ [.list xs])
noncomputable def bW (w : WL) : WE := fun ρ H P => w ρ H (Mx P)
theorem E.list {es : List Expr} {pos : Pos} {w : WL} (h : d9 G env names n es w) : aP G env names n (.List es pos) (bW w) := by
 intro A ok E s α H ρ P st hw;refine wpAny_List (Pq (h A ok E s α H ρ _ pos st hw) fun xs H₁ aQ vs aO q3 bO aZ aU => ?_);obtain ⟨hl,hP⟩ := q3;refine ⟨by refine cE bO.length ?_;exact Ax hl,?_⟩;exact (d2.new (o := .list xs) aZ (Kp.push _) (a9 (le_refl _)) ⟨by exact le_trans ‹_› (by decide),_,_,get?_push_size _ rfl,by exact bO.kp (Kp.push _)⟩ hP).trans aU
noncomputable def Pr (P : cM) : List MV -> List MO -> Prop := fun xs H' => xs.length <= 1000 /\ P (.tup xs) H'
noncomputable def d3 (w : WL) : WE := fun ρ H P => w ρ H (Pr P)
theorem E.tup {es : List Expr} {k : Nat} {pos : Pos} {w : WL} (h : d9 G env names n es w) : aP G env names n (.Tuple es k pos) (d3 w) := by
 intro A ok E s α H ρ P st hw;refine wpAny_Tuple (Pq (h A ok E s α H ρ _ pos st hw) fun xs H₁ aQ vs aO q3 bO aZ aU => ?_);obtain ⟨hl,hP⟩ := q3;refine ⟨by refine cE bO.length ?_;exact Ax hl,?_⟩;exact (d2.of_kp aZ (Kp.push _) (VR.tup (get?_push_size _ rfl) (by exact bO.kp (Kp.push _)) hl) hP).trans aU
noncomputable def ix (i : Int) (len : Nat) : Option Nat := if 0 <= i then (if i < len then some i.toNat else none) else (if -(len : Int) <= i then some (i + len).toNat else none)
theorem xM {i : Int} {len k : Nat} (h : ix i len = some k) : seqIndex? i len = some k /\ k < len := by
 unfold ix at h;unfold seqIndex?;split at h <;> rename_i h0
 · split at h <;> simp at h
   subst h;refine ⟨?_,by (simp [*];done)⟩;simp only [show ¬ i < 0 by exact Int.not_lt.mpr ‹_›,if_false];exact aJ (if_pos (by simp;exact ⟨by assumption,by assumption⟩)) rfl
 · split at h <;> simp at h
   subst h;refine ⟨?_,by lia⟩;simp only [show i < 0 by exact Int.not_le.mp ‹_›,if_true];exact aJ (if_pos (by lia)) rfl
noncomputable def gA : MV -> MV -> List MO -> Option MV := fun a b H => match a,b with
 | .str x,.int i => match ix i x.length with
   | some k => (x.cps.toList[k]?).map fun c => .str ⟨#[c]⟩
   | none => none
 | .tup xs,.int i => match ix i xs.length with
   | some k => xs[k]?
   | none => none
 | .ref j,.int i => match H[j]? with
   | some (.list xs) => match ix i xs.length with
     | some k => xs[k]?
     | none => none
   | _ => none
 | _,_ => none
noncomputable def pG (P : cM) (va : MV) : cM := fun vb bH => Sm (gA va vb bH) (P · bH)
noncomputable def a7 (a b : WE) : WE := fun ρ H P => a ρ H (k2 (pG P) b ρ)
inductive Ic : MV -> MV -> Prop
 | s (x : Str) (j : Int) : Ic (.str x) (.int j)
 | t (x : List MV) (j : Int) : Ic (.tup x) (.int j)
 | r (x : Nat) (j : Int) : Ic (.ref x) (.int j)
theorem My {a b : MV} {H : List MO} {c : MV} (h : gA a b H = some c) : Ic a b := by cases a <;> first | exact bJ h | (cases b <;> first | exact bJ h | exact .s _ _ | exact .t _ _ | exact .r _ _)
theorem kN {A : Around} {E : cB} {s : Shared} {α : List Addr} {H : List MO} {a b v : MV} {a' b' : Value} {Q : cB} (i : cL G α H s) (ra : VR α s.heap a a') (rb : VR α s.heap b b') (h : gA a b H = some v) (hq : ∀ v' s',Kp s s' -> VR α s'.heap v v' -> Q v' s') : (∃ T id,s.TypeIs a' T /\ typeLookup (.type T) "__getitem__" = pure (some (.builtin id))) /\ wpAny (model G.prog G.w) A (getItem a' b') Q E s := by
 cases My h <;> unfold gA at h <;> dsimp only at h
 · rename_i x j;have hl := ra.str_len;obtain ⟨t⟩ := ra.str_inv;obtain ⟨u⟩ := rb.int_inv;split at h
   · rename_i k e;refine bP fun no => ?_;obtain ⟨c,hc,rfl⟩ := Option.map_eq_some_iff.mp h;obtain ⟨e1,e2⟩ := xM e;refine no ?_;have hb : -(x.length : Int) <= j /\ j < x.length := by
       unfold ix at e;split at e <;> split at e <;> simp at e <;> lia
     refine ⟨⟨"str",_,typeIs_str s x t,PySem.F.slot_str_getitem.lookup⟩,PySem.P.getItem_str (c := c) ?_ ?_ (hq _ _ (Kp.tok _) (VR.str (by show 1 <= sizeLine;decide)))⟩
     · unfold sizeLine at hl
       lia
     · refine aJ e1 ?_;simpa using hc
   · exact nS h
 · rename_i xs j;have hl := ra.tup_len;obtain ⟨a,vs,k,g1,r1⟩ := ra.tup_inv;obtain ⟨u⟩ := rb.int_inv;split at h
   · rename_i m e;obtain ⟨e1,e2⟩ := xM e;have hb : -(xs.length : Int) <= j /\ j < xs.length := by
       unfold ix at e;split at e <;> split at e <;> simp at e <;> lia
     refine bP fun no => ?_;obtain ⟨v',hv,rv⟩ := r1.get h;refine no ?_;have l := r1.length;dsimp only [length_toList] at l
     replace e1 := l ▸ e1
     exact ⟨⟨"tuple",_,⟨_,g1,rfl⟩,PySem.F.slot_tuple_getitem.lookup⟩,PySem.P.getItem_tuple g1 (by lia) (by lia) e1 (by simpa using hv) (hq _ _ .refl rv)⟩
   · exact nS h
 · rename_i j i';split at h
   · rename_i xs e0;have hl := i.list_len ra e0;obtain ⟨a,vs,k,h1,g1,r1⟩ := i.list ra e0;obtain ⟨u⟩ := rb.int_inv;split at h
     · rename_i m e;refine bP fun no => ?_;obtain ⟨e1,e2⟩ := xM e;obtain ⟨v',hv,rv⟩ := r1.get h;refine no ?_;have l := r1.length;dsimp only [length_toList] at l;refine ⟨⟨"list",_,⟨_,g1,rfl⟩,list_getitem_lookup⟩,?_⟩;unfold ix at e;split at e <;> rename_i h0
       · split at e <;> simp at e
         exact wpAny_getItem_list (dE g1) h0 (by lia) (by refine aJ e ?_;simpa using hv) (hq _ _ .refl rv)
       · split at e <;> simp at e
         exact wpAny_getItem_list_neg (dE g1) (Int.not_le.mp ‹_›) (by lia) (by lia) (by refine cE l (aJ e ?_);simpa using hv) (hq _ _ .refl rv)
     · exact nS h
   · exact nS h
theorem E.get {x y : Expr} {pos : Pos} {a b : WE} (ha : aP G env names n x a) (hb : aP G env names n y b) (hs : ∀ o i,∃ ops,subscripted y false o i = operate ops (getItem o i) := by intros;constructor;rfl) : aP G env names n (.Subscript x y pos) (a7 a b) := by
 intro A ok E s α H ρ P st hw;refine Subscript_ (fM (ha A ok E s α H ρ _ st hw) fun va H₁ aQ o aO cX bO aZ aU => ?_);refine fM (hb A ok E aO aQ H₁ ρ _ (st.step aU aZ) cX) fun vb bH bL j s₂ q3 dW bQ bF => ?_;refine bP fun no => ?_;obtain ⟨v,hv,hP⟩ := q3;obtain ⟨⟨T,id,h1,h2⟩,h3⟩ := kN (A := A) (E := E) (Q := d2 G α s P) bQ (bO.step bF) dW hv fun v' s' k rv => ((d2.of_kp bQ k rv hP).trans bF).trans aU;obtain ⟨ops,hs⟩ := hs o j;refine no ?_;exact tail_any h1 h2 h3 hs
noncomputable def sL {β : Type} (xs : List β) (lo hi st : Option Int) : List β := (sliceRange (sliceBounds lo hi st xs.length).1 (sliceBounds lo hi st xs.length).2.1 (sliceBounds lo hi st xs.length).2.2).filterMap (xs[·]?)
noncomputable def jP {β : Type} (xs : List β) (lo hi : Option Int) : List β := (xs.drop (lo.elim 0 (clipAt xs.length))).take (hi.elim xs.length (clipAt xs.length) - lo.elim 0 (clipAt xs.length))
theorem xN (n a : Nat) : clipAt n (a : Int) = min a n := by
 unfold clipAt;rw [if_neg (Int.not_lt.mpr (Int.natCast_nonneg a))];rcases le_total a n with q | q
 · rw [Int.min_eq_left (Int.ofNat_le.mpr q),min_eq_left q,Int.max_eq_right (Int.natCast_nonneg a)];rfl
 · rw [Int.min_eq_right (Int.ofNat_le.mpr q),min_eq_right q,Int.max_eq_right (Int.natCast_nonneg n)];rfl
theorem iZ {β : Type} (xs : List β) (b : Nat) : jP xs none (some (b : Int)) = xs.take b := by
 unfold jP;simp only [Option.elim_some,Option.elim_none,xN,drop_zero,sub_zero];rcases le_total b xs.length with h | h
 · exact aJ (min_eq_left h) rfl
 · exact aJ (min_eq_right h) (aJ (take_of_length_le (le_refl _)) (aJ (take_of_length_le h) rfl))
theorem jQ {β : Type} (xs : List β) (lo hi : Option Int) : sL xs lo hi none = jP xs lo hi := by
 unfold sL jP;refine aJ (sliceBounds_plain ..) ?_;simp only [sliceRange_one];have := pick_run xs.toArray (lo.elim 0 (clipAt xs.length)) (hi.elim xs.length (clipAt xs.length) - lo.elim 0 (clipAt xs.length));simpa using this
theorem Ca (n : Nat) (i : Int) : clipAt n i <= n := by unfold clipAt;omega
theorem c8.pick {α : List Addr} {h : Heap} {xs : List MV} {vs : List Value} (r : c8 α h xs vs) : ∀ is : List Nat,c8 α h (is.filterMap (xs[·]?)) (is.filterMap (vs[·]?)) := by
 intro is;induction is with
 | nil =>
   exact c8.nil
 | cons i is ih =>
   have l := r.length;by_cases hi : i < xs.length
   · obtain ⟨v,hv,rv⟩ := r.get (i := i) (x := xs[i]) (by simp [hi]);refine aJ (filterMap_cons_some (by simp [hi] : xs[i]? = some xs[i])) (aJ (filterMap_cons_some hv) ?_);exact .cons rv (ih)
   · refine aJ (filterMap_cons_none (by exact List.getElem?_eq_none (not_lt.mp ‹_›))) (aJ (filterMap_cons_none (by simp;lia)) ?_);exact ih
theorem mQ {α : List Addr} {h : Heap} {xs : List MV} {vs : Array Value} (lo hi st : Option Int) (r : c8 α h xs vs.toList) : c8 α h (sL xs lo hi st) (slicePick vs lo hi st).toList := by
 have l := r.length;simp only [length_toList] at l;have := r.pick (sliceRange (sliceBounds lo hi st vs.size).1 (sliceBounds lo hi st vs.size).2.1 (sliceBounds lo hi st vs.size).2.2);unfold sL slicePick;simpa [l] using this
theorem tK {β : Type} (xs : List β) (lo hi st : Option Int) : (sL xs lo hi st).length <= xs.length := by
 have := slicePick_size_le (Array.replicate xs.length Value.none) lo hi st;unfold slicePick at this;simp at this;unfold sL;refine le_trans (le_of_eq ?_) this;generalize sliceRange _ _ _ = is;induction is with
 | nil => rfl
 | cons i is ih =>
   by_cases hi : i < xs.length
   · refine aJ (filterMap_cons_some (show xs[i]? = some xs[i] by simp [hi])) (aJ (filterMap_cons_some (b := Value.none) (by simp [hi])) ?_);simp [ih]
   · refine aJ (filterMap_cons_none (by exact List.getElem?_eq_none (not_lt.mp ‹_›))) (aJ (filterMap_cons_none (by simp;exact not_lt.mp ‹_›)) ?_);exact ih
noncomputable abbrev WP := bI -> List MO -> (Option Int -> List MO -> Prop) -> Prop
inductive K4 (G : Gl) (α : List Addr) (s : Shared) (P : Option Int -> List MO -> Prop) (v' : Value) (s' : Shared) : Prop
 | mk (l : Option (Int × Tok)) (H' : List MO) (α' : List Addr) (p : P (l.map (·.1)) H') (e : v' = partValue l) (i : cL G α' H' s') (t : a5 G [] α s α' s') : K4 G α s P v' s'
theorem Mz {M : Model} {A : Around} {m : Sem Value} {G : Gl} {α : List Addr} {s₀ s : Shared} {P : Option Int -> List MO -> Prop} {E Q : cB} (h : wpAny M A m (K4 G α s₀ P) E s) (k : ∀ l H' α' v' s',P (l.map (·.1)) H' -> v' = partValue l -> cL G α' H' s' -> a5 G [] α s₀ α' s' -> Q v' s') : wpAny M A m Q E s :=
 wpAny_mono h (fun _ _ ⟨l,H',α',p,e,i,t⟩ => k l H' α' _ _ p e i t) kE
noncomputable def kZ (G : Gl) (env : Env) (names : List Str) (n : Nat) (e : Option Expr) (w : WP) : Prop :=
 ∀ (A : Around),Ok A n -> ∀ (E : cB) (s : Shared) (α : List Addr) (H : List MO) (ρ : bI) (P : Option Int -> List MO -> Prop),St G env names ρ α H s -> w ρ H P ->
   wpAny (model G.prog G.w) A (evalPart e env) (K4 G α s P) E s
noncomputable def kF : WP := fun _ H P => P none H
noncomputable def R3 (P : Option Int -> List MO -> Prop) : cM := fun v H' => Is .int v fun i => P (some i) H'
noncomputable def d8 (w : WE) : WP := fun ρ H P => w ρ H (R3 P)
theorem Pt.no : kZ G env names n none kF := by
 intro A ok E s α H ρ P st hw;refine aJ (evalPart_none ..) ?_;exact wpAny_pure ⟨none,H,α,hw,rfl,st.inv,.refl⟩
theorem Pt.at {e : Expr} {w : WE} (h : aP G env names n e w) : kZ G env names n (some e) (d8 w) := by
 intro A ok E s α H ρ P st hw;refine aJ (evalPart_some ..) ?_;refine fM (h A ok E s α H ρ _ st hw) fun v H₁ aQ v' aO q3 bO aZ aU => ?_;obtain ⟨i,rfl,hP⟩ := q3;obtain ⟨t⟩ := bO.int_inv;exact ⟨some (i,t),H₁,aQ,hP,rfl,aZ,aU⟩
noncomputable def Pu (v : MV) (lo hi st : Option Int) (H : List MO) (P : cM) : Prop := match v with
 | .str x => st = none /\ P (.str ⟨(jP x.cps.toList lo hi).toArray⟩) H
 | .ref j => st ≠ some 0 /\ ∃ xs,H[j]? = some (.list xs) /\ xs.length <= sizeLine /\ P (.ref H.length) (H ++ [.list (sL xs lo hi st)])
 | _ => False
noncomputable def Q3 (v : MV) (l : Option Int) (P : cM) : Option Int -> List MO -> Prop := fun u eQ => Pu v l u none eQ P
noncomputable def R4 (v : MV) (hi : WP) (ρ : bI) (P : cM) : Option Int -> List MO -> Prop := fun l bH => hi ρ bH (Q3 v l P)
noncomputable def R5 (lo hi : WP) (ρ : bI) (P : cM) : cM := fun v H₁ => lo ρ H₁ (R4 v hi ρ P)
noncomputable def fZ (w : WE) (lo hi : WP) : WE := fun ρ H P => w ρ H (R5 lo hi ρ P)
theorem lP (l : Option (Int × Tok)) : IsPart (partValue l) (l.map (·.1)) := by
 cases l with
 | none => exact .none
 | some p => exact .int _ _
theorem Cb (x : Str) (l u : Option (Int × Tok)) : (slicePicked x l u none).filterMap (x.cps[·]?) = jP x.cps.toList (l.map (·.1)) (u.map (·.1)) := by
 refine cE (jQ ..) ?_;unfold sL slicePicked;have : Builtin.Str.strSliceIndices (l.map (·.1)) (u.map (·.1)) 1 x.length = sliceRange (sliceBounds (l.map (·.1)) (u.map (·.1)) none x.length).1 (sliceBounds (l.map (·.1)) (u.map (·.1)) none x.length).2.1 (sliceBounds (l.map (·.1)) (u.map (·.1)) none x.length).2.2 := rfl
 skip
 refine aJ this ?_;simp [Str.length]
theorem Cc (x : Str) (l u : Option (Int × Tok)) (h : (slicePicked x l u none).length = x.length) : jP x.cps.toList (l.map (·.1)) (u.map (·.1)) = x.cps.toList := by
 have e : slicePicked x l u none = sliceRange (sliceBounds (l.map (·.1)) (u.map (·.1)) none x.length).1 (sliceBounds (l.map (·.1)) (u.map (·.1)) none x.length).2.1 (sliceBounds (l.map (·.1)) (u.map (·.1)) none x.length).2.2 := rfl
 replace h := (sliceBounds_plain ..) ▸ (e ..) ▸ h
 simp only [sliceRange_one,length_map,length_range] at h;unfold jP;have hx : x.cps.toList.length = x.length := by rfl
 refine aJ hx ?_;generalize (l.map (·.1)).elim 0 (clipAt x.length) = a at h ⊢;have hb : (u.map (·.1)).elim x.length (clipAt x.length) <= x.length := by
   cases u with
   | none => exact le_refl _
   | some p => exact Ca _ _
 generalize (u.map (·.1)).elim x.length (clipAt x.length) = b at h hb ⊢;by_cases h0 : x.length = 0
 · have : x.cps.toList = [] := length_eq_zero_iff.mp (hx.trans h0);refine aJ this ?_;simp
 · obtain rfl : a = 0 := by lia
   obtain rfl : b = x.length := by assumption
   rw [drop_zero,sub_zero,<- hx,take_length]
theorem Ie {β : Type} (xs : List β) (lo hi : Option Int) : (jP xs lo hi).length <= xs.length := by refine cE (jQ ..) ?_;exact tK ..
theorem E.slice {x : Expr} {lo hi : Option Expr} {p pos : Pos} {w : WE} {wl wh : WP} (h : aP G env names n x w) (hl : kZ G env names n lo wl) (hh : kZ G env names n hi wh) (ht : ∀ o r,letTemporaryGo x o r = pure ()) : aP G env names n (.Subscript x (.Slice lo hi none p) pos) (fZ w wl wh) := by
 intro A ok E s α H ρ P st hw;refine nV (model G.prog G.w) ?_;intro xG;rw [eval_Subscript];refine wpAny_bind (fM (h A ok E s α H ρ _ st hw) fun v H₁ aQ o aO cX bO aZ aU => ?_);refine wpAny_bind (wpAny_holding (wpAny_Slice (Mz (hl A ok E aO aQ H₁ ρ _ (st.step aU aZ) cX) fun l bH bL vl s₂ rD q4 bQ bF => ?_)));obtain rfl := q4;refine Mz (hh A ok E s₂ bL bH ρ _ ((st.step aU aZ).step bF bQ) rD) fun u eQ dM vu s₃ dL q4 eN cV => ?_;refine nQ ?_;intro bU;obtain rfl := q4;rw [evalPart_none];refine wpAny_pure ?_;have k := Kp.push (s := s₃) { cls := .type "slice",data := .fields #[partValue l,partValue u,.none] };have fU := eN.kp k;have fin : ∀ (T id : String),(∀ s' : Shared,s'.heap = s₃.heap.push { cls := .type "slice",data := .fields #[partValue l,partValue u,.none] } -> s'.TypeIs o T) -> typeLookup (.type T) "__getitem__" = pure (some (.builtin id)) ->
     wpAny (model G.prog G.w) A (getItem o (.ref s₃.heap.objs.size)) (d2 G dM { s₃ with heap := s₃.heap.push { cls := .type "slice",data := .fields #[partValue l,partValue u,.none] } } P) E { s₃ with heap := s₃.heap.push { cls := .type "slice",data := .fields #[partValue l,partValue u,.none] } } ->
     wpAny (model G.prog G.w) A (do standAt pos;let r <- subscripted (.Slice lo hi none p) (<- getitemInPython o) o (.ref s₃.heap.objs.size);letTemporaryGo x o r;pure r) (d2 G α s P) E { s₃ with heap := s₃.heap.push { cls := .type "slice",data := .fields #[partValue l,partValue u,.none] } } := fun T id hT bP hg => by
   have hT := hT { s₃ with heap := s₃.heap.push { cls := .type "slice",data := .fields #[partValue l,partValue u,.none] } } rfl;refine wpAny_bind (wpAny_standAt (wpAny_bind ?_));rw [getitemInPython_of_ne hT.not_modules];refine wpAny_bind (wpAny_specialOf hT bP ?_);have f : wpAny (model G.prog G.w) A (operate [.ref s₃.heap.objs.size,o] (getItem o (.ref s₃.heap.objs.size))) (fun r s' => wpAny (model G.prog G.w) A (letTemporaryGo x o r >>= fun _ => pure r) (d2 G α s P) E s') E { s₃ with heap := s₃.heap.push { cls := .type "slice",data := .fields #[partValue l,partValue u,.none] } } :=
     wpAny_operating (wpAny_mono hg (fun r s' h => wpAny_bind (wpAny_of_eq (ht o r) (wpAny_pure ((h.trans k.step).trans ((aU.trans bF).trans cV))))) kE)
   first
     | exact wpAny_pure (wpAny_bind f)
     | exact wpAny_bind (wpAny_pure (wpAny_bind f))
     | exact wpAny_bind f
 unfold Q3 Pu at dL;split at dL
 · rename_i y;obtain ⟨t⟩ := bO.str_inv;have hlen := bO.str_len;refine fin "str" _ (fun s' _ => typeIs_str _ y t) PySem.F.slot_str_getitem.lookup (wpAny_getItem_str_slice (l := l) (u := u) (st := none) (⟨_,get?_push_size _ rfl,rfl,rfl⟩ : (s₃.heap.push { cls := .type "slice",data := .fields #[partValue l,partValue u,.none] }).IsSlice s₃.heap.objs.size l u none) rfl ?_);unfold sliceMade;have hb : (jP y.cps.toList (l.map (·.1)) (u.map (·.1))).length <= sizeLine := le_trans (Ie ..) (by exact hlen);split
   · rename_i hc;rw [Bool.and_eq_true] at hc;have dL := dL.2;rw [(Cc y l u (beq_iff_eq.mp hc.2))] at dL;exact d2.of_kp fU .refl (VR.str hlen) dL
   · rw [Cb];exact ⟨hb,d2.of_kp fU (Kp.tok _) (VR.str hb) dL.2⟩
 · obtain ⟨_,xs,e,hsz,hP⟩ := dL;obtain ⟨a,vs,m,h1,g1,q1⟩ := fU.list (((bO.step bF).step cV).kp k) e;have ll := q1.length;dsimp only [length_toList] at ll;refine fin "list" _ (fun s' e => ⟨_,by rw [e];exact g1,rfl⟩) list_getitem_lookup (wpAny_getItem_list_slice (lo := l.map (·.1)) (hi := u.map (·.1)) (st := none) (dE g1) (⟨_,get?_push_size _ rfl,rfl,rfl⟩ : (s₃.heap.push { cls := .type "slice",data := .fields #[partValue l,partValue u,.none] }).IsSliceOf s₃.heap.objs.size (partValue l) (partValue u) .none) (lP _) (lP _) .none ‹_› ?_ (by lia));refine d2.new (o := .list (sL xs (l.map (·.1)) (u.map (·.1)) none)) fU (Kp.push _) (a9 (le_refl _)) ⟨K1 (le_trans (tK ..) hsz),_,_,get?_push_size _ rfl,?_⟩ hP;exact mQ _ _ _ (q1.kp (Kp.push _))
 · exact dL.elim
end
inductive FL where
 | next | brk | cont
 | ret (v : MV)
noncomputable abbrev d5 := FL -> bI -> List MO -> Prop
noncomputable abbrev WS := bI -> List MO -> (FL -> bI -> List MO -> Prop) -> Prop
noncomputable def upd (ρ : bI) (i : Nat) (v : MV) : bI := fun j => if j = i then some v else ρ j
noncomputable def Q4 (α : List Addr) (h : Heap) : FL -> Flow -> Prop
 | .next,f => f = .next
 | .brk,f => f = .brk
 | .cont,f => f = .cont
 | .ret v,f => ∃ v',f = .ret v' /\ VR α h v v'
section
variable {G : Gl} {env : Env} {names : List Str} {n : Nat}
theorem cL.own {α : List Addr} {H : List MO} {s s' : Shared} (i : cL G α H s) {a : Addr} {oa : Obj} (ha : a ∉ α) (ht : a ∉ G.tb) (hb : G.h₀.get? a = none) (ho : s.heap.get? a = some oa) (hd : (∃ es ep,oa.data = .dict es ep) \/ (∃ v,oa.data = .cell v) \/ (∃ T,oa.cls = .type T /\ T ≠ "tuple" /\ T ≠ "builtin_function_or_method" /\ T ≠ "code")) (hk : ∀ b,b ≠ a -> s'.heap.get? b = s.heap.get? b) (hd1 : s'.drawn = s.drawn) (ho1 : s'.os = s.os) (hg : s'.gens = s.gens) (hth : ∃ o',s'.heap.get? a = some o') (hc : ∀ n,s.heap.CodeRec (.ref a) n -> False) : cL G α H s' /\ a5 G [a] α s α s' := by
 have hni : ¬ Mb oa := by
   rcases hd with ⟨es,ep,e⟩ | ⟨v,e⟩ | ⟨T,e,h1,h2,_⟩
   · exact fun q => by rcases q with ⟨_,_,q⟩ | ⟨_,q⟩ <;> (replace e := q ▸ e;cases e)
   · exact fun q => by rcases q with ⟨_,_,q⟩ | ⟨_,q⟩ <;> (replace e := q ▸ e;cases e)
   · refine dN ?_ ?_ <;> refine aJ e ?_ <;> intro q <;> injection q with q
     · exact h1 q
     · exact h2 q
 have imm : tI s.heap s'.heap := fun b o' e q => by
   have : b ≠ a := fun z => by replace e := ho ▸ z ▸ e;(injection e with e;subst e);exact hni q
   refine aJ (hk b this) ?_;exact e
 refine ⟨⟨fun b o' e => ?_,i.len,i.nodup,i.fresh,fun l b o' h1 h2 => ?_,fun q hq => ?_,by refine aJ hg ?_;exact i.bare⟩,⟨[],by simp,by exact fun _ h => absurd h not_mem_nil⟩,fun b o' e h1 h2 h3 => ?_,imm,hd1,ho1,fun l g e => by refine aJ hg ?_;exact e,fun b o' e => ?_⟩
 · have : b ≠ a := fun z => by replace e := hb ▸ z ▸ e;exact nS e
   refine aJ (hk b this) ?_;exact i.base b o' e
 · have hne : b ≠ a := fun z => ha (z ▸ mem_of_getElem? h1);have := OR.mono (h' := s'.heap) [] imm (fun o e => by refine aJ (hk b hne) ?_;exact e) (i.objs l b o' h1 h2)
   rwa [append_nil] at this
 · obtain ⟨ps,e,t1,t2⟩ := i.tabs q hq;refine ⟨ps,by refine aJ (hk _ (fun z => ht (z ▸ mem_map_of_mem hq) : q.2 ≠ a)) ?_;exact e,t1,fun pos cv hcv => ?_⟩;obtain ⟨c',e',f⟩ := t2 pos cv hcv;refine ⟨c',e',fun n hn' => ?_⟩;refine bP fun no => ?_;obtain ⟨c,oc,vs,t,z1,z2,z3,z4⟩ := f n hn';refine no ?_;refine ⟨c,oc,vs,t,z1,?_,z3,z4⟩;have hnc : c ≠ a := fun z => by
     subst z;exact hc n ⟨c,oc,vs,t,rfl,z2,z3,z4⟩
   refine aJ (hk _ hnc) ?_;exact z2
 · have : b ≠ a := fun z => h3 (by refine aJ z ?_;exact mem_singleton_self _);refine aJ (hk b this) ?_;exact e
 · by_cases z : b = a
   · refine aJ z ?_;exact hth
   · exact ⟨o',by refine aJ (hk b z) ?_;exact e⟩
theorem xO {env : Env} (h : (bV env).Nodup) {x y : Str} {c d : Addr} (hx : env.cells.lookup x = some c) (hy : env.cells.lookup y = some d) (hne : x ≠ y) : c ≠ d := by
 have hn : (env.cells.map (·.2)).Nodup := (nodup_cons.mp h).2;have h1 := cI hx;have h2 := cI hy;intro e;subst e;generalize env.cells = l at hn h1 h2;induction l with
 | nil => cases h1
 | cons p r ih =>
   rw [map_cons,nodup_cons] at hn;rcases mem_cons.mp h1 with e1 | e1 <;> rcases mem_cons.mp h2 with e2 | e2
   · replace e1 := e2.symm ▸ e1;exact hne (Prod.mk.inj e1).1
   · exact hn.1 (by refine cE e1 ?_;exact mem_map_of_mem (f := (·.2)) e2)
   · exact hn.1 (by refine cE e2 ?_;exact mem_map_of_mem (f := (·.2)) e1)
   · exact ih hn.2 e1 e2
theorem lQ {A : Around} {E : cB} {s : Shared} {α Y : List Addr} {H : List MO} {ρ : bI} {i : Nat} {x : Str} {v : MV} {v' : Value} {Q : Unit -> Shared -> Prop} (hk : env.scope.kind = .function) (hnd : names.Nodup) (hx : names[i]? = some x) (hkind : env.kindOf x = some .local \/ (env.kindOf x = some .cell /\ (env.cells.lookup x).isSome = true)) (hY1 : env.kindOf x = some .local -> env.locals ∈ Y) (hY2 : env.kindOf x = some .cell -> ∀ c,env.cells.lookup x = some c -> c ∈ Y) (st : St G env names ρ α H s) (r : VR α s.heap v v') (hq : ∀ s',St G env names (upd ρ i v) α H s' -> a5 G Y α s α s' -> Q () s') : wpAny (model G.prog G.w) A (storeName env x v') Q E s := by
 obtain ⟨m,hn⟩ := st.ns;have hkc : (env.scope.kind == .class || (env.scope.kind == .module && env.locals != env.globals)) = false := by rw [hk];rfl
 have nx : ∀ {j : Nat} {y : Str},names[j]? = some y -> j ≠ i -> y ≠ x := fun hj hne e => by
   subst e;obtain ⟨h1,h2⟩ := List.getElem?_eq_some_iff.mp hj;obtain ⟨h3,h4⟩ := List.getElem?_eq_some_iff.mp hx;exact hne ((List.getElem_inj hnd).mp (h2.trans h4.symm))
 rcases hkind with hl | ⟨hl,hc⟩
 · refine wpAny_storeName_local hl hn (fun h' hn' hs => ?_) hkc;obtain ⟨oL,es,ep,e1,e2,e3⟩ := id hn;have ap := st.apart env.locals mem_cons_self;obtain ⟨oL',es',ep',f1,_⟩ := id hn';obtain ⟨i',t'⟩ := st.inv.own (s' := { s with heap := h',toks := s.toks + 1 }) ap.1 ap.2.1 ap.2.2 e1 (.inl ⟨es,ep,e2⟩) hs.2 rfl rfl rfl ⟨_,f1⟩ (fun n ⟨c,oc,vs,t,z1,z2,z3,_⟩ => by (injection z1 with z1;subst z1);rw [e1] at z2;(injection z2 with z2;subst z2);rw [e2] at z3;cases z3);refine hq _ ⟨i',fun j y u hj hu => ?_,⟨_,hn'⟩,fun y c hc => ?_,st.apart,st.nodup⟩ (t'.weak fun b hb => by replace hb := mem_singleton.mp hb;subst hb;exact hY1 hl)
   · by_cases hji : j = i
     · subst hji;rw [hx] at hj;(injection hj with hj;subst hj);simp only [upd,if_true] at hu;(injection hu with hu;subst hu);exact ⟨v',.inl ⟨hl,_,hn',by exact if_pos rfl⟩,r.step t'⟩
     · have hyx := nx hj hji;simp only [upd,if_neg hji] at hu;obtain ⟨u',l,ru⟩ := st.var j y u hj hu;refine ⟨u',?_,ru.step t'⟩;rcases l with ⟨k,m₂,jN,Hn⟩ | ⟨k,c,hc,oc,hoc,hdc⟩
       · refine .inl ⟨k,_,hn',?_⟩
         (rw [if_neg hyx])
         obtain ⟨S0,Rs,Rq,g1,g2,g3,g4⟩ := hn;obtain ⟨S1,Rt,Ru,k1,k2,k3,k4⟩ := jN;rw [g1] at k1;(injection k1 with k1;subst k1);rw [g2] at k2;(injection k2 with k2;subst k2);rw [<- g4,k4];exact Hn
       · refine .inr ⟨k,c,hc,oc,?_,hdc⟩;rw [hs.2 c (fun z => by rw [z,e1] at hoc;(injection hoc with hoc;subst hoc);rw [e2] at hdc;cases hdc)];exact hoc
   · obtain ⟨u,oc,hoc,hdc⟩ := st.cell y c hc;exact ⟨u,oc,by skip;rw [hs.2 c (fun z => by rw [z,e1] at hoc;(injection hoc with hoc;subst hoc);rw [e2] at hdc;cases hdc)];exact hoc,hdc⟩
 · obtain ⟨c,hc⟩ := Option.isSome_iff_exists.mp hc;have hm := cI hc;obtain ⟨Sy,hcell⟩ := st.cell x c hm;refine wpAny_storeName_cell hk hl hc hcell fun h' hcell' hs => ?_;have hown : c ∈ bV env := mem_cons_of_mem _ (mem_map_of_mem (f := (·.2)) hm);have ap := st.apart c hown;refine bP fun no => ?_;obtain ⟨oc,hoc,hdc⟩ := id hcell;obtain ⟨oc',hoc',hdc'⟩ := id hcell';refine no ?_;obtain ⟨i',t'⟩ := st.inv.own (s' := { s with heap := h' }) ap.1 ap.2.1 ap.2.2 hoc (.inr (.inl ⟨_,hdc⟩)) hs.2 rfl rfl rfl ⟨_,hoc'⟩ (fun n ⟨Sz,Rp,vs,t,z1,z2,z3,_⟩ => by (injection z1 with z1;subst z1);rw [hoc] at z2;(injection z2 with z2;subst z2);rw [hdc] at z3;cases z3);have hcL : env.locals ≠ c := fun z => by
     obtain ⟨oL,es,ep,e1,e2,e3⟩ := id hn;rw [z,hoc] at e1;(injection e1 with e1;subst e1);rw [hdc] at e2;cases e2
   refine hq _ ⟨i',fun j y u hj hu => ?_,⟨m,hn.sameBut hs hcL⟩,fun y d hd => ?_,st.apart,st.nodup⟩ (t'.weak fun b hb => by replace hb := mem_singleton.mp hb;subst hb;exact hY2 hl _ hc)
   · by_cases hji : j = i
     · subst hji;rw [hx] at hj;(injection hj with hj;subst hj);simp only [upd,if_true] at hu;(injection hu with hu;subst hu);exact ⟨v',.inr ⟨.inl hl,c,hc,hcell'⟩,r.step t'⟩
     · have hyx := nx hj hji;simp only [upd,if_neg hji] at hu;obtain ⟨u',l,ru⟩ := st.var j y u hj hu;refine ⟨u',?_,ru.step t'⟩;rcases l with ⟨k,m₂,jN,Hn⟩ | ⟨k,d,hd,od,hod,hdd⟩
       · exact .inl ⟨k,m₂,jN.sameBut hs hcL,Hn⟩
       · have hne : d ≠ c := xO st.nodup hd hc hyx;exact .inr ⟨k,d,hd,od,by rw [hs.2 d hne];exact hod,hdd⟩
   · by_cases z : d = c
     · subst z;exact ⟨_,hcell'⟩
     · obtain ⟨u,od,hod,hdd⟩ := st.cell y d hd;exact ⟨u,od,by skip;rw [hs.2 d z];exact hod,hdd⟩
theorem dC {A : Around} {E : cB} {s : Shared} {α : List Addr} {H : List MO} {ρ : bI} {i : Nat} {x : Str} {v : MV} {v' : Value} {Q : Unit -> Shared -> Prop} (hk : env.scope.kind = .function) (hnd : names.Nodup) (hx : names[i]? = some x) (hkind : env.kindOf x = some .local \/ (env.kindOf x = some .cell /\ (env.cells.lookup x).isSome = true)) (st : St G env names ρ α H s) (r : VR α s.heap v v') (hq : ∀ s',St G env names (upd ρ i v) α H s' -> a5 G (bV env) α s α s' -> Q () s') : wpAny (model G.prog G.w) A (storeName env x v') Q E s :=
 lQ hk hnd hx hkind (fun _ => by exact mem_cons_self) (fun _ c hc => mem_cons_of_mem _ (mem_map_of_mem (f := (·.2)) (cI hc))) st r hq
end
section
variable {G : Gl} {env : Env} {names : List Str} {n : Nat}
inductive mR (G : Gl) (env : Env) (names : List Str) (α : List Addr) (s : Shared) (P : d5) (f : Flow) (s' : Shared) : Prop
 | mk (fl : FL) (ρ' : bI) (H' : List MO) (α' : List Addr) (p : P fl ρ' H') (r : Q4 α' s'.heap fl f) (st : St G env names ρ' α' H' s') (t : a5 G (bV env) α s α' s') : mR G env names α s P f s'
theorem Hu {M : Model} {A : Around} {m : Sem Flow} {α : List Addr} {s₀ s : Shared} {P : d5} {E : cB} {Q : Flow -> Shared -> Prop} (h : wpAny M A m (mR G env names α s₀ P) E s) (k : ∀ fl ρ' H' α' f s',P fl ρ' H' -> Q4 α' s'.heap fl f -> St G env names ρ' α' H' s' -> a5 G (bV env) α s₀ α' s' -> Q f s') : wpAny M A m Q E s :=
 wpAny_mono h (fun _ _ ⟨fl,ρ',H',α',p,r,st,t⟩ => k fl ρ' H' α' _ _ p r st t) kE
theorem mR.trans {α α' : List Addr} {s s' : Shared} {P : d5} (a : a5 G (bV env) α s α' s') {f : Flow} {s'' : Shared} (r : mR G env names α' s' P f s'') : mR G env names α s P f s'' := by
 obtain ⟨fl,ρ',H',α'',p,q,st,b⟩ := r;exact ⟨fl,ρ',H',α'',p,q,st,a.trans b⟩
noncomputable def bN (G : Gl) (env : Env) (names : List Str) (n : Nat) (e : Stmt) (w : WS) : Prop :=
 ∀ (A : Around),Ok A n -> ∀ (E : cB) (s : Shared) (α : List Addr) (H : List MO) (ρ : bI) (P : d5),St G env names ρ α H s -> w ρ H P ->
   wpAny (model G.prog G.w) A (exec e env) (mR G env names α s P) E s
noncomputable def dY (G : Gl) (env : Env) (names : List Str) (n : Nat) (e : List Stmt) (w : WS) : Prop :=
 ∀ (A : Around),Ok A n -> ∀ (E : cB) (s : Shared) (α : List Addr) (H : List MO) (ρ : bI) (P : d5),St G env names ρ α H s -> w ρ H P ->
   wpAny (model G.prog G.w) A (execs e env) (mR G env names α s P) E s
noncomputable def aK : WS := fun ρ H P => P .next ρ H
noncomputable def Ig (b : WS) (P : d5) : d5 := fun fl ρ' H' => match fl with
 | .next => b ρ' H' P
 | fl => P fl ρ' H'
noncomputable def aI (a b : WS) : WS := fun ρ H P => a ρ H (Ig b P)
theorem Ss.nil : dY G env names n [] aK := by
 intro A ok E s α H ρ P st hw;exact wpAny_execs_nil ⟨.next,ρ,H,α,hw,rfl,st,.refl⟩
theorem Ss.cons {e : Stmt} {es : List Stmt} {a b : WS} (ha : bN G env names n e a) (hb : dY G env names n es b) : dY G env names n (e :: es) (aI a b) := by
 intro A ok E s α H ρ P st hw;refine wpAny_execs_cons (Hu (ha A ok E s α H ρ _ st hw) fun fl aY H₁ aQ f aO cX q cK aU => ?_);cases fl with
 | next =>
   cases (show f = .next from q);exact wpAny_mono (hb A ok E aO aQ H₁ aY P cK cX) (fun f s₂ r => r.trans aU) kE
 | brk => cases (show f = .brk from q);exact ⟨.brk,aY,H₁,aQ,cX,rfl,cK,aU⟩
 | cont => cases (show f = .cont from q);exact ⟨.cont,aY,H₁,aQ,cX,rfl,cK,aU⟩
 | ret v =>
   obtain ⟨v',rfl,rv⟩ := (show ∃ v',f = .ret v' /\ VR aQ aO.heap v v' from q);exact ⟨.ret v,aY,H₁,aQ,cX,⟨v',rfl,rv⟩,cK,aU⟩
noncomputable def xP : WS := fun _ _ _ => False
theorem Ss.off {e : List Stmt} : dY G env names n e xP := fun A ok E s α H ρ P st hw => hw.elim
noncomputable def M0 (ρ : bI) (P : d5) : cM := fun _ => P .next ρ
noncomputable def a6 (w : WE) : WS := fun ρ H P => w ρ H (M0 ρ P)
theorem S.expr {e : Expr} {pos : Pos} {w : WE} (h : aP G env names n e w) (hi : interactive env = false) (hs : swapsWith e none pos.line env = pure false) : bN G env names n (.Expr e pos) (a6 w) := by
 intro A ok E s α H ρ P st hw;refine wpAny_Expr_any (fM (h A ok E s α H ρ _ st hw) fun v H₁ aQ v' aO hP bO aZ aU => ?_) hi hs;exact ⟨.next,ρ,H₁,aQ,hP,rfl,st.step aU aZ,aU.nil⟩
noncomputable def Pv (ρ : bI) (P : d5) : cM := fun v => P (.ret v) ρ
noncomputable def dG (w : WE) : WS := fun ρ H P => w ρ H (Pv ρ P)
theorem S.ret {e : Expr} {pos : Pos} {w : WE} (h : aP G env names n e w) : bN G env names n (.Return (some e) pos) (dG w) := by
 intro A ok E s α H ρ P st hw;refine wpAny_Return_some (fM (h A ok E s α H ρ _ st hw) fun v H₁ aQ v' aO hP bO aZ aU => ?_);exact ⟨.ret v,ρ,H₁,aQ,hP,⟨_,rfl,bO⟩,st.step aU aZ,aU.nil⟩
noncomputable def oK : WS := fun ρ H P => P .brk ρ H
theorem S.brk {pos : Pos} : bN G env names n (.Break pos) oK := by
 intro A ok E s α H ρ P st hw;exact wpAny_Break ⟨.brk,ρ,H,α,hw,rfl,st,.refl⟩
noncomputable def Et : WS := fun ρ H P => P .cont ρ H
theorem S.cont {pos : Pos} : bN G env names n (.Continue pos) Et := by
 intro A ok E s α H ρ P st hw;exact wpAny_Continue ⟨.cont,ρ,H,α,hw,rfl,st,.refl⟩
noncomputable def Q5 (a b : WS) (ρ : bI) (P : d5) : Bool -> List MO -> Prop := fun c H' => if c then a ρ H' P else b ρ H' P
noncomputable def bB (t : WT) (a b : WS) : WS := fun ρ H P => t ρ H (Q5 a b ρ P)
theorem S.ifS {t : Expr} {x y : List Stmt} {pos : Pos} {wt : WT} {a b : WS} (ht : cO G env names n t wt) (ha : dY G env names n x a) (hb : dY G env names n y b) : bN G env names n (.If t x y pos) (bB wt a b) := by
 intro A ok E s α H ρ P st hw;refine wpAny_If (Ia (ht A ok E s α H ρ _ st hw) fun H₁ aQ c aO hP aZ aU => ?_);cases c with
 | false => exact wpAny_mono (hb A ok E aO aQ H₁ ρ P (st.step aU aZ) hP) (fun v s₃ r => r.trans aU.nil) kE
 | true => exact wpAny_mono (ha A ok E aO aQ H₁ ρ P (st.step aU aZ) hP) (fun v s₃ r => r.trans aU.nil) kE
noncomputable def Pw (ρ : bI) (P : d5) : Bool -> List MO -> Prop := fun c H' => c = true /\ P .next ρ H'
noncomputable def i5 (t : WT) : WS := fun ρ H P => t ρ H (Pw ρ P)
theorem S.assert {t : Expr} {m : Option Expr} {pos : Pos} {wt : WT} (ht : cO G env names n t wt) : bN G env names n (.Assert t m pos) (i5 wt) := by
 intro A ok E s α H ρ P st hw;refine wpAny_Assert_holds (Ia (ht A ok E s α H ρ _ st hw) fun H₁ aQ c aO q2 aZ aU => ?_);obtain ⟨hc,hP⟩ := q2;exact ⟨hc,.next,ρ,H₁,aQ,hP,rfl,st.step aU aZ,aU.nil⟩
noncomputable def gK (env : Env) (x : Str) : Prop := env.kindOf x = some .local \/ (env.kindOf x = some .cell /\ (env.cells.lookup x).isSome = true)
noncomputable def Eu (i : Nat) (ρ : bI) (P : d5) : cM := fun v => P .next (upd ρ i v)
noncomputable def aW (i : Nat) (w : WE) : WS := fun ρ H P => w ρ H (Eu i ρ P)
theorem S.set {x : Str} {pos' pos : Pos} {e : Expr} {w : WE} {i : Nat} (hk : env.scope.kind = .function) (hnd : names.Nodup) (hx : names[i]? = some x) (hs : gK env x) (h : aP G env names n e w) (hw : swapsWith e (some (.Name x pos')) pos.line env = pure false) : bN G env names n (.Assign [.Name x pos'] e pos) (aW i w) := by
 intro A ok E s α H ρ P st hp;refine wpAny_Assign_Name (fM (h A ok E s α H ρ _ st hp) fun v H₁ aQ v' aO hP bO aZ aU => ?_) hw;exact dC hk hnd hx hs (st.step aU aZ) bO fun s₂ cN bF => ⟨.next,_,H₁,aQ,hP,rfl,cN,aU.nil.trans bF⟩
noncomputable def o3 (G : Gl) (op : Operator) (p : P2) : Prop := ∀ (A : Around),Ok A 0 -> ∀ (E : cB) (s : Shared) (α : List Addr) (H : List MO) (P : cM) (a b : MV) (a' b' : Value),
 cL G α H s -> VR α s.heap a a' -> VR α s.heap b b' -> p a b H P -> wpAny (model G.prog G.w) A (inplaceOp op a' b') (d2 G α s P) E s
noncomputable def dD : P2 := fun a b H P => match a,b with
 | .int i,.int j => P (.int (i + j)) H
 | .str x,.str y => x.length + y.length <= sizeLine /\ P (.str (x ++ y)) H
 | _,_ => False
noncomputable def vG : P2 := fun a b H P => match a,b with
 | .int i,.int j => P (.int (i - j)) H
 | _,_ => False
theorem K5 {a b : MV} {H : List MO} {P : cM} (h : dD a b H P) : Ml a b := by cases a <;> first | exact False.elim h | (cases b <;> first | exact False.elim h | exact .i _ _ | exact .s _ _)
theorem K6 {a b : MV} {H : List MO} {P : cM} (h : vG a b H P) : II a b := by cases a <;> first | exact False.elim h | (cases b <;> first | exact False.elim h | exact .i _ _)
theorem IP.add : o3 G .Add dD := by
 intro A ok E s α H P a b a' b' i ra rb hp;cases K5 hp
 · obtain ⟨t⟩ := ra.int_inv;obtain ⟨u⟩ := rb.int_inv;exact iadd_int (d2.of_kp i (Kp.tok _) VR.int hp)
 · obtain ⟨t⟩ := ra.str_inv;obtain ⟨u⟩ := rb.str_inv;exact iadd_str (fun t' tk => d2.of_kp i (Kp.tok _) (VR.str (by refine aJ (Str.length_append ..) ?_;exact hp.1)) hp.2) hp.1
theorem IP.sub : o3 G .Sub vG := by
 intro A ok E s α H P a b a' b' i ra rb hp;cases K6 hp
 · obtain ⟨t⟩ := ra.int_inv;obtain ⟨u⟩ := rb.int_inv;exact isub_int (d2.of_kp i (Kp.tok _) VR.int hp)
noncomputable def e7 (i : Nat) (p : P2) (w : WE) : WS := fun ρ H P => Sm (ρ i) fun old => w ρ H (pB p (Eu i ρ P) old)
theorem pI {A : Around} {E : cB} {s : Shared} {α : List Addr} {H : List MO} {ρ : bI} {i : Nat} {x : Str} {v : MV} {Q : cB} (hk : env.scope.kind = .function) (hc : (x == ("__classdict__" : Str)) = false) (st : St G env names ρ α H s) (hx : names[i]? = some x) (hv : ρ i = some v) (hq : ∀ v',VR α s.heap v v' -> Q v' s) : wpAny (model G.prog G.w) A (loadName env x) Q E s := by
 refine bP fun no => ?_;obtain ⟨v',l,r⟩ := st.var i x v hx hv;refine no ?_;rcases l with ⟨k,m,hn,hm⟩ | ⟨k | k,c,hl,hcell⟩
 · exact wpAny_loadName_local hk k hn hm (hq _ r)
 · exact wpAny_loadName_cell hk k hl hcell (hq _ r)
 · exact wpAny_loadName_free hk k hl hcell (hq _ r) hc
theorem S.aug {x : Str} {pos' pos : Pos} {e : Expr} {w : WE} {i : Nat} {op : Operator} {p : P2} (hk : env.scope.kind = .function) (hnd : names.Nodup) (hx : names[i]? = some x) (hc : (x == ("__classdict__" : Str)) = false) (hs : gK env x) (h : aP G env names n e w) (hp : o3 G op p) : bN G env names n (.AugAssign (.Name x pos') op e pos) (e7 i p w) := by
 intro A ok E s α H ρ P st hw;obtain ⟨old,ho,hw⟩ := hw;refine wpAny_AugAssign_Name (pI hk hc st hx ho fun old' ro => fM (h A ok E s α H ρ _ st hw) fun v H₁ aQ v' aO hP bO aZ aU => ?_);refine fM (hp A ok.zero E aO aQ H₁ _ _ _ _ _ aZ (ro.step aU) bO hP) fun r bH bL r' s₂ hP dW bQ bF => ?_;have t := aU.trans bF;exact dC hk hnd hx hs (st.step t bQ) dW fun s₃ cG cV => ⟨.next,_,bH,bL,hP,rfl,cG,t.nil.trans cV⟩
noncomputable def K7 (a b v : MV) (H : List MO) (P : List MO -> Prop) : Prop := match a,b with
 | .ref j,.int k => ∃ xs,H[j]? = some (.list xs) /\ 0 <= k /\ k < xs.length /\ P (H.set j (.list (xs.set k.toNat v)))
 | _,_ => False
theorem M1 {a b v : MV} {H : List MO} {P : List MO -> Prop} (h : K7 a b v H P) : Hz a b := by cases a <;> first | exact False.elim h | (cases b <;> first | exact False.elim h | exact .r _ _)
theorem rN {A : Around} {E : cB} {s : Shared} {α : List Addr} {H : List MO} {a b v : MV} {a' b' v' : Value} {P : List MO -> Prop} {Q : Unit -> Shared -> Prop} (i : cL G α H s) (ra : VR α s.heap a a') (rb : VR α s.heap b b') (rv : VR α s.heap v v') (h : K7 a b v H P) (hq : ∀ H' s',P H' -> cL G α H' s' -> a5 G [] α s α s' -> Q () s') : wpAny (model G.prog G.w) A (setItem a' b' v') Q E s := by
 cases M1 h with
 | i x y => exact False.elim h
 | r j k =>
   refine bP fun no => ?_;obtain ⟨xs,e,h0,h1,hP⟩ := h;have hl := i.list_len ra e;obtain ⟨a,vs,m,ha,g1,r1⟩ := i.list ra e;obtain ⟨u⟩ := rb.int_inv;refine no ?_;have l := r1.length;simp only [length_toList] at l;refine ki_setAt (n := m) g1 h0 (by lia) (by lia) ?_;have k' : tI s.heap (s.heap.update a (Obj.mapSeq (·.setIfInBounds k.toNat v'))) := fun b o e q => by
     have : b ≠ a := fun z => by
       rw [z,g1] at e;(injection e with e;subst e);exact dN (show Value.type "list" ≠ Value.type "tuple" by decide) (show Value.type "list" ≠ Value.type "builtin_function_or_method" by decide) q
     rw [get?_update_ne _ _ _ _ this];exact e
   have hv := c8.mono [] k' (c8.set k.toNat r1 rv);rw [append_nil] at hv;obtain ⟨i',t'⟩ := i.upd (s' := { s with heap := s.heap.update a (Obj.mapSeq (·.setIfInBounds k.toNat v')) }) (o := .list (xs.set k.toNat v)) ha (fun b hb => get?_update_ne _ _ _ _ hb)
     ⟨by simpa using hl,vs.setIfInBounds k.toNat v',m,by rw [get?_update_self _ g1 (by rfl)];simp [Obj.mapSeq],by simpa using hv⟩ rfl rfl rfl
   exact hq _ _ hP i' t'
noncomputable def tM (wv wo wi : WE) : WS := fun ρ H P => wv ρ H fun v H₁ => wo ρ H₁ fun a bH => wi ρ bH fun b eQ => K7 a b v eQ fun H' => P .next ρ H'
theorem S.put {o i e : Expr} {pos' pos : Pos} {wv wo wi : WE} (hv : aP G env names n e wv) (ho : aP G env names n o wo) (hi : aP G env names n i wi) (hw : swapsWith e (some (.Subscript o i pos')) pos.line env = pure false) : bN G env names n (.Assign [.Subscript o i pos'] e pos) (tM wv wo wi) := by
 intro A ok E s α H ρ P st hp;refine wpAny_Assign_Subscript (fM (hv A ok E s α H ρ _ st hp) fun v H₁ aQ v' aO hP bO aZ aU => ?_) hw;refine fM (ho A ok E aO aQ H₁ ρ _ (st.step aU aZ) hP) fun a bH bL a' s₂ hP dW bQ bF => ?_;refine fM (hi A ok E s₂ bL bH ρ _ ((st.step aU aZ).step bF bQ) hP) fun b eQ dM b' s₃ hP Hj eN cV => ?_;have t := (aU.trans bF).trans cV;exact rN eN (dW.step cV) Hj ((bO.step bF).step cV) hP fun H' bY hP fU iH => ⟨.next,ρ,H',dM,hP,rfl,(st.step t eN).step iH fU,(t.trans iH).nil⟩
noncomputable def eI (ρ : bI) : List Nat -> List MV -> bI
 | i :: is,v :: vs => eI (upd ρ i v) is vs
 | _,_ => ρ
inductive gB (env : Env) (names : List Str) : List Expr -> List Nat -> Prop
 | nil : gB env names [] []
 | cons {x : Str} {p : Pos} {es : List Expr} {i : Nat} {is : List Nat} (h : names[i]? = some x) (s : gK env x) (t : gB env names es is) : gB env names (.Name x p :: es) (i :: is)
theorem Ev {es : List Expr} {is : List Nat} (h : gB env names es is) : (assignEach es env).length = is.length := by
 induction h with
 | nil => rfl
 | cons _ _ _ ih => exact congrArg (· + 1) ih
theorem Cd {es : List Expr} {is : List Nat} (h : gB env names es is) : (assignEach es env).findIdx? (·.1) = none := by
 induction h with
 | nil => rfl
 | @cons x p es _ _ _ _ _ ih =>
   skip
   refine aJ List.findIdx?_cons ?_;simp [ih]
theorem vH (hk : env.scope.kind = .function) (hnd : names.Nodup) {A : Around} {E : cB} {es : List Expr} {is : List Nat} {α : List Addr} {H : List MO} (h : gB env names es is) : ∀ {s : Shared} {ρ : bI} {xs : List MV} {vs : List Value} {Q : Unit -> Shared -> Prop},xs.length = is.length -> St G env names ρ α H s -> c8 α s.heap xs vs -> (∀ s',St G env names (eI ρ is xs) α H s' -> a5 G (bV env) α s α s' -> Q () s') -> wpAny (model G.prog G.w) A (assignInOrder ((assignEach es env).map (·.2)) vs) Q E s := by
 induction h with
 | nil =>
   intro s ρ xs vs Q hl st r hq;obtain rfl : xs = [] := length_eq_zero_iff.mp hl
   skip;subst r
   exact wpAny_assignInOrder_none (hq s st .refl)
 | @cons x p es i is h1 h2 _ ih =>
   intro s ρ xs vs Q hl st r hq;cases xs with
   | nil => cases hl
   | cons v xs =>
     skip
     refine bP fun no => ?_;obtain ⟨v',vs,rfl,bO,r⟩ := r;refine no ?_;refine wpAny_assignInOrder_more (assign_Name (dC hk hnd h1 h2 st bO fun aO cK aU => ?_));exact ih (Nat.succ.inj hl) cK (r.step aU) fun s₂ cN bF => hq s₂ cN (aU.trans bF)
theorem xQ {s : Shared} {h' : Heap} (he : Heap.ExtBut s.heap.objs.size s.heap h') : Kp s { s with heap := h' } := ⟨fun b o e => he b o (ne_of_lt (lt_size e)) e,rfl,rfl,rfl⟩
theorem lT (hk : env.scope.kind = .function) (hnd : names.Nodup) {A : Around} {E : cB} {is : List Nat} {es : List Expr} {k : Nat} {pos : Pos} {s : Shared} {α : List Addr} {H : List MO} {ρ : bI} {xs : List MV} {v' : Value} {Q : Unit -> Shared -> Prop} (hh : A.handled = none) (hn : gB env names es is) (hl : xs.length = is.length) (st : St G env names ρ α H s) (r : VR α s.heap (.tup xs) v') (hq : ∀ s',St G env names (eI ρ is xs) α H s' -> a5 G (bV env) α s α s' -> Q () s') : wpAny (model G.prog G.w) A (assign (.Tuple es k pos) env v') Q E s := by
 obtain ⟨a,vs,m,g1,r1⟩ := r.tup_inv;have l := r1.length;simp only [length_toList] at l;refine assign_Tuple_tuple hh (iI g1) (by refine aJ (Ev hn) ?_;lia) (Cd hn) fun h' he => ?_;have kp := xQ he;have t0 : a5 G [] α s α { s with heap := h' } := kp.step;exact vH hk hnd hn hl (st.step t0 (st.inv.kp kp)) (r1.kp kp) fun s' st' t' => hq s' st' (t0.nil.trans t')
noncomputable def Px (is : List Nat) (ρ : bI) (P : d5) : cM := fun v H' => Is .tup v fun xs => xs.length = is.length /\ P .next (eI ρ is xs) H'
noncomputable def mS (is : List Nat) (w : WE) : WS := fun ρ H P => w ρ H (Px is ρ P)
theorem S.unp {es : List Expr} {k : Nat} {pos' pos : Pos} {e : Expr} {w : WE} {is : List Nat} (hk : env.scope.kind = .function) (hnd : names.Nodup) (hn : gB env names es is) (h : aP G env names n e w) (h1 : swapsWithSole [.Tuple es k pos'] e pos.line env = pure false) (h2 : swappedStores [.Tuple es k pos'] e env = pure none) : bN G env names n (.Assign [.Tuple es k pos'] e pos) (mS is w) := by
 intro A ok E s α H ρ P st hw;refine Assign_Tuple (fM (h A ok E s α H ρ _ st hw) fun v H₁ aQ v' aO q3 bO aZ aU => ?_) h1 h2;refine bP fun no => ?_;obtain ⟨xs,rfl,hl,hP⟩ := q3;refine no ?_;exact lT hk hnd ok.1 hn hl (st.step aU aZ) bO fun s₂ cN bF => ⟨.next,_,H₁,aQ,hP,rfl,cN,aU.nil.trans bF⟩
noncomputable def Ew (i j : Nat) (w : WE) : WS := fun ρ H P => w ρ H fun v H' => ∃ a b,v = .tup [a,b] /\ P .next (upd (upd ρ j b) i a) H'
theorem S.swap {es : List Expr} {k : Nat} {pos' pos : Pos} {e : Expr} {w : WE} {i j : Nat} {x y : Str} (hk : env.scope.kind = .function) (hnd : names.Nodup) (hx : names[i]? = some x) (hy : names[j]? = some y) (sx : gK env x) (sy : gK env y) (h : aP G env names n e w) (h1 : swapsWithSole [.Tuple es k pos'] e pos.line env = pure false) (h2 : swappedStores [.Tuple es k pos'] e env = pure (some [x,y])) : bN G env names n (.Assign [.Tuple es k pos'] e pos) (Ew i j w) := by
 intro A ok E s α H ρ P st hw;refine Assign_Tuple_swapped (names := [x,y]) (fM (h A ok E s α H ρ _ st hw) fun v H₁ aQ v' aO q3 bO aZ aU => ?_) h1 h2;refine nQ ?_;intro bU;refine bP fun no => ?_;obtain ⟨a,b,rfl,hP⟩ := q3;obtain ⟨d,vs,m,g1,r1⟩ := bO.tup_inv;refine no ?_
 skip;obtain ⟨va,r',e1,ra,r1⟩ := r1
 skip;obtain ⟨vb,r'',e2,rb,r1⟩ := r1
 skip
 refine bP fun no => ?_;subst r1 e2;have e1' : vs = #[va,vb] := toList_inj.mp e1;subst e1';refine no ?_;refine unpackItems_tuple (items := #[va,vb]) ok.1 (iI g1) fun h' he => ?_;have kp := xQ he;have t0 : a5 G [] aQ aO aQ { aO with heap := h' } := kp.step
 skip
 refine wpAny_assignInOrder_more (wpAny_bindName (dC hk hnd hy sy ((st.step aU aZ).step t0 (aZ.kp kp)) (rb.kp kp) fun s₂ cN bF => ?_));refine wpAny_assignInOrder_more (wpAny_bindName (dC hk hnd hx sx cN ((ra.kp kp).step bF) fun s₃ cG cV => ?_));exact wpAny_assignInOrder_none ⟨.next,_,H₁,aQ,hP,rfl,cG,((aU.nil.trans t0.nil).trans bF).trans cV⟩
theorem S.st {x : Str} {pos' pos : Pos} {e : Expr} {w : WE} {i : Nat} (hnd : names.Nodup) (h : aP G env names n e w) (hk : env.scope.kind = .function := by rfl) (hx : names[i]? = some x := by rfl) (hs : env.kindOf x = some .local := by rfl) (hw : swapsWith e (some (.Name x pos')) pos.line env = pure false := by rfl) : bN G env names n (.Assign [.Name x pos'] e pos) (aW i w) := S.set hk hnd hx (.inl hs) h hw
noncomputable def pJ (W : bI -> List MO -> Prop) (P : d5) : d5 := fun fl ρ' H'' => match fl with
 | .next => W ρ' H''
 | .cont => W ρ' H''
 | .brk => P .next ρ' H''
 | .ret v => P (.ret v) ρ' H''
noncomputable def R6 (W : bI -> List MO -> Prop) (b : WS) (ρ : bI) (P : d5) : Bool -> List MO -> Prop := fun c H' => if c then b ρ H' (pJ W P) else P .next ρ H'
noncomputable def eF (t : WT) (b : WS) (P : d5) : Nat -> bI -> List MO -> Prop
 | 0,_,_ => False
 | n + 1,ρ,H => t ρ H (R6 (eF t b P n) b ρ P)
noncomputable def cP (t : WT) (b : WS) : WS := fun ρ H P => ∃ n,eF t b P n ρ H
inductive Q6 (G : Gl) (env : Env) (names : List Str) (α : List Addr) (s : Shared) (W : Nat -> bI -> List MO -> Prop) (m : Nat) (s' : Shared) : Prop
 | mk (ρ' : bI) (α' : List Addr) (H' : List MO) (st : St G env names ρ' α' H' s') (t : a5 G (bV env) α s α' s') (w : W m ρ' H') : Q6 G env names α s W m s'
theorem S.while {t : Expr} {x : List Stmt} {pos : Pos} {wt : WT} {b : WS} (ht : cO G env names n t wt) (hb : dY G env names n x b) : bN G env names n (.While t x [] pos) (cP wt b) := by
 intro A ok E s α H ρ P st hw;obtain ⟨m,hw⟩ := hw;refine wpAny_While (codeAny_whileLoop (Q6 G env names α s (eF wt b P)) (fun m aO I => ?_) m ⟨ρ,α,H,st,.refl,hw⟩);refine nQ ?_;intro bU;obtain ⟨aY,aQ,H₁,cK,aU,cX⟩ := I;cases m with
 | zero => exact cX.elim
 | succ m =>
   refine Ia (ht A ok _ aO aQ H₁ aY _ cK cX) fun bH bL c s₂ hP bQ bF => ?_;cases c with
   | false => exact wpAny_execs_nil ⟨.next,aY,bH,bL,hP,rfl,cK.step bF bQ,aU.trans bF.nil⟩
   | true =>
     refine Hu (hb A ok _ s₂ bL bH aY _ (cK.step bF bQ) hP) fun fl mN eQ dM f s₃ hP q cG cV => ?_;have t := (aU.trans bF.nil).trans cV;cases fl with
     | next => cases (show f = .next from q);exact ⟨m,lt_succ_self _,mN,dM,eQ,cG,t,hP⟩
     | cont => cases (show f = .cont from q);exact ⟨m,lt_succ_self _,mN,dM,eQ,cG,t,hP⟩
     | brk => cases (show f = .brk from q);exact ⟨.next,mN,eQ,dM,hP,rfl,cG,t⟩
     | ret v =>
       obtain ⟨v',rfl,rv⟩ := (show ∃ v',f = .ret v' /\ VR dM s₃.heap v v' from q);exact ⟨.ret v,mN,eQ,dM,hP,⟨v',rfl,rv⟩,cG,t⟩
end
noncomputable abbrev gF := List MV -> List MO -> (MV -> List MO -> Prop) -> Prop
noncomputable def dT (G : Gl) (n : Nat) (f : Value) (C : gF) : Prop :=
 ∀ (A : Around),Ok A n -> ∀ (E : cB) (s : Shared) (α : List Addr) (H : List MO) (P : cM) (xs : List MV) (vs : List Value),
   cL G α H s -> c8 α s.heap xs vs -> C xs H P -> wpAny (model G.prog G.w) A (call f vs []) (d2 G α s P) E s
theorem xR {kindOf : Str -> Option NameKind} : ∀ {bs : List (Str × Value)} {m : Str -> Option Value} {x : Str},(∀ p ∈ bs,p.1 ≠ x) -> bindL kindOf bs m x = m x := by
 intro bs;induction bs with
 | nil =>
   intro m x h;exact rfl
 | cons pr0 r ih =>
   obtain ⟨y,v⟩ := pr0;intro m x h
   skip
   refine aJ (ih fun p hp => h p (mem_cons_of_mem _ hp)) ?_;have : y ≠ x := h (y,v) mem_cons_self;split
   · simp [Ne.symm this]
   · rfl
theorem xS {kindOf : Str -> Option NameKind} : ∀ {bs : List (Str × Value)} {m : Str -> Option Value} {x : Str},(∀ p ∈ bs,p.1 ≠ x) -> bindC kindOf bs m x = m x := by
 intro bs;induction bs with
 | nil =>
   intro m x h;exact rfl
 | cons pr0 r ih =>
   obtain ⟨y,v⟩ := pr0;intro m x h
   skip
   refine aJ (ih fun p hp => h p (mem_cons_of_mem _ hp)) ?_;have : y ≠ x := h (y,v) mem_cons_self;split
   · rfl
   · simp [Ne.symm this]
theorem Ay {ns : List Str} {vs : List Value} {x : Str} (h : x ∉ ns) : ∀ p ∈ ns.zip vs,p.1 ≠ x := fun p hp e => h (e ▸ (of_mem_zip hp).1)
theorem vI {kindOf : Str -> Option NameKind} : ∀ {ns : List Str} {vs : List Value} {m : Str -> Option Value} {i : Nat} {x : Str} {v : Value},ns.Nodup -> ns[i]? = some x -> vs[i]? = some v -> kindOf x = some .local -> bindL kindOf (ns.zip vs) m x = some v
 | [],vs,m,i,x,v,_,h,_,_ => by exact nS h
 | y :: ns,[],m,i,x,v,_,_,h,_ => by exact nS h
 | y :: ns,u :: vs,m,0,x,v,nd,h,h',k => by
   simp at h h';subst h h';show bindL kindOf ((y,u) :: ns.zip vs) m y = some u;unfold bindL;refine aJ (if_pos k) (aJ (xR (Ay (nodup_cons.mp nd).1)) ?_);exact if_pos rfl
 | y :: ns,u :: vs,m,i + 1,x,v,nd,h,h',k => by
   show bindL kindOf ((y,u) :: ns.zip vs) m x = some v
   skip
   exact vI (nodup_cons.mp nd).2 (by simpa using h) (by simpa using h') k
theorem vJ {kindOf : Str -> Option NameKind} : ∀ {ns : List Str} {vs : List Value} {m : Str -> Option Value} {i : Nat} {x : Str} {v : Value},ns.Nodup -> ns[i]? = some x -> vs[i]? = some v -> kindOf x ≠ some .local -> bindC kindOf (ns.zip vs) m x = some v
 | [],vs,m,i,x,v,_,h,_,_ => by exact nS h
 | y :: ns,[],m,i,x,v,_,_,h,_ => by exact nS h
 | y :: ns,u :: vs,m,0,x,v,nd,h,h',k => by
   simp at h h';subst h h';show bindC kindOf ((y,u) :: ns.zip vs) m y = some u;unfold bindC;refine aJ (if_neg k) (aJ (xS (Ay (nodup_cons.mp nd).1)) ?_);exact if_pos rfl
 | y :: ns,u :: vs,m,i + 1,x,v,nd,h,h',k => by
   show bindC kindOf ((y,u) :: ns.zip vs) m x = some v
   skip
   exact vJ (nodup_cons.mp nd).2 (by simpa using h) (by simpa using h') k
structure Fn (G : Gl) (a : Addr) (fd : FuncData) (body : List Stmt) (names : List Str) (k : Nat) : Prop where
 obj : ∃ o,G.h₀.get? a = some o /\ o.data = .func fd
 code : G.h₀.CodeRec fd.code fd.qualname
 body : fd.body = .stmts body
 clo : fd.closure = []
 bind : ∀ vs : List Value,vs.length = k -> bindArgs fd ⟨vs,[]⟩ = pure ((names.take k).zip vs)
 kinds : ∀ x ∈ names.take k,fd.scope.names.lookup x = some .local \/ fd.scope.names.lookup x = some .cell
 nodupc : ((cellsFrom 0 fd.scope.names []).map (·.1)).Nodup
 nodup : names.Nodup
 co : fd.scope.isCoroutine = false
 gen : fd.scope.isGenerator = false
 kind : fd.scope.kind = .function
noncomputable def Py (P : cM) : d5 := fun fl _ H' => match fl with
 | .ret v => P v H'
 | _ => P .none H'
noncomputable def eV (k : Nat) (w : WS) : gF := fun xs H P => xs.length = k /\ w (fun i => xs[i]?) H (Py P)
theorem Ok.deeper {A : Around} {n : Nat} {env : Env} (h : Ok A (n + 1)) : Ok (A.deeper env) n :=
 ⟨h.1,by have := h.2.1;show A.depth + 1 + n < _;exact aJ aS ‹_›,by have := h.2.2;show A.units + 3 + 8 * n + 128 < _;lia⟩
theorem k5 : ∀ {l : List (Str × Addr)},(l.Pairwise fun x y => x.2 ≠ y.2) -> (l.map (·.2)).Nodup := by
 intro l;induction l with
 | nil =>
   intro _;exact nodup_nil
 | cons x r ih =>
   intro h;obtain ⟨h1,h2⟩ := pairwise_cons.mp h;refine nodup_cons.mpr ⟨fun q => ?_,ih h2⟩;obtain ⟨y,hy,e⟩ := mem_map.mp q;exact h1 y hy e.symm
theorem pK {G : Gl} {α : List Addr} {H : List MO} {s aO : Shared} {a : Addr} {fd : FuncData} {body : List Stmt} {names : List Str} {k : Nat} {xs : List MV} {vs : List Value} (F : Fn G a fd body names k) (i : cL G α H s) (r : c8 α s.heap xs vs) (hl : xs.length = k) (x : InCallC s (callEnvC fd s.heap.objs.size a).locals (bindL (callEnvC fd s.heap.objs.size a).kindOf ((names.take k).zip vs) fun _ => none) (callEnvC fd s.heap.objs.size a).cells (bindC (callEnvC fd s.heap.objs.size a).kindOf ((names.take k).zip vs) fun _ => none) aO) : St G (callEnvC fd s.heap.objs.size a) names (fun i => xs[i]?) α H aO /\ Kp s aO := by
 refine bP fun no => ?_;obtain ⟨h',tk,rfl,hk⟩ := x.done;refine no ?_;have kp : Kp s { s with heap := h',toks := tk } := ⟨hk,rfl,rfl,rfl⟩;have fresh : ∀ b ∈ bV (callEnvC fd s.heap.objs.size a),s.heap.objs.size <= b := fun b hb => by
   rcases mem_cons.mp hb with rfl | hb
   · exact le_refl _
   · obtain ⟨p,hp,rfl⟩ := mem_map.mp hb;exact le_of_lt (x.above p.1 p.2 hp)
 refine ⟨⟨(i.kp kp),fun j n v hj hv => ?_,⟨_,x.toInCall.ns⟩,fun n c hc => ⟨_,x.cell n c (lookup_of_mem_nodup ?_ hc)⟩,fun b hb => ?_,?_⟩,kp⟩
 · obtain ⟨v',hv',rv⟩ := r.get hv;have hjk : j < k := by rw [<- hl];exact (List.getElem?_eq_some_iff.mp hv).1
   have hj' : (names.take k)[j]? = some n := by rw [List.getElem?_take_of_lt hjk];exact hj
   have nd : (names.take k).Nodup := F.nodup.sublist (List.take_sublist _ _);refine ⟨v',?_,rv.kp kp⟩;rcases F.kinds n (mem_of_getElem? hj') with q | q
   · exact .inl ⟨q,_,x.toInCall.ns,vI nd hj' hv' q⟩
   · have q' : (callEnvC fd s.heap.objs.size a).kindOf n = some .cell := q;obtain ⟨c,hc⟩ := Option.isSome_iff_exists.mp (cellsFrom_some fd.scope.names (s.heap.objs.size + 1) [] (.inl q));refine .inr ⟨.inl q',c,hc,?_⟩;have := x.cell n c hc
     rwa [vJ nd hj' hv' (by rw [q'];decide)] at this
 · exact cellsFrom_names fd.scope.names 0 (s.heap.objs.size + 1) [] [] rfl ▸ F.nodupc
 · have l := fresh b hb;have none_s : s.heap.get? b = none := a9 l;refine ⟨fun q => ?_,fun q => ?_,?_⟩
   · obtain ⟨o,e⟩ := i.has q;rw [none_s] at e;exact nS e
   · obtain ⟨p,hp,rfl⟩ := mem_map.mp q;obtain ⟨ps,e,_⟩ := i.tabs p hp;rw [none_s] at e;exact nS e
   · cases e : G.h₀.get? b with
     | none => rfl
     | some o => have := i.base b o e;rw [none_s] at this;exact nS this
 · refine nodup_cons.mpr ⟨fun q => ?_,k5 x.apart⟩;obtain ⟨p,hp,e⟩ := mem_map.mp q;have := x.above p.1 p.2 hp;exact absurd (e : p.2 = (callEnvC fd s.heap.objs.size a).locals) (ne_of_gt this)
theorem dT.of {G : Gl} {n : Nat} {a : Addr} {fd : FuncData} {body : List Stmt} {names : List Str} {k : Nat} {w : WS} (O : sK G) (F : Fn G a fd body names k) (hb : ∀ L,dY G (callEnvC fd L a) names n body w) : dT G (n + 1) (.ref a) (eV k w) := by
 intro A ok E s α H P xs vs i r hw;refine bP fun no => ?_;obtain ⟨hl,hw⟩ := hw;obtain ⟨o,ho,hd⟩ := F.obj;refine no ?_;have lv : vs.length = k := by refine cE r.length ?_;exact hl
 refine wpAny_call (codeAny_call_cells (by have := ok.2.1;exact lt_of_le_of_lt (le_add_right _ _) ‹_›) (i.base _ _ ho) hd (O.lim.keeps i.base) (F.code.keeps i.base) F.body (F.bind vs lv) F.clo (fun x hx => ?_) (fun aO x => ?_) F.co F.gen F.kind)
 · have hx' : x.1 ∈ names.take k := by
     have := of_mem_zip (a := x.1) (b := x.2) hx;exact this.1
   rcases F.kinds x.1 hx' with q | q
   · exact .inl q
   · exact .inr ⟨q,cellsFrom_some fd.scope.names _ [] (.inl q)⟩
 · obtain ⟨st,kp⟩ := pK F i r hl x;refine nQ ?_;intro bU;refine Hu (hb s.heap.objs.size (A.deeper _) ok.deeper _ aO α H _ _ st hw) fun fl ρ' H' α' f s₂ hP rf st' t => ?_;have t' : a5 G [] α s α' s₂ := by
     refine ⟨t.ext.imp fun β h => ⟨h.1,fun b hb => ?_⟩,fun b o e h1 h2 h3 => t.keep b o (kp.keep b o e) h1 h2 fun q => ?_,fun b o e q => t.imm b o (kp.keep b o e) q,t.drawn.trans kp.drawn,t.os.trans kp.os,fun j g e => t.gens j g (by refine aJ kp.gens ?_;exact e),fun b o e => t.there b o (kp.keep b o e)⟩
     · cases e : s.heap.get? b with
       | none => rfl
       | some o => have := kp.keep b o e;replace this := (h.2 b hb) ▸ this;exact nS this
     · rcases mem_cons.mp q with q | q
       · have : b = s.heap.objs.size := q
         replace e := this ▸ e
         exact absurd (lt_size e) (lt_irrefl _)
       · obtain ⟨p,hp,rfl⟩ := mem_map.mp q;exact absurd (lt_size e) (not_lt.mpr (le_of_lt (x.above p.1 p.2 hp)))
   cases fl with
   | ret v =>
     obtain ⟨v',rfl,rv⟩ := (show ∃ v',f = .ret v' /\ VR α' s₂.heap v v' from rf);exact ⟨v,H',α',hP,rv,st'.inv,t'⟩
   | next => cases (show f = .next from rf);exact ⟨.none,H',α',hP,by skip;rfl,st'.inv,t'⟩
   | brk => cases (show f = .brk from rf);exact ⟨.none,H',α',hP,by skip;rfl,st'.inv,t'⟩
   | cont => cases (show f = .cont from rf);exact ⟨.none,H',α',hP,by skip;rfl,st'.inv,t'⟩
noncomputable def bC (G : Gl) (f : Value) : Prop := ∀ h : Heap,(∀ b o,G.h₀.get? b = some o -> h.get? b = some o) -> ∃ k,(k = Keeper.frame \/ k = Keeper.machine \/ k = Keeper.boundFrame) /\ Looks (model G.prog G.w) h (keeperOf f) k
theorem bC.fn {G : Gl} {a : Addr} {o : Obj} {fd : FuncData} (e : G.h₀.get? a = some o) (hd : o.data = .func fd) : bC G (.ref a) := fun h k => by
 obtain ⟨oc,od,_,sl⟩ := o;subst hd;exact keeps_F h ⟨oc,od,fd,sl,k _ _ e⟩
theorem bC.builtin {G : Gl} {id : String} : bC G (.builtin id) := fun h _ => ⟨.machine,.inr (.inl rfl),.now⟩
theorem bC.type {G : Gl} {id : String} : bC G (.type id) := fun h _ => ⟨.machine,.inr (.inl rfl),.now⟩
section
variable {G : Gl} {env : Env} {names : List Str} {n : Nat}
noncomputable def J9 (C : gF) (P : cM) : List MV -> List MO -> Prop := fun xs H' => C xs H' P
noncomputable def aV (C : gF) (w : WL) : WE := fun ρ H P => w ρ H (J9 C P)
theorem fD {A : Around} {E : cB} {s : Shared} {pos : Pos} {f : Value} {first : List Value} {e : Expr} {es : List Expr} {wl : WL} {α : List Addr} {H : List MO} {ρ : bI} {P : List MV -> List MO -> Prop} {Q : cB} (hc : bC G f) (hl : d9 G env names n (e :: es) wl) (ok : Ok A n) (st : St G env names ρ α H s) (hw : wl ρ H P) (he : starEach (e :: es) env = (false,eval e env) :: starEach es env) (hp : (backTo pos (starEach es env)).any (·.1) = false) (h : ∀ xs vs s' H' α',P xs H' -> c8 α' s'.heap xs vs -> cL G α' H' s' -> a5 G [] α s α' s' -> wpAny (model G.prog G.w) A (call f (first ++ vs) []) Q E s') : wpAny (model G.prog G.w) A (callWith pos f first (backTo pos (starEach (e :: es) env)) []) Q E s := by
 have key := hl A ok E s α H ρ P pos st hw;rw [he] at key ⊢;refine callWith_of (P := fun h => ∀ b o,G.h₀.get? b = some o -> h.get? b = some o) (by skip;refine aJ hp ?_;rfl) (fun h X => hc h X) ?_;refine Calls.evalArgs_plain (wpAny_mono key (fun vs s' q => ?_) kE);obtain ⟨xs,H',α',p,r,i,t⟩ := q;exact ⟨i.base,h xs vs s' H' α' p r i t⟩
theorem nZ {A : Around} {E : cB} {s : Shared} {pos : Pos} {f : Value} {first : List Value} {α : List Addr} {H : List MO} {ρ : bI} {Q : cB} (hc : bC G f) (st : St G env names ρ α H s) (h : wpAny (model G.prog G.w) A (call f (first ++ []) []) Q E s) : wpAny (model G.prog G.w) A (callWith pos f first (backTo pos (starEach [] env)) []) Q E s :=
 callWith_of (P := fun h => ∀ b o,G.h₀.get? b = some o -> h.get? b = some o) rfl (fun h X => hc h X) (evalArgs_nil3 ⟨st.inv.base,h⟩)
theorem E.call {x : Str} {np pos : Pos} {e : Expr} {es : List Expr} {f : Value} {wl : WL} {C : gF} (hn : aP G env names n (.Name x np) (wK (.val f))) (hc : bC G f) (hf : dT G n f C) (hl : d9 G env names n (e :: es) wl) (hs : starEach (e :: es) env = (false,eval e env) :: starEach es env := by rfl) (hp : (backTo pos (starEach es env)).any (·.1) = false := by rfl)
   (ht : eval (.Call (.Name x np) (e :: es) [] pos) env = (do callWith pos (<- eval (.Name x np) env) [] (backTo pos (starEach (e :: es) env)) (backToKw pos (keywordEach [] env))) := by rfl) :
   aP G env names n (.Call (.Name x np) (e :: es) [] pos) (aV C wl) := by
 intro A ok E s α H ρ P st hw;refine Call_ (fM (hn A ok E s α H ρ (fun v H' => v = .val f /\ H' = H) st ⟨rfl,rfl⟩) fun v H₁ aQ f' aO q3 bO aZ aU => ?_) ht;refine bP fun no => ?_;obtain ⟨rfl,rfl⟩ := q3;refine no ?_
 skip;subst bO
 refine fD hc hl ok (st.step aU aZ) hw hs hp fun xs vs s₂ bH bL hP dW bQ bF => ?_;exact wpAny_mono (hf A ok E s₂ bL bH P xs vs bQ dW hP) (fun v s₃ q => (q.trans bF).trans aU) kE
theorem E.call0 {x : Str} {np pos : Pos} {f : Value} {C : gF} (hn : aP G env names n (.Name x np) (wK (.val f))) (hc : bC G f) (hf : dT G n f C)
   (ht : eval (.Call (.Name x np) [] [] pos) env = (do callWith pos (<- eval (.Name x np) env) [] (backTo pos (starEach [] env)) (backToKw pos (keywordEach [] env)))) :
   aP G env names n (.Call (.Name x np) [] [] pos) (aV C aL) := by
 intro A ok E s α H ρ P st hw;refine Call_ (fM (hn A ok E s α H ρ (fun v H' => v = .val f /\ H' = H) st ⟨rfl,rfl⟩) fun v H₁ aQ f' aO q3 bO aZ aU => ?_) ht;refine bP fun no => ?_;obtain ⟨rfl,rfl⟩ := q3;refine no ?_
 skip;subst bO
 refine nZ hc (st.step aU aZ) ?_;exact wpAny_mono (hf A ok E aO aQ H₁ P [] [] aZ .nil hw) (fun v s₃ q => q.trans aU) kE
end
noncomputable def kG (o : Obj) : Prop := ¬ Mb o /\ ∀ vs : Array Value,o.data = .fields vs -> ∀ n t,vs[1]? ≠ some (.str n t)
noncomputable def Ap (G : Gl) (X α : List Addr) : Prop := ∀ x ∈ X,x ∉ α /\ x ∉ G.tb /\ G.h₀.get? x = none
section
variable {G : Gl} {α : List Addr} {H : List MO} {s s' s'' : Shared} {X Y : List Addr}
theorem lU (own : ∀ x ∈ X,∀ o,s.heap.get? x = some o -> kG o) (hk : ∀ b o,b ∉ X -> s.heap.get? b = some o -> s'.heap.get? b = some o) : tI s.heap s'.heap := fun b o e q => by
 by_cases h : b ∈ X
 · exact absurd q (own b h o e).1
 · exact hk b o h e
theorem cL.but (i : cL G α H s) (ap : Ap G X α) (own : ∀ x ∈ X,∀ o,s.heap.get? x = some o -> kG o) (hk : ∀ b o,b ∉ X -> s.heap.get? b = some o -> s'.heap.get? b = some o) (hg : AllBare s'.gens) : cL G α H s' := by
 refine ⟨fun b o' e => ?_,i.len,i.nodup,i.fresh,fun l b o' h1 h2 => ?_,fun q hq => ?_,hg⟩
 · exact hk b o' (fun z => by rw [(ap b z).2.2] at e;exact nS e) (i.base b o' e)
 · have hn : b ∉ X := fun z => (ap b z).1 (mem_of_getElem? h1);have := OR.mono (h' := s'.heap) [] (lU own hk) (fun o e => hk b o hn e) (i.objs l b o' h1 h2)
   rwa [append_nil] at this
 · obtain ⟨ps,e,t1,t2⟩ := i.tabs q hq;refine ⟨ps,hk _ _ (fun z => (ap _ z).2.1 (mem_map_of_mem hq) : q.2 ∉ X) e,t1,fun pos cv hcv => ?_⟩;obtain ⟨c',e',f⟩ := t2 pos cv hcv;refine ⟨c',e',fun n hn' => ?_⟩;refine bP fun no => ?_;obtain ⟨c,oc,vs,t,z1,z2,z3,z4⟩ := f n hn';refine no ?_;refine ⟨c,oc,vs,t,z1,hk _ _ (fun z => ?_) z2,z3,z4⟩;exact (own c z oc z2).2 vs z3 _ _ z4
theorem a5.but (own : ∀ x ∈ X,∀ o,s.heap.get? x = some o -> kG o) (hk : ∀ b o,b ∉ X -> s.heap.get? b = some o -> s'.heap.get? b = some o) (hth : ∀ x ∈ X,∃ o',s'.heap.get? x = some o') (hd : s'.drawn = s.drawn) (ho : s'.os = s.os) (hg : s'.gens = s.gens) : a5 G X α s α s' :=
 ⟨⟨[],by simp,by exact fun _ h => absurd h not_mem_nil⟩,fun b o e _ _ h => hk b o h e,lU own hk,hd,ho,fun i g e => by refine aJ hg ?_;exact e,fun b o e => by
   by_cases h : b ∈ X
   · exact hth b h
   · exact ⟨o,hk b o h e⟩⟩
theorem a5.drop {α' : List Addr} (t : a5 G (X ++ Y) α s α' s') (h : ∀ x ∈ X,s.heap.get? x = none) : a5 G Y α s α' s' :=
 ⟨t.ext,fun b o e h1 h2 h3 => t.keep b o e h1 h2 fun q => by
   rcases mem_append.mp q with q | q
   · rw [h b q] at e;exact nS e
   · exact h3 q,t.imm,t.drawn,t.os,t.gens,t.there⟩
theorem Ap.step {α' : List Addr} (ap : Ap G X α) (t : a5 G Y α s α' s') (h : ∀ x ∈ X,∃ o,s.heap.get? x = some o) : Ap G X α' := fun x hx => by
 refine ⟨fun q => ?_,(ap x hx).2⟩;obtain ⟨β,rfl,hβ⟩ := t.ext;rcases mem_append.mp q with q | q
 · exact (ap x hx).1 q
 · obtain ⟨o,e⟩ := h x hx;rw [hβ x q] at e;exact nS e
theorem cQ (i : cL G α H s) {a : Addr} (h : s.heap.get? a = none) : a ∉ α /\ a ∉ G.tb /\ G.h₀.get? a = none := by
 refine ⟨fun q => ?_,fun q => ?_,?_⟩
 · obtain ⟨o,e⟩ := i.has q;rw [h] at e;exact nS e
 · obtain ⟨p,hp,rfl⟩ := mem_map.mp q;obtain ⟨ps,e,_⟩ := i.tabs p hp;rw [h] at e;exact nS e
 · cases e : G.h₀.get? a with
   | none => rfl
   | some o => have := i.base a o e;rw [h] at this;exact nS this
theorem Heap.SameBut.keep' {a b : Addr} {h h' : Heap} {o : Obj} (x : Heap.SameBut a h h') (hb : b ∉ [a]) (e : h.get? b = some o) : h'.get? b = some o := x.extBut b o (fun z => hb (by simp [z])) e
end
structure Md (X : List Addr) (s s' : Shared) : Prop where
 keep : ∀ b o,b ∉ X -> s.heap.get? b = some o -> s'.heap.get? b = some o
 drawn : s'.drawn = s.drawn
 os : s'.os = s.os
 gens : s'.gens = s.gens
theorem a5.fin {G : Gl} {X Y α α' : List Addr} {s s' s'' : Shared} (t : a5 G (X ++ Y) α s α' s') (h : ∀ x ∈ X,s.heap.get? x = none) (k : Md X s' s'') : a5 G Y α s α' s'' := by
 refine ⟨t.ext,fun b o e h1 h2 h3 => ?_,fun b o e q => ?_,k.drawn.trans t.drawn,k.os.trans t.os,fun i g e => by rw [k.gens];exact t.gens i g e,fun b o e => ?_⟩
 · have hb : b ∉ X := fun q => by rw [h b q] at e;exact nS e
   exact k.keep b o hb (t.keep b o e h1 h2 fun q => (mem_append.mp q).elim hb h3)
 · have hb : b ∉ X := fun q => by rw [h b q] at e;exact nS e
   exact k.keep b o hb (t.imm b o e q)
 · have hb : b ∉ X := fun q => by rw [h b q] at e;exact nS e
   obtain ⟨o',e'⟩ := t.there b o e;exact ⟨o',k.keep b o' hb e'⟩
inductive Nx (G : Gl) (X α : List Addr) (H : List MO) (s : Shared) (v : MV) (M : Value -> List Addr -> Shared -> Prop) (r : Option Value) (s' : Shared) : Prop
 | mk (v' : Value) (e : r = some v') (rv : VR α s'.heap v v') (m : M v' α s') (i : cL G α H s') (t : a5 G X α s α s') : Nx G X α H s v M r s'
structure Ce (G : Gl) (it : Value) (X : List Addr) (xs : List MV) (chk : List MO -> Prop) (tgt : Expr -> Prop) (S : Nat -> List Addr -> Shared -> Prop) (M : Nat -> Value -> List Addr -> Shared -> Prop) : Prop where
 own : ∀ {k α s},S k α s -> ∀ x ∈ X,∃ o,s.heap.get? x = some o /\ kG o
 keep : ∀ {k α α' s s' Y},S k α s -> Ap G X α -> a5 G Y α s α' s' -> (∀ x ∈ X,x ∉ Y) -> S k α' s'
 next : ∀ {A} (_ : Ok A 0) {E k α H s v},xs[k]? = some v -> S k α s -> Ap G X α -> cL G α H s -> chk H ->
   wpAny (model G.prog G.w) A (pyNext it) (Nx G X α H s v (M k)) E s
 go : ∀ {A} (_ : Ok A 0) {E k α H s v' tg},tgt tg -> M k v' α s -> Ap G X α -> cL G α H s ->
   wpAny (model G.prog G.w) A (letOwnedTupleGo tg it v') (fun _ s' => S (k + 1) α s' /\ cL G α H s' /\ a5 G X α s α s') E s
 done : ∀ {A} (_ : Ok A 0) {E α H s},S xs.length α s -> Ap G X α -> cL G α H s -> chk H ->
   wpAny (model G.prog G.w) A (pyNext it) (fun r s' => r = none /\ Md X s s') E s
 self : ∀ {A} (_ : Ok A 0) {E k α s} {Q : cB},S k α s -> Q it s -> wpAny (model G.prog G.w) A (pyIter it) Q E s
inductive kO (G : Gl) (it : Value) (xs : List MV) (chk : List MO -> Prop) (tgt : Expr -> Prop) (α : List Addr) (s s' : Shared) : Prop
 | mk (X : List Addr) (S : Nat -> List Addr -> Shared -> Prop) (M : Nat -> Value -> List Addr -> Shared -> Prop) (a : Ce G it X xs chk tgt S M) (z : S 0 α s') (p : Ap G X α) (n : ∀ x ∈ X,s.heap.get? x = none) : kO G it xs chk tgt α s s'
noncomputable abbrev WI := bI -> List MO -> (List MV -> (List MO -> Prop) -> List MO -> Prop) -> Prop
inductive M2 (G : Gl) (tgt : Expr -> Prop) (α : List Addr) (s : Shared) (P : List MV -> (List MO -> Prop) -> List MO -> Prop) (it : Value) (s' : Shared) : Prop
 | mk (xs : List MV) (chk : List MO -> Prop) (H' : List MO) (α' : List Addr) (p : P xs chk H') (l : xs.length <= sizeLine) (a : kO G it xs chk tgt α' s s') (i : cL G α' H' s') (t : a5 G [] α s α' s') : M2 G tgt α s P it s'
noncomputable def k6 (G : Gl) (env : Env) (names : List Str) (n : Nat) (e : Expr) (tgt : Expr -> Prop) (w : WI) : Prop :=
 ∀ (A : Around),Ok A n -> ∀ (E : cB) (s : Shared) (α : List Addr) (H : List MO) (ρ : bI) (P : List MV -> (List MO -> Prop) -> List MO -> Prop),St G env names ρ α H s -> w ρ H P ->
   wpAny (model G.prog G.w) A (eval e env) (fun x aO => wpAny (model G.prog G.w) A (pyIter x) (M2 G tgt α s P) E aO) E s
section
variable {G : Gl} {env : Env} {names : List Str} {n : Nat}
theorem fO {T : String} {o : Obj} {a b : Value} (hc : o.cls = .type T) (hd : o.data = .fields #[a,b]) (h1 : T ≠ "tuple") (h2 : T ≠ "builtin_function_or_method") (hb : ∀ n t,b ≠ .str n t) : kG o := by
 refine ⟨dN ?_ ?_,fun vs e n t q => ?_⟩
 · refine aJ hc ?_;intro q;injection q with q;exact h1 q
 · refine aJ hc ?_;intro q;injection q with q;exact h2 q
 · replace e := hd ▸ e;(injection e with e;subst e)
   replace q := si q
   exact hb n t q
theorem pM {tg : Expr} {I : Addr} {v : Value} {A : Around} {E : cB} {s : Shared} {T : String} {o : Obj} {Q : Unit -> Shared -> Prop} (ho : s.heap.get? I = some o) (hc : o.cls = .type T) (hn : (["enumerate","zip","dict_itemiterator","dict_reverseitemiterator","odict_iterator","itertools.zip_longest","itertools.pairwise"].contains T) = false) (h : Q () s) : wpAny (model G.prog G.w) A (letOwnedTupleGo tg (.ref I) v) Q E s := by
 have key : ∀ es c p,wpAny (model G.prog G.w) A (letOwnedTupleGo (.Tuple es c p) (.ref I) v) Q E s := fun es c p => by
   cases v <;> first | exact wpAny_pure h | skip
   refine wpAny_bind (wpAny_load ho ?_);refine aJ hc ?_;generalize o.data = d;cases d <;> first | exact wpAny_pure h | skip
   dsimp only;refine aJ hn ?_;exact wpAny_pure h
 cases tg <;> first | exact wpAny_pure h | exact key _ _ _ | exact key [] 0 ⟨0,0,0,0⟩
theorem Ce.list {I : Addr} {j : Nat} {xs : List MV} {tgt : Expr -> Prop} : Ce G (.ref I) [I] xs (fun H => H[j]? = some (.list xs)) tgt (fun k α s => ∃ a,α[j]? = some a /\ s.heap.IsListIter I a k) (fun k _ α s => ∃ a,α[j]? = some a /\ s.heap.IsListIter I a (k + 1)) where
 own := fun ⟨a,h1,o,ho,hc,hd⟩ x hx => by
   refine aJ (mem_singleton.mp hx) ?_;exact ⟨o,ho,fO hc hd (by decide) (by decide) (by intro n t q;cases q)⟩
 keep := fun ⟨a,h1,o,ho,r⟩ ap t hY => by
   obtain ⟨β,rfl,_⟩ := id t.ext;refine ⟨a,by refine aJ (getElem?_append_left (List.getElem?_eq_some_iff.mp h1).1) ?_;exact h1,o,?_,r⟩;have := ap I mem_cons_self;exact t.keep I o ho this.1 this.2.1 (hY I mem_cons_self)
 next := fun {A} ok {E k α H s v} hv st ap i hc => by
   refine bP fun no => ?_;obtain ⟨a,h1,rI⟩ := st;obtain ⟨vs,m,g1,r1⟩ := i.lst h1 hc;obtain ⟨v',hv',rv⟩ := r1.get hv;refine no ?_;refine wpAny_pyNext_list_item rI ⟨_,g1,rfl,_,rfl⟩ (x := v') (by simpa using hv') fun h' hit' hs' => ?_;refine bP fun no => ?_;obtain ⟨o,ho,hoc,hod⟩ := rI;refine no ?_;have own : ∀ x ∈ [I],∀ o,s.heap.get? x = some o -> kG o := fun x hx o' e => by
     replace e := ho ▸ (mem_singleton.mp hx) ▸ e;(injection e with e;subst e)
     exact fO hoc hod (by decide) (by decide) (by intro n t q;cases q)
   have hk : ∀ b o,b ∉ [I] -> s.heap.get? b = some o -> h'.get? b = some o := fun b o hb e => Heap.SameBut.keep' hs' hb e;refine bP fun no => ?_;obtain ⟨o',ho',_⟩ := id hit';refine no ?_;refine ⟨v',rfl,?_,⟨a,h1,hit'⟩,i.but (s' := { s with heap := h' }) ap own hk i.bare,a5.but own hk (fun x hx => by refine aJ (mem_singleton.mp hx) ?_;exact ⟨o',ho'⟩) rfl rfl rfl⟩;have := VR.mono [] (lU (s' := { s with heap := h' }) own hk) rv
   rwa [append_nil] at this
 go := fun {A} ok {E k α H s v' tg} _ m ap i => by
   refine bP fun no => ?_;obtain ⟨a,h1,o,ho,hc,hd⟩ := id m;refine no ?_;exact pM ho hc (by decide) ⟨m,i,.refl⟩
 done := fun {A} ok {E α H s} st ap i hc => by
   refine bP fun no => ?_;obtain ⟨a,h1,rI⟩ := st;obtain ⟨vs,m,g1,r1⟩ := i.lst h1 hc;refine no ?_;have l := r1.length;simp only [length_toList] at l;refine wpAny_pyNext_list_end ok.1 rI ⟨_,g1,rfl,_,rfl⟩ (Array.getElem?_eq_none (le_of_eq l.symm)) fun h' he' => ?_;exact ⟨rfl,(fun b o hb e => he' b o (fun z => hb (by simp [z])) e : ∀ b o,b ∉ [I] -> s.heap.get? b = some o -> h'.get? b = some o),rfl,rfl,rfl⟩
 self := fun {A} ok {E k α s Q} st h => by
   obtain ⟨a,h1,rI⟩ := st;exact wpAny_pyIter_listiter rI h
theorem Ce.one {I : Addr} {xs : List MV} {tgt : Expr -> Prop} {S : Nat -> Heap -> Prop} {T : String} (hn : (["enumerate","zip","dict_itemiterator","dict_reverseitemiterator","odict_iterator","itertools.zip_longest","itertools.pairwise"].contains T) = false) (own : ∀ {k h},S k h -> ∃ o,h.get? I = some o /\ o.cls = .type T /\ kG o) (at' : ∀ {k h h'},S k h -> (∀ o,h.get? I = some o -> h'.get? I = some o) -> S k h') (W : ∀ A : Around,A.handled = none -> Walks G.prog G.w A I [I] [I] xs.length (fun k v => ∀ x α h,xs[k]? = some x -> VR α h x v) S) : Ce G (.ref I) [I] xs (fun _ => True) tgt (fun k _ s => S k s.heap) (fun k _ _ s => S (k + 1) s.heap) where
 own := fun st x hx => by
   refine aJ (mem_singleton.mp hx) ?_;obtain ⟨o,ho,_,w⟩ := own st;exact ⟨o,ho,w⟩
 keep := fun st ap t hY => at' st fun o e => by
   have := ap I mem_cons_self;exact t.keep I o e this.1 this.2.1 (hY I mem_cons_self)
 next := fun {A} ok {E k α H s v} hv st ap i hc => by
   refine (W A ok.1).item k s _ _ ((List.getElem?_eq_some_iff.mp hv).1) st fun v' h' tk p st' kp => ?_;refine bP fun no => ?_;obtain ⟨o,ho,_,wo⟩ := own st;refine no ?_;have own' : ∀ x ∈ [I],∀ o,s.heap.get? x = some o -> kG o := fun x hx o' e => by
     replace e := ho ▸ (mem_singleton.mp hx) ▸ e;(injection e with e;subst e)
     exact wo
   refine bP fun no => ?_;obtain ⟨o',ho',_⟩ := own st';refine no ?_;exact ⟨v',rfl,p v α h' hv,st',i.but (s' := { s with heap := h',toks := tk }) ap own' kp i.bare,a5.but own' kp (fun x hx => by refine aJ (mem_singleton.mp hx) ?_;exact ⟨o',ho'⟩) rfl rfl rfl⟩
 go := fun {A} ok {E k α H s v' tg} _ m ap i => by
   refine bP fun no => ?_;obtain ⟨o,ho,hc,_⟩ := own m;refine no ?_;exact pM ho hc hn ⟨m,i,.refl⟩
 done := fun {A} ok {E α H s} st ap i hc => by
   refine (W A ok.1).done s _ _ st fun h' tk kp => ?_;exact ⟨rfl,kp,rfl,rfl,rfl⟩
 self := fun {A} ok {E k α s Q} st h => (W A ok.1).self k s Q E st h
noncomputable def rng (a c : Int) (n : Nat) : List MV := (List.range n).map fun (i : Nat) => .int (a + (i : Int) * c)
theorem Ih {a c : Int} {n k : Nat} {x : MV} (h : (rng a c n)[k]? = some x) : x = .int (a + (k : Int) * c) := by
 unfold rng at h;rw [getElem?_map] at h;have hk : k < n := by
   cases e : (List.range n)[k]? with
   | none => rw [e] at h;exact nS h
   | some y => simpa using (List.getElem?_eq_some_iff.mp e).1
 rw [getElem?_range hk] at h;simp at h;exact h.symm
theorem Walks.weak {prog : Program} {w : World} {A : Around} {I : Addr} {fp wr : List Addr} {n : Nat} {P P' : Nat -> Value -> Prop} {St : Nat -> Heap -> Prop} (W : Walks prog w A I fp wr n P St) (h : ∀ k v,k < n -> P k v -> P' k v) : Walks prog w A I fp wr n P' St where
 sub := W.sub
 frame := W.frame
 item := fun i s Q E hi st hQ => W.item i s Q E hi st fun v h' tk p => hQ v h' tk (h i v hi p)
 done := W.done
 self := W.self
theorem Ce.rng {I : Addr} {a c : Int} {m : Nat} {tgt : Expr -> Prop} : Ce G (.ref I) [I] (rng a c m) (fun _ => True) tgt (fun k _ s => IsRangeIter s.heap I (a + (k : Nat) * c) ((m : Int) - (k : Nat)) c) (fun k _ _ s => IsRangeIter s.heap I (a + ((k + 1 : Nat) : Int) * c) ((m : Int) - ((k + 1 : Nat) : Int)) c) := by
 refine Ce.one (T := "range_iterator") (S := fun k h => IsRangeIter h I (a + (k : Nat) * c) ((m : Int) - (k : Nat)) c) (by decide) (fun h => ⟨_,h,rfl,?_⟩) (fun h e => e _ h) fun A hA => ?_
 · refine ⟨dN (show Value.type "range_iterator" ≠ Value.type "tuple" by decide) (show Value.type "range_iterator" ≠ Value.type "builtin_function_or_method" by decide),fun vs e n t q => ?_⟩
   (injection e with e;subst e)
   simp [rawInt] at q
 · refine aJ (by simp [Mine.rng] : (Mine.rng a c m).length = m) ?_;refine Walks.weak (Walks.range hA I a c m) fun k v hk p x α h hx => ?_;obtain ⟨t,rfl⟩ := p;refine aJ (Ih hx) ?_
   skip;exact ⟨t,rfl⟩
noncomputable def lV (x : Str) : List MV := x.cps.toList.map fun c => .str ⟨#[c]⟩
theorem Az {x : Str} {k : Nat} {v : Value} (p : SignAt x k v) : ∀ y α h,(lV x)[k]? = some y -> VR α h y v := fun y α h hy => by
 obtain ⟨c,u,e,rfl⟩ := p;unfold lV at hy;rw [getElem?_map,getElem?_toList,e] at hy;simp at hy;subst hy;exact ⟨u,rfl,by show 1 <= sizeLine;decide⟩
theorem A0 {T : String} {h : Heap} {I : Addr} {x : Str} {t : Tok} {k : Nat} (rI : h.IsStrIter I T x t k) (h1 : T ≠ "tuple") (h2 : T ≠ "builtin_function_or_method") : ∃ o,h.get? I = some o /\ o.cls = .type T /\ kG o := by
 obtain ⟨o,ho,hc,hd⟩ := rI;exact ⟨o,ho,hc,fO hc hd h1 h2 (by intro n t q;cases q)⟩
theorem Cf {A : Around} {E : cB} {s : Shared} {α : List Addr} {H : List MO} {x : Str} {t : Tok} {tgt : Expr -> Prop} {Q : cB} (i : cL G α H s) (h : ∀ it s',kO G it (lV x) (fun _ => True) tgt α s s' -> cL G α H s' -> a5 G [] α s α s' -> Q it s') : wpAny (model G.prog G.w) A (pyIter (.str x t)) Q E s := by
 have hl : (lV x).length = x.cps.size := by exact length_map ..
 have ap : Ap G [s.heap.objs.size] α := fun y hy => by refine aJ (mem_singleton.mp hy) ?_;exact cQ i (a9 (le_refl _))
 have fr : ∀ y ∈ [s.heap.objs.size],s.heap.get? y = none := fun y hy => by refine aJ (mem_singleton.mp hy) ?_;exact a9 (le_refl _)
 cases ha : x.cps.all (· < 128)
 · refine wpAny_pyIter_wide ha (h _ _ ⟨[s.heap.objs.size],_,_,Ce.one (T := "str_iterator") (S := fun k h => h.IsStrIter s.heap.objs.size "str_iterator" x t k) (by decide) (fun st => A0 st (by decide) (by decide)) (fun st e => (by obtain ⟨o,ho,r⟩ := st;exact ⟨o,e _ ho,r⟩)) (fun A' hA => ?_),⟨_,get?_push_size _ rfl,rfl,rfl⟩,ap,fr⟩ (i.kp (Kp.push _)) (Kp.push _).step);refine aJ hl ?_;exact Walks.weak (Walks.strWide hA _ x t) fun k v _ p => Az p
 · refine wpAny_pyIter_ascii ha (h _ _ ⟨[s.heap.objs.size],_,_,Ce.one (T := "str_ascii_iterator") (S := fun k h => h.IsStrIter s.heap.objs.size "str_ascii_iterator" x t k) (by decide) (fun st => A0 st (by decide) (by decide)) (fun st e => (by obtain ⟨o,ho,r⟩ := st;exact ⟨o,e _ ho,r⟩)) (fun A' hA => ?_),⟨_,get?_push_size _ rfl,rfl,rfl⟩,ap,fr⟩ (i.kp (Kp.push _)) (Kp.push _).step);refine aJ hl ?_;exact Walks.weak (Walks.strAscii hA _ x t) fun k v _ p => Az p
noncomputable def hJ (w : WE) : WI := fun ρ H P => w ρ H fun v H' => match v with
 | .ref j => ∃ xs,H'[j]? = some (.list xs) /\ xs.length <= sizeLine /\ P xs (fun H => H[j]? = some (.list xs)) H'
 | .str x => P (lV x) (fun _ => True) H'
 | _ => False
theorem kO.back {it : Value} {xs : List MV} {chk : List MO -> Prop} {tgt : Expr -> Prop} {α α' Z : List Addr} {s aO s' : Shared} (t : a5 G Z α s α' aO) (x : kO G it xs chk tgt α' aO s') : kO G it xs chk tgt α' s s' := by
 obtain ⟨X,S,M,a,b,c,d⟩ := x;refine ⟨X,S,M,a,b,c,fun y hy => ?_⟩;cases e : s.heap.get? y with
 | none => rfl
 | some o =>
   obtain ⟨o',e'⟩ := t.there y o e;rw [d y hy] at e';exact nS e'
theorem I.over {e : Expr} {w : WE} {tgt : Expr -> Prop} (h : aP G env names n e w) : k6 G env names n e tgt (hJ w) := by
 intro A ok E s α H ρ P st hw;refine fM (h A ok E s α H ρ _ st hw) fun v H₁ aQ v' aO hP bO aZ aU => ?_;cases v with
 | ref j =>
   obtain ⟨xs,hj,hl,hP⟩ := hP;obtain ⟨a,vs,m,ha,g1,r2⟩ := aZ.list bO hj;refine wpAny_pyIter_list ⟨_,g1,rfl,_,rfl⟩ ?_;refine ⟨xs,_,H₁,aQ,hP,hl,kO.back aU ⟨[aO.heap.objs.size],_,_,Ce.list (j := j),⟨a,ha,_,get?_push_size _ rfl,rfl,rfl⟩,fun y hy => ?_,fun y hy => ?_⟩,aZ.kp (Kp.push _),aU.trans (Kp.push _).step⟩
   · refine aJ (mem_singleton.mp hy) ?_;exact cQ aZ (a9 (le_refl _))
   · refine aJ (mem_singleton.mp hy) ?_;exact a9 (le_refl _)
 | str x =>
   have l := bO.str_len;obtain ⟨t⟩ := bO.str_inv;exact Cf aZ fun it s' a i' t' => ⟨_,_,H₁,aQ,hP,by simpa [lV,Str.length] using l,kO.back aU a,i',aU.trans t'⟩
 | _ => exact hP.elim
end
section
variable {G : Gl} {env : Env} {names : List Str} {n : Nat}
inductive Tg where
 | nm (i : Nat)
 | tp (is : List Nat)
noncomputable def Tg.bind : Tg -> MV -> bI -> Option bI
 | .nm i,v,ρ => some (upd ρ i v)
 | .tp is,.tup xs,ρ => if xs.length = is.length then some (eI ρ is xs) else none
 | .tp _,_,_ => none
inductive Tg.At (env : Env) (names : List Str) : Tg -> Expr -> Prop
 | nm {i : Nat} {x : Str} {p : Pos} (h : names[i]? = some x) (s : gK env x) : Tg.At env names (.nm i) (.Name x p)
 | tp {is : List Nat} {es : List Expr} {k : _} {p : Pos} (h : gB env names es is) : Tg.At env names (.tp is) (.Tuple es k p)
theorem A1 {is : List Nat} {v : MV} {ρ ρ' : bI} (h : (Tg.tp is).bind v ρ = some ρ') : ∃ xs,xs.length = is.length /\ v = .tup xs /\ ρ' = eI ρ is xs := by
 cases v with
 | tup xs =>
   have h' : (if xs.length = is.length then some (eI ρ is xs) else none) = some ρ' := h;by_cases hl : xs.length = is.length
   · rw [if_pos hl] at h';(injection h' with h';subst h');exact ⟨xs,hl,rfl,rfl⟩
   · rw [if_neg hl] at h';exact nS h'
 | _ => exact nS h
theorem tN (hk : env.scope.kind = .function) (hnd : names.Nodup) {A : Around} (hh : A.handled = none) {E : cB} {s : Shared} {α : List Addr} {H : List MO} {ρ ρ' : bI} {tg : Tg} {e : Expr} {v : MV} {v' : Value} {Q : Unit -> Shared -> Prop} (ht : tg.At env names e) (hb : tg.bind v ρ = some ρ') (st : St G env names ρ α H s) (r : VR α s.heap v v') (hq : ∀ s',St G env names ρ' α H s' -> a5 G (bV env) α s α s' -> Q () s') : wpAny (model G.prog G.w) A (assign e env v') Q E s := by
 cases ht with
 | nm h s => (injection hb with hb;subst hb);exact wpAny_assign_Name (dC hk hnd h s st r hq)
 | tp h =>
   refine bP fun no => ?_;obtain ⟨xs,hl,rfl,rfl⟩ := A1 hb;refine no ?_;exact lT hk hnd hh h hl st r hq
noncomputable def cR (t : Tg) (b : WS) (chk : List MO -> Prop) (P : d5) : List MV -> bI -> List MO -> Prop
 | [],ρ,H => chk H /\ P .next ρ H
 | x :: xs,ρ,H => chk H /\ Sm (t.bind x ρ) fun ρ' => b ρ' H (pJ (cR t b chk P xs) P)
noncomputable def Pz (t : Tg) (b : WS) (ρ : bI) (P : d5) : List MV -> (List MO -> Prop) -> List MO -> Prop := fun xs chk H' => cR t b chk P xs ρ H'
noncomputable def kI (t : Tg) (wi : WI) (b : WS) : WS := fun ρ H P => wi ρ H (Pz t b ρ P)
theorem i6 {ρ : bI} {α : List Addr} {H : List MO} {s : Shared} (st : St G env names ρ α H s) {a : Addr} (h : a ∈ bV env) : ∃ o,s.heap.get? a = some o := by
 rcases mem_cons.mp h with rfl | h
 · obtain ⟨m,o,_,_,e,_⟩ := st.ns;exact ⟨o,e⟩
 · obtain ⟨p,hp,rfl⟩ := mem_map.mp h;obtain ⟨v,o,e,_⟩ := st.cell p.1 p.2 hp;exact ⟨o,e⟩
theorem kY.kp {s s' : Shared} {x : Str} {v : Value} (l : kY env x s.heap v) (h : ∀ b ∈ bV env,∀ o,s.heap.get? b = some o -> s'.heap.get? b = some o) : kY env x s'.heap v := by
 rcases l with ⟨hk,m,hn,hm⟩ | ⟨hk,c,hc,o,e,hd⟩
 · obtain ⟨o,es,ep,e,r⟩ := hn;exact .inl ⟨hk,m,⟨o,es,ep,h _ mem_cons_self _ e,r⟩,hm⟩
 · exact .inr ⟨hk,c,hc,o,h _ (mem_cons_of_mem _ (mem_map_of_mem (cI hc))) _ e,hd⟩
theorem j3 {ρ : bI} {α α' : List Addr} {H H' : List MO} {s s' : Shared} (x : St G env names ρ α H s) (i : cL G α' H' s') (he : ∃ β,α' = α ++ β /\ ∀ a ∈ β,s.heap.get? a = none) (imm : tI s.heap s'.heap) (h : ∀ b ∈ bV env,∀ o,s.heap.get? b = some o -> s'.heap.get? b = some o) : St G env names ρ α' H' s' := by
 obtain ⟨β,rfl,hβ⟩ := he;refine ⟨i,fun j n v hj hv => ?_,?_,fun n c hc => ?_,fun b hb => ⟨?_,(x.apart b hb).2⟩,x.nodup⟩
 · obtain ⟨v',l,r⟩ := x.var j n v hj hv;exact ⟨v',l.kp h,VR.mono β imm r⟩
 · obtain ⟨m,o,es,ep,e,r⟩ := x.ns;exact ⟨m,o,es,ep,h _ mem_cons_self _ e,r⟩
 · obtain ⟨v,o,e,hd⟩ := x.cell n c hc;exact ⟨v,o,h _ (mem_cons_of_mem _ (mem_map_of_mem hc)) _ e,hd⟩
 · intro q;rcases mem_append.mp q with q | q
   · exact (x.apart b hb).1 q
   · obtain ⟨o,e⟩ := i6 x hb;rw [hβ b q] at e;exact nS e
theorem lW {ρ : bI} {α α' X : List Addr} {H H' : List MO} {s s' : Shared} (x : St G env names ρ α H s) (t : a5 G X α s α' s') (i : cL G α' H' s') (hX : ∀ y ∈ X,y ∉ bV env) : St G env names ρ α' H' s' :=
 j3 x i t.ext t.imm fun b hb o e => t.keep b o e (x.apart b hb).1 (x.apart b hb).2.1 fun q => hX b q hb
theorem mU {ρ : bI} {α X : List Addr} {H : List MO} {s s' : Shared} (x : St G env names ρ α H s) (i : cL G α H s') (k : Md X s s') (own : ∀ x ∈ X,∀ o,s.heap.get? x = some o -> kG o) (hX : ∀ y ∈ X,y ∉ bV env) : St G env names ρ α H s' :=
 j3 x i ⟨[],by simp,by exact fun _ h => absurd h not_mem_nil⟩ (lU own k.keep) fun b hb o e => k.keep b o (fun q => hX b q hb) e
inductive K8 (G : Gl) (env : Env) (names : List Str) (X Y α : List Addr) (s : Shared) (S : Nat -> List Addr -> Shared -> Prop) (c : List Addr -> Prop) (W : List MV -> bI -> List MO -> Prop) (xs : List MV) (m : Nat) (s' : Shared) : Prop
 | mk (ρ' : bI) (α' : List Addr) (H' : List MO) (k : Nat) (ys : List MV) (st : St G env names ρ' α' H' s') (t : a5 G Y α s α' s') (a : Ap G X α') (sk : S k α' s') (hc : c α') (hd : xs.drop k = ys) (l : k <= xs.length) (e : m = ys.length + 1) (w : W ys ρ' H') : K8 G env names X Y α s S c W xs m s'
theorem S.for {target iter : Expr} {x : List Stmt} {pos : Pos} {t : Tg} {tgt : Expr -> Prop} {wi : WI} {b : WS} (hk : env.scope.kind = .function) (hnd : names.Nodup) (ht : t.At env names target) (htg : tgt target) (hi : k6 G env names n iter tgt wi) (hb : dY G env names n x b) (hs : ∀ x,foldedSetIterable iter env x = pure x) : bN G env names n (.For target iter x [] pos) (kI t wi b) := by
 intro A ok E s α H ρ P st hw;refine wpAny_For (wpAny_mono (hi A ok E s α H ρ _ st hw) (fun x' aO r => ?_) kE) hs;refine wpAny_mono r (fun it s₂ r => ?_) kE;refine nC ?_;intro mO;refine bP fun no => ?_;obtain ⟨xs,chk,H₁,aQ,hw,hsz,⟨X,S,M,I,s0,ap,fr⟩,aZ,aU⟩ := r;refine no ?_;have hX : ∀ x ∈ X,x ∉ bV env := fun x hx q => by
   obtain ⟨o,e⟩ := i6 st q;rw [fr x hx] at e;exact nS e
 refine codeAny_forLoop_any (K8 G env names X (X ++ bV env) α s S (fun _ => True) (cR t b chk P) xs) (fun m s₃ I' => ?_) (xs.length + 1)
   ⟨ρ,aQ,H₁,0,xs,(st.step aU aZ),aU.nil,ap,s0,trivial,rfl,zero_le _,rfl,hw⟩
 obtain ⟨mN,dM,eQ,k,ys,cG,cV,kX,sk,_,hd,hkl,rfl,dL⟩ := I';cases ys with
 | nil =>
   obtain ⟨hc,hP⟩ := dL;have hkx : xs.length = k := by
     have := congrArg List.length hd;simp at this;lia
   refine wpAny_mono (I.done ok.zero (E := notedBy (model G.prog G.w) A env fun e s' => (match (Except.error e : Result) with | .ok f => mR G env names α s P f s' | .error e => cameBackBy (model G.prog G.w) A env E e s')) (hkx ▸ sk) kX cG.inv hc) (fun r bY q => ?_) kE;obtain ⟨rfl,bt⟩ := q;have own' : ∀ x ∈ X,∀ o,s₃.heap.get? x = some o -> kG o := fun x hx o e => by
     obtain ⟨o',e',w⟩ := I.own sk x hx;rw [e] at e';(injection e' with e';subst e');exact w
   have jL : St G env names mN dM eQ bY := mU cG (cG.inv.but kX own' bt.keep (by rw [bt.gens];exact cG.inv.bare) : cL G dM eQ bY) bt own' hX;exact wpAny_execs_nil ⟨.next,mN,eQ,dM,hP,rfl,jL,(a5.fin cV fr bt : a5 G (bV env) α s dM bY)⟩
 | cons y ys =>
   obtain ⟨hc,ρ',hb',dL⟩ := dL;have hy : xs[k]? = some y := by
     have := congrArg (·[0]?) hd;simpa using this
   have hkl' : k < xs.length := (List.getElem?_eq_some_iff.mp hy).1;have hd' : xs.drop (k + 1) = ys := by
     have := congrArg (List.drop 1) hd;simpa [drop_drop,add_comm] using this
   have exX : ∀ x ∈ X,∃ o,s₃.heap.get? x = some o := fun x hx => by
     obtain ⟨o,e,_⟩ := I.own sk x hx;exact ⟨o,e⟩
   refine wpAny_mono (I.next ok.zero hy sk kX cG.inv hc) (fun r bY q => ?_) kE;obtain ⟨v',rfl,rv,mk,fU,iH⟩ := q;have jL := lW cG iH fU hX;refine wpAny_mono (I.go ok.zero htg mk kX fU) (fun _ fT q => ?_) kE;refine nQ ?_;intro iC;refine bP fun no => ?_;obtain ⟨Ol,xI,nW⟩ := q;refine no ?_;refine tN hk hnd ok.1 ht hb' (lW jL nW xI hX) (rv.step nW) fun fG jM nU => ?_;refine nQ ?_;intro bU;have B1 : a5 G (X ++ bV env) dM s₃ dM fG := ((iH.trans nW).weak (by simp +contextual)).trans (nU.weak (by simp +contextual));refine Hu (hb A ok _ fG dM eQ ρ' _ jM dL) fun fl B2 Jy tF f oX hP q Bz Aq => ?_;have L7 : ∀ x ∈ X,∃ o,fG.heap.get? x = some o := fun x hx => by
     obtain ⟨o,e⟩ := exX x hx;exact B1.there x o e
   have tt : a5 G (X ++ bV env) α s tF oX := (cV.trans B1).trans (Aq.weak (by simp +contextual));have Ky := kX.step Aq L7;have Bv := I.keep (I.keep Ol kX nU fun x hx => hX x hx : S (k + 1) dM fG) kX Aq hX;cases fl with
   | next => cases (show f = .next from q);exact ⟨ys.length + 1,lt_succ_self _,B2,tF,Jy,k + 1,ys,Bz,tt,Ky,Bv,trivial,hd',hkl',rfl,hP⟩
   | cont => cases (show f = .cont from q);exact ⟨ys.length + 1,lt_succ_self _,B2,tF,Jy,k + 1,ys,Bz,tt,Ky,Bv,trivial,hd',hkl',rfl,hP⟩
   | brk => cases (show f = .brk from q);exact ⟨.next,B2,Jy,tF,hP,rfl,Bz,tt.drop fr⟩
   | ret v =>
     obtain ⟨v',rfl,rv⟩ := (show ∃ v',f = .ret v' /\ VR tF oX.heap v v' from q);exact ⟨.ret v,B2,Jy,tF,hP,⟨v',rfl,rv⟩,Bz,tt.drop fr⟩
end
section
variable {prog : Program} {w : World} {A : Around} {E : cB} {s : Shared}
theorem fP {elt target iter : Expr} {ifs : List Expr} {scope : Scope} {pos : Pos} {it acc : Value} {env : Env} {R : Result -> Shared -> Prop} (I : Nat -> Shared -> Prop) (turn : ∀ n s,I n s -> wpAny (model prog w) A (pyNext it) (fun r aO => match r with
     | none => R (.ok .next) aO
     | some v => wpAny (model prog w) A (letOwnedTupleGo target it v) (fun _ Ku => wpAny (model prog w) A (assign target env v) (fun _ s₂ =>
         wpAny (model prog w) A (forIn ifs true fun c r => if r = true then do let ok <- isTrue c env (eval c env);pure (ForInStep.yield ok) else pure (ForInStep.yield r)) (fun ok s₃ =>
           if ok = true then wpAny (model prog w) A (eval elt env) (fun x bY =>
             wpAny (model prog w) A (call (.builtin "list.append") [acc,x]) (fun _ fT => ∃ m,m < n /\ I m fT) (notedBy (model prog w) A env fun e s' => R (.error e) s') bY) (notedBy (model prog w) A env fun e s' => R (.error e) s') s₃
           else ∃ m,m < n /\ I m s₃) (notedBy (model prog w) A env fun e s' => R (.error e) s') s₂) (notedBy (model prog w) A env fun e s' => R (.error e) s') Ku) (notedBy (model prog w) A env fun e s' => R (.error e) s') aO) (notedBy (model prog w) A env fun e s' => R (.error e) s') s)
   (n : Nat) (h : I n s) : codeAny (model prog w) A (.compLoop (.ListComp elt [⟨target,iter,ifs,0⟩] scope pos) 0 it acc env) R s := by
 refine codeAny_loop rfl I (fun n s hI => ?_) n h;show wpAny _ A ((compTurn (.ListComp elt [⟨target,iter,ifs,0⟩] scope pos) 0 it acc env).onRaise (fun x => do noteFrame x env;theTreesLotGoes x)) _ _ s;refine wpAny_noted ?_;refine aJ (compTurn_list ..) ?_;refine wpAny_bind (wpAny_standAt (wpAny_bind (wpAny_mono (turn n s hI) (fun r aO g7 => ?_) fun _ _ h' => h')));cases r with
 | none => exact wpAny_pure g7
 | some v =>
   refine wpAny_bind (wpAny_mono g7 (fun _ Ku Oc => ?_) fun _ _ h' => h');refine wpAny_bind (wpAny_mono Oc (fun _ s₂ sG => wpAny_bind (wpAny_mono sG (fun ok s₃ vA => ?_) fun _ _ h' => h')) fun _ _ h' => h');cases ok with
   | false => exact wpAny_pure ⟨rfl,vA⟩
   | true =>
     exact wpAny_bind (wpAny_bind (wpAny_mono vA (fun x bY iG => wpAny_bind (wpAny_mono iG (fun _ fT sJ => wpAny_pure (wpAny_pure ⟨rfl,sJ⟩)) fun _ _ h' => h')) fun _ _ h' => h'))
end
section
variable {G : Gl} {env : Env} {names : List Str} {n : Nat}
noncomputable def pN (G : Gl) (env : Env) (names : List Str) (n : Nat) (es : List Expr) (w : WT) : Prop :=
 ∀ (A : Around),Ok A n -> ∀ (E : cB) (s : Shared) (α : List Addr) (H : List MO) (ρ : bI) (P : Bool -> List MO -> Prop),St G env names ρ α H s -> w ρ H P ->
   wpAny (model G.prog G.w) A (forIn es true fun c r => if r = true then do let ok <- isTrue c env (eval c env);pure (ForInStep.yield ok) else pure (ForInStep.yield r)) (vF G α s P) E s
noncomputable def xT : WT := fun _ H P => P true H
theorem F.no : pN G env names n [] xT := by
 intro A ok E s α H ρ P st hw;exact wpAny_tests_nil ⟨H,α,hw,st.inv,.refl⟩
theorem F.one {c : Expr} {w : WT} (h : cO G env names n c w) : pN G env names n [c] w := by
 intro A ok E s α H ρ P st hw;exact wpAny_tests_one (h A ok E s α H ρ P st hw)
inductive xU (a : Nat) (v : MV) (H : List MO) (P : List MO -> Prop) : Prop
 | mk (xs : List MV) (h : H[a]? = some (.list xs)) (l : xs.length < 1000000) (p : P (H.set a (.list (xs ++ [v])))) : xU a v H P
theorem lX {A : Around} {E : cB} {s : Shared} {α : List Addr} {H : List MO} {a : Nat} {v : MV} {a' v' : Value} {P : List MO -> Prop} {Q : cB} (i : cL G α H s) (ra : VR α s.heap (.ref a) a') (rv : VR α s.heap v v') (h : xU a v H P) (hq : ∀ H' s',P H' -> cL G α H' s' -> a5 G [] α s α s' -> Q .none s') : wpAny (model G.prog G.w) A (call (.builtin "list.append") [a',v']) Q E s := by
 obtain ⟨xs,e,hl,hP⟩ := h;obtain ⟨b,vs,m,hb,g1,r1⟩ := i.list ra e;have l := r1.length;simp only [length_toList] at l;refine wpAny_list_append_plain (hsz := by rw [<- l];exact le_trans (le_of_lt hl) (by decide)) ⟨m,g1⟩ fun h' gg' hs' => ?_;obtain ⟨m',g'⟩ := gg';have hk : ∀ c,c ≠ b -> h'.get? c = s.heap.get? c := fun c hc => hs'.2 c hc;have k' : tI s.heap h' := fun c o e q => by
   have : c ≠ b := fun z => by
     rw [z,g1] at e;(injection e with e;subst e);exact dN (show Value.type "list" ≠ Value.type "tuple" by decide) (show Value.type "list" ≠ Value.type "builtin_function_or_method" by decide) q
   rw [hk c this];exact e
 have hv := c8.mono [] k' (c8.append r1 (c8.cons rv .nil));rw [append_nil] at hv;obtain ⟨i',t'⟩ := i.upd (s' := { s with heap := h' }) (o := .list (xs ++ [v])) hb hk ⟨by exact aJ lA (le_trans (succ_le_of_lt ‹_›) (by decide)),vs.push v',m',g',by simpa using hv⟩ rfl rfl rfl;exact hq _ _ hP i' t'
inductive Tg.Loc (kd : Str -> Option NameKind) (names : List Str) : Tg -> Expr -> Prop
 | nm {i : Nat} {x : Str} {p : Pos} (h : names[i]? = some x) (l : kd x = some .local) : Tg.Loc kd names (.nm i) (.Name x p)
 | tp {i j : Nat} {x y : Str} {p q : Pos} {k : _} {r : Pos} (h : names[i]? = some x) (l : kd x = some .local) (h' : names[j]? = some y) (l' : kd y = some .local) : Tg.Loc kd names (.tp [i,j]) (.Tuple [.Name x p,.Name y q] k r)
theorem iJ {A : Around} {E : cB} {s : Shared} {α : List Addr} {H : List MO} {ρ : bI} {i : Nat} {x : Str} {v : MV} {v' : Value} {Q : Unit -> Shared -> Prop} (hk : env.scope.kind = .function) (hnd : names.Nodup) (hx : names[i]? = some x) (hl : env.kindOf x = some .local) (st : St G env names ρ α H s) (r : VR α s.heap v v') (hq : ∀ s',St G env names (upd ρ i v) α H s' -> a5 G [env.locals] α s α s' -> Q () s') : wpAny (model G.prog G.w) A (storeName env x v') Q E s :=
 lQ hk hnd hx (.inl hl) (fun _ => by exact mem_cons_self) (fun q _ _ => by replace q := hl ▸ q;cases q) st r hq
theorem P0 {α : Type} {xs : List α} (h : xs.length = 2) : ∃ a b,xs = [a,b] := by
 cases xs with
 | nil => exact absurd (show 0 = 2 from h) (by decide)
 | cons a xs => cases xs with
   | nil => exact absurd (show 1 = 2 from h) (by decide)
   | cons b xs => cases xs with
     | nil => exact ⟨a,b,rfl⟩
     | cons c xs => exact absurd (Nat.succ.inj (Nat.succ.inj h)) (succ_ne_zero _)
theorem xV (hk : env.scope.kind = .function) (hnd : names.Nodup) {A : Around} (hh : A.handled = none) {E : cB} {s : Shared} {α : List Addr} {H : List MO} {ρ ρ' : bI} {tg : Tg} {e : Expr} {v : MV} {v' : Value} {Q : Unit -> Shared -> Prop} (ht : tg.Loc env.kindOf names e) (hb : tg.bind v ρ = some ρ') (st : St G env names ρ α H s) (r : VR α s.heap v v') (hq : ∀ s',St G env names ρ' α H s' -> a5 G [env.locals] α s α s' -> Q () s') : wpAny (model G.prog G.w) A (assign e env v') Q E s := by
 cases ht with
 | nm h1 h2 => (injection hb with hb;subst hb);exact wpAny_assign_Name (iJ hk hnd h1 h2 st r hq)
 | tp h1 h2 h3 h4 =>
   rename_i i j x y px py k pos;refine bP fun no => ?_;obtain ⟨xs,hl,rfl,rfl⟩ := A1 hb;obtain ⟨a,vs,m,g1,r1⟩ := r.tup_inv;refine no ?_;obtain ⟨va,vb,rfl⟩ := P0 hl;have l := r1.length;dsimp only [length_toList] at l
   skip;obtain ⟨va',r',e1,ra,r1⟩ := r1
   skip;obtain ⟨vb',r'',e2,rb,r1⟩ := r1
   skip
   refine bP fun no => ?_;subst r1 e2;refine no ?_;refine assign_Tuple_tuple hh (iI g1) (by skip;refine cE l ?_;rfl) (by rfl) fun h' he => ?_;have kp := xQ he;have t0 : a5 G [] α s α { s with heap := h' } := kp.step
   skip
   refine aJ e1 ?_;refine wpAny_assignInOrder_more (wpAny_assign_Name (iJ hk hnd h1 h2 (st.step t0 (st.inv.kp kp)) (ra.kp kp) fun s₂ cN bF => ?_));refine wpAny_assignInOrder_more (wpAny_assign_Name (iJ hk hnd h3 h4 cN ((rb.kp kp).step bF) fun s₃ cG cV => ?_));exact wpAny_assignInOrder_none (hq _ cG ((t0.nil.trans bF).trans cV))
noncomputable def pO (env : Env) (cs : List (Str × NameKind)) (names : List Str) (cl : List (Str × Addr)) : List Str -> List (Option Nat) -> Prop
 | x :: xs,some j :: r => (names[j]? = some x /\ env.kindOf x ≠ some .local /\ (cs.lookup x = some .cell \/ cs.lookup x = some .free) /\ ∃ c,cl.lookup x = some c /\ env.cells.lookup x = some c) /\ pO env cs names cl xs r
 | _ :: xs,none :: r => pO env cs names cl xs r
 | _,[] => True
 | [],_ => False
noncomputable def mV (cap : List (Option Nat)) (ρ : bI) : bI := fun i => (cap[i]?).join.bind ρ
theorem pO.at {cs : List (Str × NameKind)} {cl : List (Str × Addr)} : ∀ {ns : List Str} {cap : List (Option Nat)},pO env cs names cl ns cap -> ∀ {i j : Nat} {x : Str},ns[i]? = some x -> (cap[i]?).join = some j -> names[j]? = some x /\ env.kindOf x ≠ some .local /\ (cs.lookup x = some .cell \/ cs.lookup x = some .free) /\ ∃ c,cl.lookup x = some c /\ env.cells.lookup x = some c
 | [],cap,h,i,j,x,hx,_ => by exact nS hx
 | y :: ns,[],h,i,j,x,_,hj => by exact nS hj
 | y :: ns,some j' :: r,h,0,j,x,hx,hj => by
   simp at hx hj;subst hx hj;exact h.1
 | y :: ns,none :: r,h,0,j,x,hx,hj => by exact nS hj
 | y :: ns,some j' :: r,h,i + 1,j,x,hx,hj => h.2.at (by simpa using hx) (by simpa using hj)
 | y :: ns,none :: r,h,i + 1,j,x,hx,hj => by
   have h' : pO env cs names cl ns r := h;exact h'.at (by simpa using hx) (by simpa using hj)
theorem lY {cl cs : List (Str × Addr)} (h1 : (cl.map (·.1)).Nodup) (h2 : ∀ p ∈ cl,p ∈ cs) (h3 : (cs.map (·.2)).Nodup) : (cl.map (·.2)).Nodup := by
 induction cl with
 | nil => exact nodup_nil
 | cons p cl ih =>
   obtain ⟨a,b⟩ := nodup_cons.mp h1;refine nodup_cons.mpr ⟨fun q => ?_,ih b fun q hq => h2 q (mem_cons_of_mem _ hq)⟩;obtain ⟨q,hq,e⟩ := mem_map.mp q;have : ∀ {l : List (Str × Addr)},(l.map (·.2)).Nodup -> p ∈ l -> q ∈ l -> p = q := by
     intro l;induction l with
     | nil => intro _ h _;cases h
     | cons z l ih =>
       intro hn h h';obtain ⟨n1,n2⟩ := nodup_cons.mp hn;rcases mem_cons.mp h with e1 | k1 <;> rcases mem_cons.mp h' with e2 | k2
       · exact e1.trans e2.symm
       · exact absurd (mem_map.mpr ⟨q,k2,by refine cE e1 ?_;exact e⟩ : z.2 ∈ l.map (·.2)) n1
       · exact absurd (mem_map.mpr ⟨p,k1,by refine cE e2 ?_;exact e.symm⟩ : z.2 ∈ l.map (·.2)) n1
       · exact ih n2 k1 k2
   exact a (mem_map.mpr ⟨q,hq,by exact aJ (this h3 (h2 p mem_cons_self) (h2 q (mem_cons_of_mem _ hq))) rfl⟩)
end
section
variable {G : Gl} {env : Env} {names : List Str} {n : Nat}
noncomputable def fE (t : Tg) (f : WT) (el : WE) (chk : List MO -> Prop) (a : Nat) (P : List MO -> Prop) : List MV -> bI -> List MO -> Prop
 | [],_,H => chk H /\ P H
 | x :: xs,ρ,H => chk H /\ Sm (t.bind x ρ) fun ρ' => f ρ' H fun c H₁ => if c then el ρ' H₁ fun y bH => xU a y bH fun eQ => fE t f el chk a P xs ρ' eQ else fE t f el chk a P xs ρ' H₁
noncomputable def e8 (t : Tg) (wi : WI) (cap : List (Option Nat)) (f : WT) (el : WE) : WE := fun ρ H P => wi ρ H fun xs chk H' => fE t f el chk H'.length (fun H'' => P (.ref H'.length) H'') xs (mV cap ρ) (H' ++ [.list []])
structure dP (env : Env) (names : List Str) (scope : Scope) (cl : List (Str × Addr)) (ns : List Str) (cap : List (Option Nat)) (t : Tg) (target : Expr) : Prop where
 clos : closureFor scope env = pure cl
 sub : ∀ p ∈ cl,p ∈ env.cells
 cnd : (cl.map (·.1)).Nodup
 cell : ∀ x ∈ scope.names,x.2 ≠ .cell
 kind : scope.kind = .function
 loc : ∀ x ∈ scope.names,x.2 = .local -> scope.names.lookup x.1 = some .local
 nd : ns.Nodup
 cap : pO env (relabel scope env).names names cl ns cap
 tg : ∀ C,t.Loc (compEnvC scope cl C env).kindOf ns target
theorem Ii {scope : Scope} {cl : List (Str × Addr)} {ns : List Str} {cap : List (Option Nat)} {t : Tg} {target : Expr} {ρ : bI} {α : List Addr} {H : List MO} {s s' : Shared} {C : Addr} (K : dP env names scope cl ns cap t target) (st : St G env names ρ α H s) (kp : Kp s s') (hns : s'.heap.Ns C fun _ => none) (hC : s.heap.get? C = none) : St G (compEnvC scope cl C env) ns (mV cap ρ) α H s' := by
 have hcl : ∀ p ∈ cl,p.2 ∈ bV env := fun p hp => mem_cons_of_mem _ (mem_map_of_mem (f := (·.2)) (K.sub p hp));refine ⟨(st.inv.kp kp),fun i x v hx hv => ?_,⟨_,hns⟩,fun x c hc => ?_,fun b hb => ?_,?_⟩
 · unfold mV at hv;cases hj : (cap[i]?).join with
   | none => rw [hj] at hv;exact nS hv
   | some j =>
     rw [hj] at hv;refine bP fun no => ?_;obtain ⟨h1,h2,h3,c,h4,h5⟩ := K.cap.at hx hj;obtain ⟨v',l,r⟩ := st.var j x v h1 hv;refine no ?_;refine ⟨v',?_,r.kp kp⟩;rcases l with ⟨k,_⟩ | ⟨k,d,hd,hcell⟩
     · exact absurd k h2
     · rw [h5] at hd;(injection hd with hd;subst hd);exact .inr ⟨h3,c,h4,hcell.keeps kp.keep⟩
 · obtain ⟨v,hv⟩ := st.cell x c (K.sub _ hc);exact ⟨v,hv.keeps kp.keep⟩
 · rcases mem_cons.mp hb with rfl | hb
   · exact (cQ st.inv hC)
   · obtain ⟨p,hp,rfl⟩ := mem_map.mp hb;exact st.apart _ (hcl p hp)
 · refine nodup_cons.mpr ⟨fun q => ?_,lY K.cnd K.sub (nodup_cons.mp st.nodup).2⟩;obtain ⟨p,hp,e⟩ := mem_map.mp q;obtain ⟨o,ho⟩ := i6 st (hcl p hp);have e' : p.2 = C := e;rw [e',hC] at ho;exact nS ho
theorem xW {h : Heap} {C : Addr} {m : Str -> Option Value} (x : h.Ns C m) : ∀ o,h.get? C = some o -> kG o := fun o e => by
 obtain ⟨o',es,ep,e1,e2,_⟩ := x
 replace e1 := e ▸ e1;(injection e1 with e1;subst e1)
 refine ⟨fun q => ?_,fun vs z => by replace z := e2 ▸ z;cases z⟩;rcases q with ⟨_,_,q⟩ | ⟨_,q⟩ <;> (replace e2 := q ▸ e2;cases e2)
theorem pP {elt iter target : Expr} {ifs : List Expr} {scope : Scope} {pos pos' : Pos} {cl : List (Str × Addr)} {ns : List Str} {cap : List (Option Nat)} {t : Tg} {tgt : Expr -> Prop} {wi : WI} {f : WT} {el : WE} (K : dP env names scope cl ns cap t target) (htg : tgt target) (hi : k6 G env names n iter tgt wi) (hf : ∀ C,pN G (compEnvC scope cl C env) ns n ifs f) (he : ∀ C,aP G (compEnvC scope cl C env) ns n elt el) (hs : ∀ x,foldedSetIterable iter env x = pure x) {A : Around} (ok : Ok A n) {E : cB} {s : Shared} {α : List Addr} {H : List MO} {ρ : bI} {P : cM} {use : Option (Value -> Sem Unit)} {Q : cB} (st : St G env names ρ α H s) (hw : e8 t wi cap f el ρ H P) (hq : ∀ C a i α' H' s',P (.ref i) H' -> α'[i]? = some a -> cL G α' H' s' -> a5 G [C] α s α' s' -> s.heap.get? C = none -> (∃ m,s'.heap.Ns C m) -> C ∉ α' -> C ∉ G.tb -> compPost (model G.prog G.w) A E use Q (.ref a) C (.ok .next) s') : wpAny (model G.prog G.w) A (comprehension (.ListComp elt [⟨target,iter,ifs,0⟩] scope pos) scope env pos' (newList []) false (eval iter env) use) Q E s := by
 refine wpAny_comprehension_free rfl hs K.clos K.kind K.loc (wpAny_mono (hi A ok E s α H ρ _ st hw) (fun x' aO r => ?_) kE);refine wpAny_mono r (fun it s₂ r => ?_) kE;refine nQ ?_;intro mO;refine bP fun no => ?_;obtain ⟨xs,chk,H₁,aQ,hw,hsz,⟨X,S,M,I,s0,ap,fr⟩,aZ,aU⟩ := r;refine no ?_;have hX : ∀ x ∈ X,x ∉ bV env := fun x hx q => by
   obtain ⟨o,e⟩ := i6 st q
   replace e := (fr x hx) ▸ e;exact nS e
 refine wpAny_newList ?_;generalize hD : s₂.heap.objs.size = D;have gD : (s₂.heap.push { cls := .type "list",data := .seq ([] : List Value).toArray }).get? D = some { cls := .type "list",data := .seq ([] : List Value).toArray } := by refine cE hD ?_;exact get?_push_size _ rfl
 refine bP fun no => ?_;obtain ⟨eN,cV⟩ := aZ.add (s' := { s₂ with heap := s₂.heap.push { cls := .type "list",data := .seq ([] : List Value).toArray } }) (o := .list []) (Kp.push _) (a9 (le_of_eq hD) : s₂.heap.get? D = none) ⟨by simp,_,_,gD,c8.nil⟩;refine no ?_;have kX : Ap G X (aQ ++ [D]) := ap.step cV fun x hx => by obtain ⟨o,e,_⟩ := I.own s0 x hx;exact ⟨o,e⟩
 have s3 := I.keep (Y := []) s0 ap cV (by simp);refine wpAny_newFunctionEnv K.cell (by intro y hy;simp at hy) (fun iG hns hsb => ?_) K.kind;generalize hs3 : ({ s₂ with heap := s₂.heap.push { cls := .type "list",data := .seq ([] : List Value).toArray } } : Shared) = s₃ at *;have hs3h : s₃.heap = s₂.heap.push { cls := .type "list",data := .seq ([] : List Value).toArray } := by exact cE hs3 rfl
 generalize hC : s₃.heap.objs.size = C at *;have hCf : s₃.heap.get? C = none := a9 (le_of_eq hC);have kp : Kp s₃ { s₃ with heap := iG,toks := s₃.toks + ([] : List (Str × Value)).length } := ⟨fun b o e => hsb.extBut b o (fun z => by replace e := hCf ▸ z ▸ e;exact nS e) (get?_push_of_some _ e),rfl,rfl,rfl⟩;have jL := Ii K ((st.step aU aZ).step cV eN) kp (by simpa using hns : iG.Ns C fun _ => none) hCf;have iH : a5 G [] (aQ ++ [D]) s₃ (aQ ++ [D]) { s₃ with heap := iG,toks := s₃.toks + ([] : List (Str × Value)).length } := kp.step;have s4 := I.keep (Y := []) s3 kX iH (by simp);have hCs : s.heap.get? C = none := by
   cases e : s.heap.get? C with
   | none => rfl
   | some o =>
     obtain ⟨o',e'⟩ := (aU.trans cV).there C o e
     replace e' := hCf ▸ e';exact nS e'
 have hDα : (aQ ++ [D])[H₁.length]? = some D := by refine cE aZ.len ?_;exact aM
 have hXC : ∀ x ∈ X,x ∉ [C] := fun x hx q => by
   obtain ⟨o,e,_⟩ := I.own s3 x hx
   replace e := hCf ▸ (mem_singleton.mp q) ▸ e;exact nS e
 have hX' : ∀ x ∈ X,x ∉ bV (compEnvC scope cl C env) := fun x hx q => by
   rcases mem_cons.mp q with q | q
   · exact hXC x hx (by refine aJ q ?_;exact mem_singleton_self _)
   · obtain ⟨p,hp,e⟩ := mem_map.mp q;exact hX x hx (mem_cons_of_mem _ (mem_map.mpr ⟨p,K.sub p hp,e⟩))
 generalize hcenv : compEnvC scope cl C env = cenv at *;have hcl : cenv.locals = C := by refine cE hcenv ?_;rfl
 have hck : cenv.scope.kind = .function := by refine cE hcenv ?_;exact K.kind
 show codeAny (model G.prog G.w) A (.compStart (.ListComp elt [⟨target,iter,ifs,0⟩] scope pos) 0 it (.ref D) (compEnvC scope cl C env)) (compPost (model G.prog G.w) A E use Q (.ref D) C) _;refine aJ hcenv ?_;have loop : codeAny (model G.prog G.w) A (.compLoop (.ListComp elt [⟨target,iter,ifs,0⟩] scope pos) 0 it (.ref D) cenv) (compPost (model G.prog G.w) A E use Q (.ref D) C) { s₃ with heap := iG,toks := s₃.toks + ([] : List (Str × Value)).length } := by
   refine nC ?_;intro iC;refine fP (K8 G cenv ns X (X ++ [C]) α s S (·[H₁.length]? = some D) (fE t f el chk H₁.length (P (.ref H₁.length))) xs) (fun m fT I' => ?_) (xs.length + 1)
     ⟨_,aQ ++ [D],H₁ ++ [.list []],0,xs,jL,((aU.trans cV).trans iH).nil,kX,s4,hDα,by simp,zero_le _,rfl,hw⟩
   obtain ⟨Rr,kU,J1,k,ys,oI,nW,rG,sk,vB,hd,hkl,rfl,Bu⟩ := I';cases ys with
   | nil =>
     obtain ⟨hc,hP⟩ := Bu;have hkx : xs.length = k := by
       have := congrArg List.length hd;simp at this;lia
     refine wpAny_mono (I.done ok.zero (hkx ▸ sk) rG oI.inv hc) (fun r fG q => ?_) kE;obtain ⟨rfl,bt⟩ := q;have own' : ∀ x ∈ X,∀ o,fT.heap.get? x = some o -> kG o := fun x hx o e => by
       obtain ⟨o',e',w⟩ := I.own sk x hx
       replace e' := e ▸ e';(injection e' with e';subst e');exact w
     have Al : cL G kU J1 fG := oI.inv.but rG own' bt.keep (by refine aJ bt.gens ?_;exact oI.inv.bare);have jM := mU oI Al bt own' hX';have apC := jM.apart C (by refine cE hcl ?_;exact mem_cons_self);exact hq C D H₁.length kU J1 fG hP vB Al (a5.fin nW fr bt : a5 G [C] α s kU fG) hCs (by refine cE hcl ?_;exact jM.ns) apC.1 apC.2.1
   | cons y ys =>
     obtain ⟨hc,ρ',hb',Bu⟩ := Bu;have hy : xs[k]? = some y := by
       have := congrArg (·[0]?) hd;simpa using this
     have hkl' : k < xs.length := (List.getElem?_eq_some_iff.mp hy).1;have hd' : xs.drop (k + 1) = ys := by
       have := congrArg (List.drop 1) hd;simpa [drop_drop,add_comm] using this
     have exX : ∀ x ∈ X,∃ o,fT.heap.get? x = some o := fun x hx => by
       obtain ⟨o,e,_⟩ := I.own sk x hx;exact ⟨o,e⟩
     refine wpAny_mono (I.next ok.zero hy sk rG oI.inv hc) (fun r fG q => ?_) kE;obtain ⟨v',rfl,rv,mk,Al,nU⟩ := q;have jM := lW oI nU Al hX';refine wpAny_mono (I.go ok.zero htg mk rG Al) (fun _ oX q => ?_) kE;refine nQ ?_;intro bU;refine bP fun no => ?_;obtain ⟨Bv,Qt,Aq⟩ := q;refine no ?_;refine xV hck K.nd ok.1 (hcenv ▸ K.tg C) hb' (lW jM Aq Qt hX') (rv.step Aq) fun Hi Kz Ej => ?_
     replace Ej := hcl ▸ Ej
     have B4 : a5 G (X ++ [C]) kU fT kU Hi := ((nU.trans Aq).weak (by simp +contextual)).trans (Ej.weak (by simp +contextual));have Hs : ∀ x ∈ X,∃ o,Hi.heap.get? x = some o := fun x hx => by
       obtain ⟨o,e⟩ := exX x hx;exact B4.there x o e
     have up : ∀ {tE : List Addr},(∃ β,tE = kU ++ β /\ ∀ a ∈ β,Hi.heap.get? a = none) -> tE[H₁.length]? = some D := fun ⟨β,e,_⟩ => by
       refine aJ e (aJ (getElem?_append_left (List.getElem?_eq_some_iff.mp vB).1) ?_);exact vB
     refine Ia (hcenv ▸ hf C A ok _ Hi kU J1 ρ' _ (hcenv.symm ▸ Kz) Bu) fun Ob tE c L5 hP Qo An => ?_;have Hl := Kz.step An Qo;have Hp := rG.step An Hs;have Kw := I.keep (I.keep Bv rG Ej hXC : S (k + 1) kU Hi) rG An (by simp);have tt : a5 G (X ++ [C]) α s tE L5 := (nW.trans B4).trans An.nil;cases c with
     | false => exact ⟨ys.length + 1,by simp,ρ',tE,Ob,k + 1,ys,Hl,tt,Hp,Kw,up An.ext,hd',hkl',rfl,hP⟩
     | true =>
       refine fM (hcenv ▸ he C A ok _ L5 tE Ob ρ' _ (hcenv.symm ▸ Hl) hP) fun v O0 xH v' O2 hP J6 Jw Bw => ?_;have L3 : ∀ x ∈ X,∃ o,L5.heap.get? x = some o := fun x hx => by
         obtain ⟨o,e⟩ := Hs x hx;exact An.there x o e
       have rE : xH[H₁.length]? = some D := up (An.trans Bw).ext;refine lX Jw (by skip;exact ⟨D,rE,rfl⟩) J6 hP fun Jz O4 hP Js Jx => ?_;have jG := Bw.trans Jx;exact ⟨ys.length + 1,by simp,ρ',xH,Jz,k + 1,ys,Hl.step jG Js,tt.trans jG.nil,Hp.step jG L3,I.keep Kw Hp jG (by simp),rE,hd',hkl',rfl,hP⟩
 exact codeAny_compStart_list loop (I.self ok.zero s4 loop)
theorem E.comp {elt iter target : Expr} {ifs : List Expr} {scope : Scope} {pos : Pos} {cl : List (Str × Addr)} {ns : List Str} {cap : List (Option Nat)} {t : Tg} {tgt : Expr -> Prop} {wi : WI} {f : WT} {el : WE} (K : dP env names scope cl ns cap t target) (htg : tgt target) (hi : k6 G env names n iter tgt wi) (hf : ∀ C,pN G (compEnvC scope cl C env) ns n ifs f) (he : ∀ C,aP G (compEnvC scope cl C env) ns n elt el) (hs : ∀ x,foldedSetIterable iter env x = pure x) : aP G env names n (.ListComp elt [⟨target,iter,ifs,0⟩] scope pos) (e8 t wi cap f el) := by
 intro A ok E s α H ρ P st hw;refine aJ (eval_ListComp ..) ?_
 skip
 refine pP K htg hi hf he hs ok st hw fun C a i α' H' s' hP ha i' t' hC hns hCα hCt => ?_;obtain ⟨m,hn⟩ := hns;refine ⟨m,hn,fun h' hs' => ?_⟩;have own' : ∀ x ∈ [C],∀ o,s'.heap.get? x = some o -> kG o := fun x hx => by refine aJ (mem_singleton.mp hx) ?_;exact xW hn
 have bt : Md [C] s' { s' with heap := h' } := ⟨fun b o hb e => Heap.SameBut.keep' hs' hb e,rfl,rfl,rfl⟩;refine ⟨.ref i,H',α',hP,by skip;exact ⟨a,ha,rfl⟩,i'.but (fun x hx => by refine aJ (mem_singleton.mp hx) ?_;exact ⟨hCα,hCt,(cQ st.inv hC).2.2⟩) own' bt.keep i'.bare,a5.fin (X := [C]) (Y := []) (by exact t') (fun x hx => by refine aJ (mem_singleton.mp hx) ?_;exact hC) bt⟩
theorem S.setComp {elt iter target : Expr} {ifs : List Expr} {scope : Scope} {pos : Pos} {cl : List (Str × Addr)} {ns : List Str} {cap : List (Option Nat)} {t : Tg} {tgt : Expr -> Prop} {wi : WI} {f : WT} {el : WE} {x : Str} {px spos : Pos} {i : Nat} (K : dP env names scope cl ns cap t target) (htg : tgt target) (hi : k6 G env names n iter tgt wi) (hf : ∀ C,pN G (compEnvC scope cl C env) ns n ifs f) (he : ∀ C,aP G (compEnvC scope cl C env) ns n elt el) (hs : ∀ x,foldedSetIterable iter env x = pure x) (hk : env.scope.kind = .function) (hnd : names.Nodup) (hx : names[i]? = some x) (hl : env.kindOf x = some .local) (hsw : swapsWith (.ListComp elt [⟨target,iter,ifs,0⟩] scope pos) (some (.Name x px)) spos.line env = pure true) : bN G env names n (.Assign [.Name x px] (.ListComp elt [⟨target,iter,ifs,0⟩] scope pos) spos) (aW i (e8 t wi cap f el)) := by
 intro A ok E s α H ρ P st hw;refine aJ (exec_Assign_Name_used _ _ _ _ hsw) ?_;refine wpAny_bind (wpAny_standAt (wpAny_bind ?_));refine nQ ?_;intro iC
 skip
 refine wpAny_bind (wpAny_mono (pP (Q := fun _ s' => mR G env names α s P .next s') K htg hi hf he hs ok st hw fun C a aZ α' H' s' hP ha i' t' hC hns hCα hCt => ?_) (fun _ s' hq => wpAny_pure (wpAny_pure hq)) fun _ _ e => e);refine nQ ?_;intro bU;obtain ⟨m,hn⟩ := hns;have hCo : ∀ b ∈ bV env,b ∉ [C] := fun b hb q => by
   obtain ⟨o,e⟩ := i6 st hb
   replace e := hC ▸ (mem_singleton.mp q) ▸ e;exact nS e
 refine wpAny_assign_Name (iJ hk hnd hx hl (j3 st i' t'.ext t'.imm fun b hb o e => t'.keep b o e (st.apart b hb).1 (st.apart b hb).2.1 (hCo b hb) : St G env names ρ α' H' s') (v := .ref aZ) (by skip;exact ⟨a,ha,rfl⟩) fun s₂ cN bF => ?_);refine bP fun no => ?_;obtain ⟨oC,es,ep,e1,e2⟩ := id hn;refine no ?_;have jN : s₂.heap.Ns C m := by
   refine ⟨oC,es,ep,?_,e2⟩;exact bF.keep C oC e1 hCα hCt (by simpa using (fun q => hCo env.locals mem_cons_self (by refine aJ q ?_;exact mem_singleton_self _) : C ≠ env.locals))
 refine ⟨m,jN,fun h' hs' => ?_⟩;have own' : ∀ x ∈ [C],∀ o,s₂.heap.get? x = some o -> kG o := fun x hx => by refine aJ (mem_singleton.mp hx) ?_;exact xW jN
 have bt : Md [C] s₂ { s₂ with heap := h' } := ⟨fun b o hb e => Heap.SameBut.keep' hs' hb e,rfl,rfl,rfl⟩;refine ⟨.next,_,H',α',hP,rfl,mU cN (cN.inv.but (fun x hx => by refine aJ (mem_singleton.mp hx) ?_;exact ⟨hCα,hCt,(cQ st.inv hC).2.2⟩) own' bt.keep cN.inv.bare : cL G α' H' { s₂ with heap := h' }) bt own' fun y hy q => hCo y q hy,?_⟩;exact a5.fin (X := [C]) ((t'.weak (by simp)).trans (bF.weak (by simp +contextual))) (fun x hx => by refine aJ (mem_singleton.mp hx) ?_;exact hC) bt
end
section
variable {G : Gl} {env : Env} {names : List Str} {n : Nat}
inductive Ey : String -> MV -> List MO -> Prop
 | list {j : Nat} {xs : List MV} {H : List MO} (h : H[j]? = some (.list xs)) : Ey "list" (.ref j) H
 | str {x : Str} {H : List MO} : Ey "str" (.str x) H
theorem Ey.type {T : String} {v : MV} {v' : Value} {α : List Addr} {H : List MO} {s : Shared} (i : cL G α H s) (r : VR α s.heap v v') (x : Ey T v H) : s.TypeIs v' T /\ ∀ a,v' = .ref a -> ∃ ob,s.heap.get? a = some ob /\ ob.dict = none := by
 cases x with
 | list h =>
   obtain ⟨a,vs,m,ha,g1,r1⟩ := i.list r h;exact ⟨⟨_,g1,rfl⟩,fun b e => by (injection e with e;subst e);exact ⟨_,g1,rfl⟩⟩
 | str =>
   obtain ⟨t⟩ := r.str_inv;exact ⟨typeIs_str _ _ _,fun b e => by cases e⟩
structure jR (T : String) (name : Str) (id : String) : Prop where
 plain : PlainAttrs T
 slot : Slot T name id
 ty : typeOf (.builtin id) = pure (.type "method_descriptor")
noncomputable def M3 (T : String) (C : gF) (wl : WL) (ρ : bI) (P : cM) : cM := fun v H₁ => Ey T v H₁ /\ wl ρ H₁ (Q2 v (J9 C P))
noncomputable def bG (T : String) (C : gF) (w : WE) (wl : WL) : WE := fun ρ H P => w ρ H (M3 T C wl ρ P)
theorem E.meth {T id : String} {o e : Expr} {es : List Expr} {name : Str} {apos pos : Pos} {w : WE} {wl : WL} {C : gF} (M : jR T name id) (hf : dT G n (.builtin id) C) (ho : aP G env names n o w) (hl : d9 G env names n (e :: es) wl) (hs : starEach (e :: es) env = (false,eval e env) :: starEach es env) (hp : (backTo pos (starEach es env)).any (·.1) = false) (hbase : attributeBase o name env (eval o env) = eval o env) (hfew : ((backTo pos (starEach (e :: es) env)).all (fun x => !x.1) && (backToKw pos (keywordEach [] env)).all (fun x => x.1.isSome) && decide ((e :: es).length + ([] : List Keyword).length + (if ([] : List Keyword).isEmpty then 0 else 1) < 30)) = true) (hline : (apos.endLine == pos.line) = true) : aP G env names n (.Call (.Attribute o name apos) (e :: es) [] pos) (bG T C w wl) := by
 intro A ok E s α H ρ P st hw;refine wpAny_Call_method_lateS hbase hfew hline (fM (ho A ok E s α H ρ _ st hw) fun v H₁ aQ ov aO q3 bO aZ aU => ?_);refine bP fun no => ?_;obtain ⟨hr,hw⟩ := q3;obtain ⟨hT,hd⟩ := hr.type aZ bO;refine no ?_;refine ⟨T,id,M.plain,M.slot,M.ty,hT,hd,?_⟩;refine fD (first := [ov]) bC.builtin hl ok (st.step aU aZ) hw hs hp fun xs vs s₂ bH bL hP dW bQ bF => ?_;exact wpAny_mono (hf A ok E s₂ bL bH P (v :: xs) (ov :: vs) bQ (.cons (bO.step bF) dW) hP) (fun v s₃ q => (q.trans bF).trans aU) kE
theorem E.meth0 {T id : String} {o : Expr} {name : Str} {apos pos : Pos} {w : WE} {C : gF} (M : jR T name id) (hf : dT G n (.builtin id) C) (ho : aP G env names n o w) (hbase : attributeBase o name env (eval o env) = eval o env) (hline : (apos.endLine == pos.line) = true) : aP G env names n (.Call (.Attribute o name apos) [] [] pos) (bG T C w aL) := by
 intro A ok E s α H ρ P st hw;refine wpAny_Call_method_lateS hbase rfl hline (fM (ho A ok E s α H ρ _ st hw) fun v H₁ aQ ov aO q3 bO aZ aU => ?_);refine bP fun no => ?_;obtain ⟨hr,hw⟩ := q3;obtain ⟨hT,hd⟩ := hr.type aZ bO;refine no ?_;refine ⟨T,id,M.plain,M.slot,M.ty,hT,hd,?_⟩;refine nZ (first := [ov]) bC.builtin (st.step aU aZ) ?_;exact wpAny_mono (hf A ok E aO aQ H₁ P [v] [ov] aZ (.cons bO .nil) hw) (fun v s₃ q => q.trans aU) kE
inductive V1 (α : List Addr) (h : Heap) (x : MV) : List Value -> Prop
 | mk (v : Value) (a : VR α h x v) : V1 α h x [v]
inductive V2 (α : List Addr) (h : Heap) (x y : MV) : List Value -> Prop
 | mk (v u : Value) (a : VR α h x v) (b : VR α h y u) : V2 α h x y [v,u]
inductive V3 (α : List Addr) (h : Heap) (x y z : MV) : List Value -> Prop
 | mk (v u w : Value) (a : VR α h x v) (b : VR α h y u) (c : VR α h z w) : V3 α h x y z [v,u,w]
theorem vK {α : List Addr} {h : Heap} {x : MV} {vs : List Value} (r : c8 α h [x] vs) : V1 α h x vs := by
 skip;obtain ⟨v,r',rfl,a,b⟩ := r
 skip;subst b
 exact ⟨v,a⟩
theorem vL {α : List Addr} {h : Heap} {x y : MV} {vs : List Value} (r : c8 α h [x,y] vs) : V2 α h x y vs := by
 skip;obtain ⟨v,r',rfl,a,b⟩ := r
 obtain ⟨u,c⟩ := vK b;exact ⟨v,u,a,c⟩
theorem M4 {α : List Addr} {h : Heap} {x y z : MV} {vs : List Value} (r : c8 α h [x,y,z] vs) : V3 α h x y z vs := by
 skip;obtain ⟨v,r',rfl,a,b⟩ := r
 obtain ⟨u,w,c,d⟩ := vL b;exact ⟨v,u,w,a,c,d⟩
theorem P1 {α : List Addr} {h : Heap} {vs : List Value} (r : c8 α h [] vs) : vs = [] := by skip;exact r
theorem cF : jR "list" "append" "list.append" := ⟨F.plainAttrs_list,slot_list_append,F.type_list_append⟩
theorem Ka : jR "list" "pop" "list.pop" := ⟨F.plainAttrs_list,F.slot_list_pop,F.type_list_pop⟩
theorem Cg : jR "list" "reverse" "list.reverse" := ⟨F.plainAttrs_list,F.slot_list_reverse,F.type_list_reverse⟩
theorem mW : jR "str" "join" "str.join" := ⟨F.plainAttrs_str,F.slot_str_join,F.type_str_join⟩
theorem K9 : jR "str" "find" "str.find" := ⟨F.plainAttrs_str,F.slot_str_find,F.type_str_find⟩
inductive R1 : List MV -> Prop
 | mk (a : Nat) : R1 [.ref a]
inductive R2 : List MV -> Prop
 | mk (a : Nat) (v : MV) : R2 [.ref a,v]
inductive S2 : List MV -> Prop
 | mk (x : Str) (v : MV) : S2 [.str x,v]
inductive SR : List MV -> Prop
 | mk (x : Str) (a : Nat) : SR [.str x,.ref a]
inductive P3 : List MV -> Prop
 | s (x : Str) : P3 [.str x]
 | r (a : Nat) : P3 [.ref a]
noncomputable def bA : gF := fun xs H P => match xs with
 | [.ref a,v] => xU a v H fun H' => P .none H'
 | _ => False
theorem Ez {xs : List MV} {H : List MO} {P : cM} (h : bA xs H P) : R2 xs := by
 rcases xs with _ | ⟨a,r⟩ <;> first | exact False.elim h | (cases a <;> first | exact False.elim h | (rcases r with _ | ⟨v,r⟩ <;> first | exact False.elim h | (rcases r with _ | _ <;> first | exact False.elim h | exact .mk _ _)))
theorem K.append : dT G n (.builtin "list.append") bA := by
 intro A ok E s α H P xs vs i r h;cases Ez h
 · obtain ⟨v,u,ra,rv⟩ := vL r;exact lX i ra rv h fun H' s' hP i' t' => ⟨.none,H',α,hP,by skip;rfl,i',t'⟩
theorem i7 {s s' : Shared} {α : List Addr} {H : List MO} {j : Nat} {b : Addr} {ys : List MV} {vs ws : Array Value} {m m' : Nat} (i : cL G α H s) (hb : α[j]? = some b) (g1 : s.heap.get? b = some { cls := .type "list",data := .seq vs m }) (hk : ∀ c,c ≠ b -> s'.heap.get? c = s.heap.get? c) (g2 : s'.heap.get? b = some { cls := .type "list",data := .seq ws m' }) (hl : ys.length <= 2 ^ 30) (r : c8 α s.heap ys ws.toList) (hd : s'.drawn = s.drawn) (ho : s'.os = s.os) (hg : s'.gens = s.gens) : cL G α (H.set j (.list ys)) s' /\ a5 G [] α s α s' /\ tI s.heap s'.heap := by
 have k' : tI s.heap s'.heap := fun c o e q => by
   have : c ≠ b := fun z => by
     rw [z,g1] at e;(injection e with e;subst e);exact dN (show Value.type "list" ≠ Value.type "tuple" by decide) (show Value.type "list" ≠ Value.type "builtin_function_or_method" by decide) q
   rw [hk c this];exact e
 have hv := c8.mono [] k' r;rw [append_nil] at hv;obtain ⟨i',t'⟩ := i.upd (o := .list ys) hb hk ⟨hl,ws,m',g2,hv⟩ hd ho hg;exact ⟨i',t',k'⟩
noncomputable def E0 : gF := fun xs H P => match xs with
 | [.ref a] => ∃ ys x,H[a]? = some (.list (ys ++ [x])) /\ ys.length < 1000000 /\ P x (H.set a (.list ys))
 | _ => False
theorem M5 {xs : List MV} {H : List MO} {P : cM} (h : E0 xs H P) : R1 xs := by
 rcases xs with _ | ⟨a,r⟩ <;> first | exact False.elim h | (cases a <;> first | exact False.elim h | (rcases r with _ | ⟨v,r⟩ <;> first | exact False.elim h | exact .mk _))
theorem K.pop : dT G n (.builtin "list.pop") E0 := by
 intro A ok E s α H P xs vs i r h;cases M5 h
 · rename_i a;refine bP fun no => ?_;obtain ⟨v,ra⟩ := vK r;obtain ⟨ys,x,e,hl,hP⟩ := h;obtain ⟨b,vs,m,hb,g1,r1⟩ := i.list ra e;refine no ?_;have l := r1.length;simp only [length_toList,length_append,length_singleton] at l;refine bP fun no => ?_;obtain ⟨x',hx,rx⟩ := r1.get (i := ys.length) (x := x) aM;refine no ?_;have hx' : vs[vs.size - 1]? = some x' := by
     have : vs.size - 1 = ys.length := by lia
     refine aJ this (cE getElem?_toList ?_);exact hx
   have hsz : vs.size <= sizeLine := by refine cE l ?_;exact le_trans (succ_le_of_lt hl) (by decide)
   refine call_meets F.slot_list_pop ⟨_,g1,rfl⟩ F.entry_list_pop (F.args_list_pop_1 _) (MeetsSeq.list_pop_last b vs m x' hx' hsz) ⟨g1,?_⟩;have e2 := mapSeq_erase vs m (vs.size - 1) (by lia);obtain ⟨i',t',k'⟩ := i7 (ys := ys) (s' := { s with heap := s.heap.update b (Obj.mapSeq fun xs => xs.eraseIdxIfInBounds (vs.size - 1)) }) i hb g1 (fun c hc => get?_update_ne _ _ _ _ hc) (by exact aJ (get?_update_self _ g1 (by rw [e2];rfl)) (aJ e2 rfl)) (by exact le_trans (le_of_lt ‹_›) (by decide)) (by
     have e3 : vs.toList.eraseIdx (vs.size - 1) = vs.toList.take ys.length := by
       have : vs.size - 1 = ys.length := by lia
       refine aJ this ?_;exact aJ (List.eraseIdx_eq_take_drop_succ ..) (aJ (drop_eq_nil_of_le (by exact le_of_eq (Eq.symm ‹_›)) ..) (aJ (append_nil ..) rfl))
     show c8 α s.heap ys (vs.toList.eraseIdx (vs.size - 1));refine aJ e3 ?_;have := r1.take ys.length;simpa using this) rfl rfl rfl
   have rx' := VR.mono [] k' rx
   replace rx' := (append_nil ..) ▸ rx'
   exact ⟨x,_,α,hP,rx',i',t'⟩
noncomputable def pQ : gF := fun xs H P => match xs with
 | [.ref a] => ∃ ys,H[a]? = some (.list ys) /\ ys.length < 1000000 /\ P .none (H.set a (.list ys.reverse))
 | _ => False
theorem Ch {xs : List MV} {H : List MO} {P : cM} (h : pQ xs H P) : R1 xs := by
 rcases xs with _ | ⟨a,r⟩ <;> first | exact False.elim h | (cases a <;> first | exact False.elim h | (rcases r with _ | ⟨v,r⟩ <;> first | exact False.elim h | exact .mk _))
theorem K.reverse : dT G n (.builtin "list.reverse") pQ := by
 intro A ok E s α H P xs vs i r h;cases Ch h
 · rename_i a;obtain ⟨v,ra⟩ := vK r;obtain ⟨ys,e,hl,hP⟩ := h;obtain ⟨b,vs,m,hb,g1,r1⟩ := i.list ra e;have l := r1.length;dsimp only [length_toList] at l;have hsz : vs.size <= sizeLine := by refine cE l ?_;exact le_trans (le_of_lt hl) (by decide)
   refine call_meets F.slot_list_reverse ⟨_,g1,rfl⟩ F.entry_list_reverse (F.args_list_reverse_1 _) (AutoListH.list_reverse_list_0 b vs m hsz) ⟨g1,?_⟩;have e2 := mapSeq_reverse vs m;obtain ⟨i',t',k'⟩ := i7 (ys := ys.reverse) (ws := vs.toList.reverse.toArray) (m' := m) (s' := { s with heap := s.heap.update b (Obj.mapSeq fun x => x.reverse),toks := s.toks }) i hb g1 (fun c hc => get?_update_ne _ _ _ _ hc) (by
     skip
     exact aJ (get?_update_self _ g1 (by rw [e2];rfl)) (aJ e2 rfl)) (by exact aJ (length_reverse ..) (le_trans (le_of_lt ‹_›) (by decide))) (by exact r1.reverse) rfl rfl rfl
   exact ⟨.none,_,α,hP,by skip;rfl,i',t'⟩
noncomputable def vM : List MV -> Option (List Str)
 | [] => some []
 | .str x :: r => (vM r).map (x :: ·)
 | _ :: _ => none
theorem mX {α : List Addr} {h : Heap} : ∀ {xs : List MV} {ys : List Str} {vs : List Value},vM xs = some ys -> c8 α h xs vs -> ∃ l : List (Str × Tok),vs = strValues l /\ l.map (·.1) = ys := by
 intro xs;induction xs with
 | nil =>
   intro ys vs e r
   (injection e with e;subst e)
   exact ⟨[],by skip;exact r,rfl⟩
 | cons x xs ih =>
   intro ys vs e r;cases x <;> first | exact nS e | skip
   rename_i x
   replace e : (vM xs).map (x :: ·) = some ys := e
   cases e2 : vM xs with
   | none => rw [e2] at e;exact nS e
   | some zs =>
     rw [e2] at e;(injection e with e;subst e)
     skip
     refine bP fun no => ?_;obtain ⟨v,r',rfl,a,b⟩ := r;obtain ⟨t⟩ := a.str_inv;obtain ⟨l,rfl,e3⟩ := ih e2 b;refine no ?_;exact ⟨(x,t) :: l,rfl,by simp [e3]⟩
noncomputable def hM : gF := fun xs H P => match xs with
 | [.str sep,.ref a] => ∃ l ys,H[a]? = some (.list l) /\ vM l = some ys /\ (ys.map fun y => y.length + sep.length).sum <= 1000000 /\ P (.str (Builtin.Str.glued sep ys)) H
 | _ => False
theorem pR (sep : Str) : ∀ (l : List Str) (k : Nat),l.foldl (· + ·.length + sep.length) k = k + (l.map fun y => y.length + sep.length).sum := by
 intro l;induction l with
 | nil =>
   intro k;rfl
 | cons x l ih =>
   intro k;rw [foldl_cons,ih];simp;(simp only [length_append,length_cons,length_nil,Nat.add_assoc,zero_add,add_zero];done)
theorem mY (sep : Str) : ∀ (l : List Str),(Builtin.Str.glued sep l).length <= (l.map fun y => y.length + sep.length).sum := by
 intro l
 skip
 have key : ∀ (r : List Str) (acc : Array Nat),(r.foldl (fun acc p => acc ++ sep.cps ++ p.cps) acc).size = acc.size + (r.map fun y => y.length + sep.length).sum := by
   intro r;induction r with
   | nil => intro acc;rfl
   | cons x r ih =>
     intro acc;rw [foldl_cons,ih];simp [Str.length];(simp only [Nat.add_assoc,add_comm,Nat.add_left_comm];done)
 show (List.foldl (fun acc p => acc ++ sep.cps ++ p.cps) (l.headD Str.empty).cps (l.drop 1)).size <= _;refine aJ (key ..) ?_;cases l with
 | nil => exact le_refl _
 | cons x r => simp [Str.length]
theorem La {xs : List MV} {H : List MO} {P : cM} (h : hM xs H P) : SR xs := by
 rcases xs with _ | ⟨a,r⟩ <;> first | exact False.elim h | (cases a <;> first | exact False.elim h | (rcases r with _ | ⟨v,r⟩ <;> first | exact False.elim h | (cases v <;> first | exact False.elim h | (rcases r with _ | _ <;> first | exact False.elim h | exact .mk _ _))))
theorem K.join : dT G n (.builtin "str.join") hM := by
 intro A ok E s α H P xs vs i r h;cases La h
 · rename_i sep a;refine bP fun no => ?_;obtain ⟨v,u,rs,ra⟩ := vL r;obtain ⟨l,ys,e,hs,hl,hP⟩ := h;obtain ⟨t⟩ := rs.str_inv;obtain ⟨b,vs,m,hb,g1,r1⟩ := i.list ra e;obtain ⟨l',hv,hy⟩ := mX hs r1;have hv' : vs = (strValues l').toArray := by exact cE hv rfl
   subst hv';refine no ?_;have hlen : Builtin.Str.tooLong ((l'.map (·.1)).toArray.foldl (· + ·.length + sep.length) 0) = false := by
     refine aJ hy ?_;have : (ys.toArray.foldl (fun x1 x2 => x1 + x2.length + sep.length) 0) = (ys.map fun y => y.length + sep.length).sum := by
       refine aJ (foldl_toArray ..) (aJ (pR ..) ?_);exact add_comm _ _
     refine aJ this ?_;unfold Builtin.Str.tooLong sizeLine;exact decide_eq_false (by lia)
   have hgl : (Builtin.Str.glued sep ys).length <= sizeLine := le_trans (mY sep ys) (le_trans hl (by decide));refine call_meets F.slot_str_join (typeIs_str _ _ _) F.entry_str_join (F.args_str_join_2 _ _) (meets_str_join_list sep t b l' hlen) ⟨⟨_,g1,rfl,_,rfl⟩,?_⟩;refine bP fun no => ?_;subst hy;refine no ?_;have hmk : ∀ l'',joinMade sep l'' = .str (Builtin.Str.glued sep (l''.map (·.1))) \/ ∃ p,l'' = [p] /\ joinMade sep l'' = .val (.str p.1 p.2) := fun l'' => by
     match l'' with
     | [] => exact .inl rfl
     | [p] => exact .inr ⟨p,rfl,rfl⟩
     | p :: q :: r => exact .inl rfl
   rcases hmk l' with e1 | ⟨p,rfl,e1⟩
   · refine aJ e1 ?_;exact ⟨hgl,d2.of_kp i (Kp.tok _) (VR.str hgl) hP⟩
   · refine aJ e1 ?_;rw [(rfl : Builtin.Str.glued sep (List.map (fun x => x.1) [p]) = p.1)] at hP hgl;exact d2.of_kp i .refl (VR.str hgl) hP
noncomputable def cZ : gF := fun xs H P => match xs with
 | [.str x] => P (.int x.length) H
 | [.ref a] => ∃ ys,H[a]? = some (.list ys) /\ P (.int ys.length) H
 | _ => False
theorem M6 {xs : List MV} {H : List MO} {P : cM} (h : cZ xs H P) : P3 xs := by
 rcases xs with _ | ⟨a,r⟩ <;> first | exact False.elim h | (cases a <;> first | exact False.elim h | (rcases r with _ | ⟨v,r⟩ <;> first | exact False.elim h | exact .s _ | exact .r _))
theorem K.len : dT G n (.builtin "len") cZ := by
 intro A ok E s α H P xs vs i r h;cases M6 h
 · rename_i x;obtain ⟨v,rx⟩ := vK r;have hl := rx.str_len;obtain ⟨t⟩ := rx.str_inv;have : sizeLine < 2 ^ 63 := by decide
   exact PySem.P.len_str (by lia) (d2.of_kp i (Kp.tok _) VR.int h)
 · rename_i a;obtain ⟨v,ra⟩ := vK r;obtain ⟨ys,e,hP⟩ := h;have hl := i.list_len ra e;obtain ⟨b,vs,m,hb,g1,r1⟩ := i.list ra e;have l := r1.length;simp only [length_toList] at l;refine Calls.call_len_list ⟨_,g1,rfl,_,rfl⟩ (by refine cE l ?_;lia) ?_;refine cE l ?_;exact d2.of_kp i (Kp.tok _) VR.int hP
end
section
variable {G : Gl} {env : Env} {names : List Str} {n : Nat}
inductive V4 (α : List Addr) (h : Heap) (x y z z' : MV) : List Value -> Prop
 | mk (v u w w' : Value) (a : VR α h x v) (b : VR α h y u) (c : VR α h z w) (d : VR α h z' w') : V4 α h x y z z' [v,u,w,w']
theorem P4 {α : List Addr} {h : Heap} {x y z z' : MV} {vs : List Value} (r : c8 α h [x,y,z,z'] vs) : V4 α h x y z z' vs := by
 skip;obtain ⟨v,r',rfl,a,b⟩ := r
 obtain ⟨u,w,w',c,d,e⟩ := M4 b;exact ⟨v,u,w,w',a,c,d,e⟩
open Builtin.Str in
theorem vN (x y : Str) (i j : Nat) (t u v w : Tok) (hj : j <= x.length) : Gives (Builtin.«str.find» ⟨[.str x t,.str y u,.int i v,.int j w],[]⟩) (.int (match occurrences x y i j 1 with | k :: _ => (k : Int) | [] => -1)) := by
 have e1 : (max 0 (if ((i : Int) < 0) then (i : Int) + x.length else (i : Int))).toNat = i := by
   refine aJ (if_neg (Int.not_lt.mpr (Int.natCast_nonneg i))) (aJ (Int.max_eq_right (Int.natCast_nonneg i)) ?_);rfl
 have e2 : min (max 0 (if ((j : Int) < 0) then (j : Int) + x.length else (j : Int))).toNat x.length = j := by
   refine aJ (if_neg (Int.not_lt.mpr (Int.natCast_nonneg j))) (aJ (Int.max_eq_right (Int.natCast_nonneg j)) ?_);exact min_eq_left hj
 show Gives (match occurrences x y (max 0 (if ((i : Int) < 0) then (i : Int) + x.length else (i : Int))).toNat (min (max 0 (if ((j : Int) < 0) then (j : Int) + x.length else (j : Int))).toNat x.length) 1 with | k :: _ => retInt k | [] => (do rule "str.find.not-found";retInt (-1))) _;rw [e1,e2];cases occurrences x y i j 1 with
 | nil => exact .rule (.of_eq rfl)
 | cons k _ => exact .of_eq rfl
inductive F4 : List MV -> Prop
 | mk (x y : Str) (i j : Int) : F4 [.str x,.str y,.int i,.int j]
noncomputable def n0 : gF := fun xs H P => match xs with
 | [.str x,.str y,.int i,.int j] => 0 <= i /\ 0 <= j /\ j <= x.length /\ P (.int (match Builtin.Str.occurrences x y i.toNat j.toNat 1 with | k :: _ => (k : Int) | [] => -1)) H
 | _ => False
theorem Lb {xs : List MV} {H : List MO} {P : cM} (h : n0 xs H P) : F4 xs := by
 rcases xs with _ | ⟨a,xs⟩
 · exact False.elim h
 cases a <;> first | exact False.elim h | skip
 rcases xs with _ | ⟨b,xs⟩
 · exact False.elim h
 cases b <;> first | exact False.elim h | skip
 rcases xs with _ | ⟨c,xs⟩
 · exact False.elim h
 cases c <;> first | exact False.elim h | skip
 rcases xs with _ | ⟨d,xs⟩
 · exact False.elim h
 cases d <;> first | exact False.elim h | skip
 rcases xs with _ | _
 · exact .mk _ _ _ _
 · exact False.elim h
theorem K.find : dT G n (.builtin "str.find") n0 := by
 intro A ok E s α H P xs vs i r h;cases Lb h
 · rename_i x y a b;obtain ⟨v1,v2,v3,v4,r1,r2,r3,r4⟩ := P4 r;obtain ⟨ha,hb,hl,hP⟩ := h;obtain ⟨t⟩ := r1.str_inv;obtain ⟨u⟩ := r2.str_inv;obtain ⟨v⟩ := r3.int_inv;obtain ⟨w⟩ := r4.int_inv;obtain ⟨a,rfl⟩ := Int.eq_ofNat_of_zero_le ha;obtain ⟨b,rfl⟩ := Int.eq_ofNat_of_zero_le hb;exact call_gives F.slot_str_find (typeIs_str _ _ _) F.entry_str_find (F.args_str_find_4 _ _ _ _) (vN x y a b t u v w (Int.ofNat_le.mp ‹_›)) (d2.of_kp i (Kp.tok _) VR.int hP)
noncomputable def oM : List MV -> Option (List Int)
 | [] => some []
 | .int x :: r => (oM r).map (x :: ·)
 | _ :: _ => none
theorem mZ {α : List Addr} {h : Heap} : ∀ {xs : List MV} {ys : List Int} {vs : List Value},oM xs = some ys -> c8 α h xs vs -> ∃ l : List (Int × Tok),vs = l.map (fun p => Value.int p.1 p.2) /\ l.map (·.1) = ys := by
 intro xs;induction xs with
 | nil =>
   intro ys vs e r
   (injection e with e;subst e)
   exact ⟨[],by skip;exact r,rfl⟩
 | cons x xs ih =>
   intro ys vs e r;cases x <;> first | exact nS e | skip
   rename_i x
   replace e : (oM xs).map (x :: ·) = some ys := e
   cases e2 : oM xs with
   | none => rw [e2] at e;exact nS e
   | some zs =>
     rw [e2] at e;(injection e with e;subst e)
     skip
     refine bP fun no => ?_;obtain ⟨v,r',rfl,a,b⟩ := r;obtain ⟨t⟩ := a.int_inv;obtain ⟨l,rfl,e3⟩ := ih e2 b;refine no ?_;exact ⟨(x,t) :: l,rfl,by simp [e3]⟩
noncomputable def Ci : gF := fun xs H P => match xs with
 | [.ref a] => ∃ l ns,H[a]? = some (.list l) /\ oM l = some ns /\ P (.int ns.sum) H
 | _ => False
theorem M7 {xs : List MV} {H : List MO} {P : cM} (h : Ci xs H P) : R1 xs := by
 rcases xs with _ | ⟨a,r⟩ <;> first | exact False.elim h | (cases a <;> first | exact False.elim h | (rcases r with _ | ⟨v,r⟩ <;> first | exact False.elim h | exact .mk _))
theorem K.sum : dT G n (.builtin "sum") Ci := by
 intro A ok E s α H P xs vs i r h;cases M7 h
 · rename_i a;refine bP fun no => ?_;obtain ⟨v,ra⟩ := vK r;obtain ⟨l,ns,e,hs,hP⟩ := h;obtain ⟨b,vs,m,hb,g1,r1⟩ := i.list ra e;obtain ⟨l',hv,hy⟩ := mZ hs r1;refine no ?_;have hv' : vs = intItems l'.toArray := by
     apply toList_inj.mp;refine aJ hv ?_;simp [intItems]
   subst hv';refine sum_intListG ok.1 ⟨_,g1,rfl,_,rfl⟩ fun h' tk t' hk => ?_;have : preSum (numAt l'.toArray) l'.toArray.size = ns.sum := by
     refine aJ (preSum_eq ..) (aJ (take_of_length_le (by simp) ..) ?_)
     skip
     exact aJ hy rfl
   refine aJ this ?_;exact d2.of_kp i ⟨hk,rfl,rfl,rfl⟩ VR.int hP
noncomputable def E1 : gF := fun xs H P => match xs with
 | [.ref a] => ∃ l,H[a]? = some (.list l) /\ l.length < 1000000 /\ P (.ref H.length) (H ++ [.list l])
 | _ => False
theorem Lc {xs : List MV} {H : List MO} {P : cM} (h : E1 xs H P) : R1 xs := by
 rcases xs with _ | ⟨a,r⟩ <;> first | exact False.elim h | (cases a <;> first | exact False.elim h | (rcases r with _ | ⟨v,r⟩ <;> first | exact False.elim h | exact .mk _))
theorem K.list : dT G n (.type "list") E1 := by
 intro A ok E s α H P xs vs i r h;cases Lc h
 · rename_i a;obtain ⟨v,ra⟩ := vK r;obtain ⟨l,e,hl,hP⟩ := h;obtain ⟨b,vs,m,hb,g1,r1⟩ := i.list ra e;have ll := r1.length;simp only [length_toList] at ll;refine call_list_seq b (.inl rfl) g1 rfl rfl (fun h' c' hk g2 => ?_) (by refine cE ll ?_;exact le_trans (le_of_lt hl) (by decide));have kp : Kp s { s with heap := h' } := ⟨hk,rfl,rfl,rfl⟩;exact d2.new (o := .list l) i kp (a9 (le_refl _)) ⟨by exact le_trans (le_of_lt ‹_›) (by decide),vs,c',g2,r1.kp kp⟩ hP
inductive P5 : List MV -> Prop
 | s (x : Str) (v : Value) : P5 [.str x,.val v]
 | i (x : Int) (v : Value) : P5 [.int x,.val v]
noncomputable def tO : gF := fun xs H P => match xs with
 | [.str _,.val v] => v = .type "str" /\ P (.bool true) H
 | [.int _,.val v] => v = .type "bool" /\ P (.bool false) H
 | _ => False
theorem Ij {xs : List MV} {H : List MO} {P : cM} (h : tO xs H P) : P5 xs := by
 rcases xs with _ | ⟨a,r⟩ <;> first | exact False.elim h | (cases a <;> first | exact False.elim h | (rcases r with _ | ⟨v,r⟩ <;> first | exact False.elim h | (cases v <;> first | exact False.elim h | (rcases r with _ | _ <;> first | exact False.elim h | exact .s _ _ | exact .i _ _))))
theorem K.isinstance : dT G n (.builtin "isinstance") tO := by
 intro A ok E s α H P xs vs i r h;cases Ij h
 · obtain ⟨rfl,h⟩ := h;obtain ⟨v,u,r1,r2⟩ := vL r;obtain ⟨t⟩ := r1.str_inv
   skip;subst r2
   exact call_isinstance (isinstance_true (Tx := "str") (T := "str") rfl sub_str_str) ⟨typeIs_str _ _ _,d2.of_kp i .refl (by skip;rfl) h⟩
 · obtain ⟨rfl,h⟩ := h;obtain ⟨v,u,r1,r2⟩ := vL r;obtain ⟨t⟩ := r1.int_inv
   skip;subst r2
   exact call_isinstance (isinstance_false_int (T := "bool") rfl rfl sub_int_bool) (d2.of_kp i (Kp.tok _) (by skip;rfl) h)
end
theorem k7 : mroOf (.type "object") = pure [.type "object"] := by refine aJ (mroOf_type ..) ?_;kernel_rfl
theorem lZ : typeLookup (.type "object") "__new__" = pure (some (.builtin "object.__new__")) := by refine aJ (typeLookup_type ..) (aJ (builtinLookup_eq_fast ..) ?_);kernel_rfl
theorem m6 : Slot "object" "__init__" "object.__init__" :=
 .of (owner := "object") (n := "__init__") (by refine aJ (typeLookup_type ..) (aJ (builtinLookup_eq_fast ..) ?_);kernel_rfl) (by decide +kernel) (by decide +kernel) (by decide +kernel)
   (by first | exact .inl (by decide +kernel) | exact .inr (by decide +kernel)) (by refine aJ (isSubtype_type ..) ?_;kernel_rfl)
theorem fH : TypeCalled "object" "object.__new__" "object.__init__" :=
 ⟨by decide +kernel,by decide +kernel,⟨_,_,k7⟩,madeBy_type k7 lZ (by decide +kernel),by decide +kernel,by refine aJ (isSubtype_type ..) ?_;kernel_rfl,m6⟩
theorem l0 : checkTypeCall "object" ⟨[],[]⟩ = pure () := by kernel_rfl
theorem m7 : checkBuiltinCall "object.__new__" ⟨[.type "object"],[]⟩ = pure () := by kernel_rfl
theorem iK : plainId "object.__new__" = true := by decide +kernel
theorem oN : Bind.madeHere "object.__new__" (.type "object") = pure () := by
 unfold Bind.madeHere;have e : Bind.staticBase (.type "object") = pure (.type "object") := by
   unfold Bind.staticBase;refine aJ k7 ?_;simp only [pure_bind,forIn_cons,fH.made,Option.isSome_some,if_true]
 rw [e,pure_bind,fH.made,pure_bind];rw [if_neg (by decide +kernel)]
section
variable {prog : Program} {w : World} {A : Around} {E : cB} {s : Shared}
theorem oO {Q₁ : cB} (h : Q₁ (.ref s.heap.objs.size) { s with heap := s.heap.push { cls := .type "object" } }) : codeAny (model prog w) A (.call (.builtin "object.__new__") ⟨[.type "object"],[]⟩) (wants Q₁ E) s := by
 refine codeAny_of_tree ?_;show wpAny _ A.in1 (do checkBuiltinCall "object.__new__" ⟨[.type "object"],[]⟩;again (.builtin "object.__new__" ⟨[.type "object"],[]⟩)) _ _ s;refine wpAny_bind (wpAny_of_eq m7 (wpAny_pure ⟨plainId_quiet iK _,codeAny_builtin F.entry_object_new ?_⟩));refine aJ (Around.under_plainId iK _) ?_;obtain ⟨hp,g,d,tk,os⟩ := s;have hmh := oN;have hmb := fH.made
 wp_walk
 exact h
theorem vO {Q : cB} (h : Q (.ref s.heap.objs.size) { s with heap := s.heap.push { cls := .type "object" } }) : wpAny (model prog w) A (call (.type "object") []) Q E s := by
 refine callType_codes (Q₁ := fun obj aO => obj = .ref s.heap.objs.size /\ aO = { s with heap := s.heap.push { cls := .type "object" } }) fH l0 F.entry_object_init
   (oO ⟨rfl,rfl⟩) fun obj aO g7 => ?_
 obtain ⟨rfl,rfl⟩ := g7;refine ⟨⟨_,get?_push_size _ rfl,rfl⟩,F.args_object_init_1 _,?_⟩
 skip
 exact wpAny_pure ⟨rfl,h⟩
end
section
variable {G : Gl} {env : Env} {names : List Str} {n : Nat}
noncomputable def A2 : gF := fun xs H P => xs = [] /\ P (.ref H.length) (H ++ [.obj])
theorem K.object : dT G n (.type "object") A2 := by
 intro A ok E s α H P xs vs i r h;obtain ⟨rfl,h⟩ := h;have := P1 r;subst this;exact vO (d2.new (o := .obj) i (Kp.push _) (a9 (le_refl _)) (get?_push_size _ rfl) h)
end
theorem jS : Slot "method_descriptor" "__get__" "method_descriptor.__get__" :=
 .of (owner := "method_descriptor") (n := "__get__") (by refine aJ (typeLookup_type ..) (aJ (builtinLookup_eq_fast ..) ?_);kernel_rfl) (by decide +kernel) (by decide +kernel) (by decide +kernel)
   (by first | exact .inl (by decide +kernel) | exact .inr (by decide +kernel)) (by refine aJ (isSubtype_type ..) ?_;kernel_rfl)
theorem tP : entryFor table "method_descriptor.__get__" = some Builtin.«method_descriptor.__get__» := entryFor_of_tree (by kernel_rfl)
theorem vP (a b c : Value) : argsOk "method_descriptor.__get__" ⟨[a,b,c],[]⟩ := by skip;kernel_rfl
theorem Cj : typeLookup (.type "method_descriptor") "__set__" = pure none := by refine aJ (typeLookup_type ..) (aJ (builtinLookup_eq_fast ..) ?_);kernel_rfl
theorem tQ : typeLookup (.type "method_descriptor") "__delete__" = pure none := by refine aJ (typeLookup_type ..) (aJ (builtinLookup_eq_fast ..) ?_);kernel_rfl
theorem vQ : Manifest.toldItsClass.contains "list.append" = false := by decide +kernel
theorem tR : (".".intercalate ("list.append".cutAt '.').dropLast) = "list" := by
 refine aJ (by first | rfl | decide +kernel : "list.append".cutAt '.' = ["list","append"]) ?_;decide +kernel
theorem rO : isSubtype (.type "list") (.type "list") = pure true := by refine aJ (isSubtype_type ..) ?_;kernel_rfl
section
variable {prog : Program} {w : World} {A : Around} {E : cB} {h : Heap} {g : Array GenState} {d : Drawn} {t : Nat} {os : OsState} {a : Addr} {o : Obj}
set_option maxHeartbeats 4000000 in
theorem xX {R : Result -> Shared -> Prop} (hx : h.get? a = some o) (hc : o.cls = .type "list") (hq : R (.ok (.ret (.ref h.objs.size))) ⟨h.push { cls := .type "builtin_function_or_method",data := .fields #[.builtin "list.append",.ref a] },g,d,t,os⟩) : codeAny (model prog w) A (.call (.builtin "method_descriptor.__get__") ⟨[.builtin "list.append",.ref a,.type "list"],[]⟩) R ⟨h,g,d,t,os⟩ := by
 have hT : (⟨h,g,d,t,os⟩ : Shared).TypeIs (.ref a) "list" := ⟨_,hx,hc⟩;have f8 : isSubtype (.type "list") (.type (".".intercalate ("list.append".cutAt '.').dropLast)) = pure true := by refine aJ tR ?_;exact rO
 have f9 := vQ;refine codeAny_call_builtin jS.plain tP (jS.check _ _ _ _ _ _ _ _ (F.type_list_append : (⟨h,g,d,t,os⟩ : Shared).TypeIs (.builtin "list.append") "method_descriptor") (vP _ _ _) ?_)
 repeat (any_goals (first | assumption | wp_step))
theorem tS {tk : Tok} {vs : Array Value} {m : Nat} {Q : Fin -> Shared -> Prop} (hx : h.get? a = some { cls := .type "list",data := .seq vs m }) (hq : Q (.done (.ret (.ref h.objs.size))) ⟨h.push { cls := .type "builtin_function_or_method",data := .fields #[.builtin "list.append",.ref a] },g,d,t,os⟩) : wpAny (model prog w) A (Builtin.«object.__getattribute__» ⟨[.ref a,.str "append" tk],[]⟩) Q E ⟨h,g,d,t,os⟩ := by
 have hT : (⟨h,g,d,t,os⟩ : Shared).TypeIs (.ref a) "list" := ⟨_,hx,rfl⟩;have hT5 : (⟨h,g,d,t,os⟩ : Shared).TypeIs (.builtin "list.append") "method_descriptor" := F.type_list_append;have f4 : typeLookup (.type "list") "append" = pure (some (.builtin "list.append")) := slot_list_append.lookup;have f5 := F.type_list_append;have f6 := jS.lookup;have f7 := Cj;have f8 := tQ
 repeat (any_goals (first | assumption | wp_step))
 refine xX hx rfl ?_
 repeat (any_goals (first | assumption | wp_step))
theorem vR {tk : Tok} {vs : Array Value} {m : Nat} {R : Result -> Shared -> Prop} (hx : h.get? a = some { cls := .type "list",data := .seq vs m }) (hq : R (.ok (.ret (.ref h.objs.size))) ⟨h.push { cls := .type "builtin_function_or_method",data := .fields #[.builtin "list.append",.ref a] },g,d,t,os⟩) : codeAny (model prog w) A (.call (.builtin "list.__getattribute__") ⟨[.ref a,.str "append" tk],[]⟩) R ⟨h,g,d,t,os⟩ :=
 codeAny_call_builtin F.slot_list_getattribute.plain F.entry_list_ga (F.slot_list_getattribute.check _ _ _ _ _ _ _ _ (show (⟨h,g,d,t,os⟩ : Shared).TypeIs (.ref a) "list" from ⟨_,hx,rfl⟩) (F.args_list_getattribute_2 _ _) (tS hx hq))
theorem Ck {tk : Tok} {fill expr : Bool} {vs : Array Value} {m : Nat} {Q : cB} (hx : h.get? a = some { cls := .type "list",data := .seq vs m }) (hq : Q (.ref h.objs.size) ⟨h.push { cls := .type "builtin_function_or_method",data := .fields #[.builtin "list.append",.ref a] },g,d,t,os⟩) : wpAny (model prog w) A (getAttrBy (.ref a) (.str "append" tk) fill expr) Q E ⟨h,g,d,t,os⟩ := by
 have hT : (⟨h,g,d,t,os⟩ : Shared).TypeIs (.ref a) "list" := ⟨_,hx,rfl⟩;have f2 := F.slot_list_getattribute.lookup;have f3 := F.slot_list_getattribute.bind (.ref a);have hx0 : (expr && onTheHeap (Value.builtin "list.__getattribute__")) = false := by cases expr <;> rfl
 repeat (any_goals (first | assumption | wp_step))
 refine vR hx ?_
 repeat (any_goals (first | assumption | wp_step))
theorem vS {expr : Bool} {vs : Array Value} {m : Nat} {Q : cB} (hx : h.get? a = some { cls := .type "list",data := .seq vs m }) (hq : Q (.ref h.objs.size) ⟨h.push { cls := .type "builtin_function_or_method",data := .fields #[.builtin "list.append",.ref a] },g,d,t + 1,os⟩) : wpAny (model prog w) A (getAttr (.ref a) "append" expr) Q E ⟨h,g,d,t,os⟩ := by
 unfold getAttr
 repeat (any_goals (first | assumption | with_reducible apply Ck hx | wp_step))
end
theorem Cl : builtinKind "list.append" = some .method := by decide +kernel
theorem Cm : Manifest.varargsMethods.contains "list.append" = false := by decide +kernel
theorem oP : isSubtype (.type "list") (.type "module") = pure false := by refine aJ (isSubtype_type ..) ?_;kernel_rfl
section
variable {prog : Program} {w : World} {A : Around} {E : cB} {s : Shared} {a : Addr} {o : Obj}
theorem vT {v : Value} {Q : Unit -> Shared -> Prop} {vs : Array Value} {m : Nat} (hx' : s.heap.get? a = some { cls := .type "list",data := .seq vs m }) (hq : Q () s) : wpAny (model prog w) A (checkBoundCall "list.append" ⟨[.ref a,v],[]⟩) Q E s := by
 have hx : s.TypeIs (.ref a) "list" := ⟨_,hx',rfl⟩
 skip
 refine aJ Cl ?_;have := oP;have := Cm;obtain ⟨h,g,d,t,os⟩ := s
 repeat (any_goals (first | assumption | wp_step))
 all_goals (refine wpAny_of_eq (append_checked _ _) hq)
theorem E3 {v : Value} {b : Addr} {vs : Array Value} {m : Nat} {R : Result -> Shared -> Prop} (hb : s.heap.get? b = some { cls := .type "builtin_function_or_method",data := .fields #[.builtin "list.append",.ref a] }) (hx' : s.heap.get? a = some { cls := .type "list",data := .seq vs m }) (hz : vs.size <= sizeLine) (hq : ∀ h',h'.PlainList a (vs.push v) -> Heap.SameBut a s.heap h' -> R (.ok (.ret .none)) { s with heap := h' }) : codeAny (model prog w) A (.call (.ref b) ⟨[v],[]⟩) R s := by
 refine codeAny_of_tree ?_;show wpAny _ A.in1 (callAny (.ref b) ⟨[v],[]⟩) _ _ s
 skip
 refine wpAny_bind (wpAny_load hb ?_);show wpAny _ _ (do checkBoundCall "list.append" ⟨[.ref a,v],[]⟩;return <- again (.builtin "list.append" ⟨[.ref a,v],[]⟩)) _ _ s;refine wpAny_bind (vT hx' ?_);refine wpAny_bind (wpAny_pure (wpAny_pure ⟨plainId_quiet slot_list_append.plain _,codeAny_builtin entry_list_append ?_⟩));refine aJ (Around.under_plainId slot_list_append.plain _) ?_;show wpAny _ _ (updateSeq a (·.push v) >>= fun _ => ret .none) _ _ s;refine wpAny_bind ?_;refine wpAny_updateSeq hx' rfl (wpAny_pure (hq _ ⟨m + 1,?_⟩ (Heap.SameBut.update ..)));rw [get?_update_self _ hx' (by rw [Obj.mapSeq_push_plain];rfl),Obj.mapSeq_push_plain]
end
section
variable {G : Gl} {env : Env} {names : List Str} {n : Nat}
inductive Kb (P : cM) (v : MV) (H' : List MO) : Prop
 | mk (j : Nat) (xs : List MV) (e : v = .ref j) (h : H'[j]? = some (.list xs)) (p : P (.app j) H') : Kb P v H'
noncomputable def pS (w : WE) : WE := fun ρ H P => w ρ H (Kb P)
theorem E.attrApp {x : Str} {np pos : Pos} {w : WE} (h : aP G env names n (.Name x np) w) : aP G env names n (.Attribute (.Name x np) "append" pos) (pS w) := by
 intro A ok E s α H ρ P st hw;refine Attribute_name (fM (h A ok E s α H ρ _ st hw) fun v H₁ aQ v' aO q3 bO aZ aU => ?_);obtain ⟨j,xs,rfl,hj,hP⟩ := q3;obtain ⟨a,vs,m,ha,g1,r2⟩ := aZ.list bO hj;obtain ⟨hp,g,d,tk,os⟩ := aO;refine vS g1 ?_;exact (d2.of_kp aZ (⟨fun _ _ e => get?_push_of_some _ e,rfl,rfl,rfl⟩ : Kp ⟨hp,g,d,tk,os⟩ ⟨hp.push { cls := .type "builtin_function_or_method",data := .fields #[.builtin "list.append",.ref a] },g,d,tk + 1,os⟩) (by skip;exact ⟨a,hp.objs.size,ha,rfl,get?_push_size _ rfl⟩) hP).trans aU
noncomputable def pA (P : cM) (f : MV) : cM := fun v bH => Is .app f fun j => xU j v bH (P .none)
noncomputable def bK (wf w : WE) : WE := fun ρ H P => wf ρ H (k2 (pA P) w ρ)
theorem E.callApp {x : Str} {np pos : Pos} {e : Expr} {wf w : WE} (hn : aP G env names n (.Name x np) wf) (h : aP G env names n e w) (hs : starEach [e] env = [(false,eval e env)])
   (ht : eval (.Call (.Name x np) [e] [] pos) env = (do callWith pos (<- eval (.Name x np) env) [] (backTo pos (starEach [e] env)) (backToKw pos (keywordEach [] env)))) :
   aP G env names n (.Call (.Name x np) [e] [] pos) (bK wf w) := by
 intro A ok E s α H ρ P st hw;refine Call_ (fM (hn A ok E s α H ρ _ st hw) fun f H₁ aQ f' aO cX bO aZ aU => ?_) ht;refine aJ hs ?_;refine callWith_of (P := fun h => ∃ k,(k = Keeper.frame \/ k = Keeper.machine \/ k = Keeper.boundFrame) /\ Looks (model G.prog G.w) h (keeperOf f') k) (by rfl) (fun h X => X) ?_;refine Calls.evalArgs_plain (Calls.spliced_cons (wpAny_mono (h A ok E aO aQ H₁ ρ _ (st.step aU aZ) cX) (fun v' s₂ r => Calls.spliced_nil ?_) kE));refine bP fun no => ?_;obtain ⟨v,bH,bL,⟨j,rfl,hP⟩,dW,bQ,bF⟩ := r;refine no ?_
 skip
 refine bP fun no => ?_;obtain ⟨a',b',ha',rfl,hb'⟩ := (bO.step bF);refine no ?_;refine ⟨⟨.machine,.inr (.inl rfl),(Looks.ld (part := none) hb').andThen .now⟩,?_⟩;refine bP fun no => ?_;obtain ⟨xs,ej,hl,hP⟩ := hP;obtain ⟨vs,m,g1,r3⟩ := bQ.lst ha' ej;refine no ?_;have l := r3.length;dsimp only [length_toList] at l;refine wpAny_call (E3 hb' g1 (by refine cE l ?_;exact le_trans (le_of_lt hl) (by decide)) fun h' ⟨m',g'⟩ hs' => ?_);obtain ⟨i',t',k'⟩ := i7 (ys := xs ++ [v]) (s' := { s₂ with heap := h' }) bQ ha' g1 (fun c hc => hs'.2 c hc) g' (by exact aJ lA (le_trans (succ_le_of_lt ‹_›) (by decide))) (by simpa using c8.append r3 (.cons dW .nil)) rfl rfl rfl;exact ⟨.none,_,bL,hP,by skip;rfl,i',(aU.trans bF).trans t'⟩
end
theorem oQ : isSubtype (.type "range_iterator") (.type "reversed") = pure false := by refine aJ (isSubtype_type ..) ?_;kernel_rfl
section
variable {prog : Program} {w : World} {A : Around} {E : cB} {s : Shared}
theorem kJ {r : Addr} {n : Int} {t u v : Tok} {Q : cB} (hr : IsRange s.heap r 0 n 1 t u v) (h0 : 0 <= n) (hn : n < 2 ^ 60) (h : Q (.ref s.heap.objs.size) { s with heap := s.heap.push { cls := .type "range_iterator",data := .fields #[rawInt (n - 1),rawInt n,rawInt (-1)] } }) : wpAny (model prog w) A (call (.builtin "range.__reversed__") [.ref r]) Q E s := by
 have hz : Builtin.Range.rangeSize 0 n 1 = n := by refine aJ (rangeSize_one ..) ?_;split <;> lia
 refine wpAny_call_entry F.slot_range_reversed (⟨_,hr,rfl⟩ : s.TypeIs (.ref r) "range") F.entry_range_reversed ?_ (F.args_range_reversed_1 _);obtain ⟨hp,g,d,tk,os⟩ := s;have hs : (Builtin.Range.rangeFitsLong 0 && Builtin.Range.rangeFitsLong n && Builtin.Range.rangeFitsLong 1 && Builtin.Range.rangeFitsLong (-1) && Builtin.Range.rangeFitsLong (0 - 1) && Builtin.Range.rangeFitsLong n) = true := by
   simp only [Builtin.Range.rangeFitsLong,Bool.and_eq_true,decide_eq_true_eq]
   lia
 wp_walk using wpAny_field hr rfl rfl
 refine aJ hz (aJ hs ?_);refine aJ (by (simp;done) : (0 + (n - 1) * 1 : Int) = n - 1) ?_
 wp_walk
 exact ⟨_,rfl,h⟩
theorem kK {r : Addr} {n : Int} {t u v : Tok} {Q₁ : cB} (hr : IsRange s.heap r 0 n 1 t u v) (h0 : 0 <= n) (hn : n < 2 ^ 60) (h : Q₁ (.ref s.heap.objs.size) { s with heap := s.heap.push { cls := .type "range_iterator",data := .fields #[rawInt (n - 1),rawInt n,rawInt (-1)] } }) : codeAny (model prog w) A (.call (.builtin "reversed.__new__") ⟨[.type "reversed",.ref r],[]⟩) (wants Q₁ E) s := by
 refine codeAny_of_tree ?_;show wpAny _ A.in1 (do checkBuiltinCall "reversed.__new__" ⟨[.type "reversed",.ref r],[]⟩;again (.builtin "reversed.__new__" ⟨[.type "reversed",.ref r],[]⟩)) _ _ s;refine wpAny_bind (wpAny_of_eq (F.newCall_reversed_1 _) (wpAny_pure ⟨plainId_quiet F.plain_reversed_new _,codeAny_builtin F.entry_reversed_new ?_⟩));refine aJ (Around.under_plainId F.plain_reversed_new _) ?_;unfold Builtin.«reversed.__new__»;refine wpAny_bind (wpAny_of_eq (newClass_reversed _) ?_);try skip
 refine wpAny_bind (wpAny_of_eq (a := ()) (by first | rfl | kernel_rfl) ?_);refine wpAny_bind (wpAny_of_eq (a := ()) (by first | rfl | kernel_rfl) ?_);try skip
 refine wpAny_bind (wpAny_specialOf (⟨_,hr,rfl⟩ : s.TypeIs (.ref r) "range") F.slot_range_reversed.lookup ?_);try skip
 refine wpAny_bind (wpAny_of_eq (F.slot_range_reversed.bind _) ?_);try skip
 first
 | refine aJ (if_neg (show ¬ ((Value.builtin "range.__reversed__" == Value.none) = true) from Bool.false_ne_true)) ?_
 | (show wpAny _ _ (if (Value.builtin "range.__reversed__" == Value.none) = true then _ else _) _ _ _;rw [if_neg (show ¬ ((Value.builtin "range.__reversed__" == Value.none) = true) from Bool.false_ne_true)])
 refine wpAny_bind (wpAny_rule ?_);refine wpAny_bind (m := runValue (.call (.builtin "range.__reversed__") ⟨[.ref r],[]⟩)) (show wpAny _ _ (call (.builtin "range.__reversed__") [.ref r]) _ _ _ from kJ hr h0 hn ?_);first
 | exact wpAny_pure h
 | exact wpAny_bind (wpAny_pure (wpAny_pure h))
theorem kL {r : Addr} {n : Int} {t u v : Tok} {Q : cB} (hr : IsRange s.heap r 0 n 1 t u v) (h0 : 0 <= n) (hn : n < 2 ^ 60) (h : Q (.ref s.heap.objs.size) { s with heap := s.heap.push { cls := .type "range_iterator",data := .fields #[rawInt (n - 1),rawInt n,rawInt (-1)] } }) : wpAny (model prog w) A (call (.type "reversed") [.ref r]) Q E s := by
 refine callType_other (U := "range_iterator") (Q₁ := fun obj aO => obj = .ref s.heap.objs.size /\ aO = { s with heap := s.heap.push { cls := .type "range_iterator",data := .fields #[rawInt (n - 1),rawInt n,rawInt (-1)] } }) (by decide +kernel) F.create_reversed ⟨_,_,F.mro_reversed⟩ F.made_reversed oQ (F.typeCall_reversed_1 _) (kK hr h0 hn ⟨rfl,rfl⟩) ?_
 rintro obj aO ⟨rfl,rfl⟩
 exact ⟨⟨_,get?_push_size _ rfl,rfl⟩,h⟩
end
section
variable {G : Gl} {env : Env} {names : List Str} {n : Nat}
noncomputable abbrev WR := bI -> List MO -> (Int -> Int -> Int -> List MO -> Prop) -> Prop
inductive Ld (G : Gl) (α : List Addr) (s : Shared) (P : Int -> Int -> Int -> List MO -> Prop) (v' : Value) (s' : Shared) : Prop
 | mk (a b c : Int) (r : Addr) (t u v : Tok) (H' : List MO) (α' : List Addr) (p : P a b c H') (e : v' = .ref r) (h : IsRange s'.heap r a b c t u v) (l : a.natAbs < 2 ^ 40 /\ b.natAbs < 2 ^ 40 /\ (c = 1 \/ c = -1)) (i : cL G α' H' s') (t' : a5 G [] α s α' s') : Ld G α s P v' s'
noncomputable def tT (G : Gl) (env : Env) (names : List Str) (n : Nat) (e : Expr) (w : WR) : Prop :=
 ∀ (A : Around),Ok A n -> ∀ (E : cB) (s : Shared) (α : List Addr) (H : List MO) (ρ : bI) (P : Int -> Int -> Int -> List MO -> Prop),St G env names ρ α H s -> w ρ H P ->
   wpAny (model G.prog G.w) A (eval e env) (Ld G α s P) E s
noncomputable def tU (xs : List MV) : Option (Int × Int × Int) := match xs with
 | [.int b] => some (0,b,1)
 | [.int a,.int b] => some (a,b,1)
 | [.int a,.int b,.int c] => if c = -1 then some (a,b,c) else none
 | _ => none
inductive Ov : List MV -> Prop
 | a (x : Int) : Ov [.int x]
 | b (x y : Int) : Ov [.int x,.int y]
 | c (x y z : Int) : Ov [.int x,.int y,.int z]
theorem Ik {xs : List MV} {r : Int × Int × Int} (h : tU xs = some r) : Ov xs := by
 rcases xs with _ | ⟨x,xs⟩
 · exact bJ h
 cases x <;> first | exact bJ h | skip
 rcases xs with _ | ⟨y,xs⟩
 · exact .a _
 cases y <;> first | exact bJ h | skip
 rcases xs with _ | ⟨z,xs⟩
 · exact .b _ _
 cases z <;> first | exact bJ h | skip
 rcases xs with _ | _
 · exact .c _ _ _
 · exact bJ h
inductive E4 (P : Int -> Int -> Int -> List MO -> Prop) (xs : List MV) (H' : List MO) : Prop
 | mk (a b c : Int) (e : tU xs = some (a,b,c)) (ha : a.natAbs < 2 ^ 40) (hb : b.natAbs < 2 ^ 40) (p : P a b c H') : E4 P xs H'
noncomputable def dZ (wl : WL) : WR := fun ρ H P => wl ρ H (E4 P)
theorem R.call {x : Str} {np pos : Pos} {e : Expr} {es : List Expr} {wl : WL} (O : sK G) (hn : aP G env names n (.Name x np) (wK (.val (.type "range")))) (hl : d9 G env names n (e :: es) wl) (hs : starEach (e :: es) env = (false,eval e env) :: starEach es env) (hp : (backTo pos (starEach es env)).any (·.1) = false)
   (ht : eval (.Call (.Name x np) (e :: es) [] pos) env = (do callWith pos (<- eval (.Name x np) env) [] (backTo pos (starEach (e :: es) env)) (backToKw pos (keywordEach [] env)))) :
   tT G env names n (.Call (.Name x np) (e :: es) [] pos) (dZ wl) := by
 intro A ok E s α H ρ P st hw;refine Call_ (fM (hn A ok E s α H ρ (fun v H' => v = .val (.type "range") /\ H' = H) st ⟨rfl,rfl⟩) fun v H₁ aQ f' aO q3 bO aZ aU => ?_) ht;refine nQ ?_;intro bU;refine bP fun no => ?_;obtain ⟨rfl,rfl⟩ := q3;refine no ?_
 skip;subst bO
 refine fD bC.type hl ok (st.step aU aZ) hw hs hp fun xs vs s₂ bH bL hP dW bQ bF => ?_;obtain ⟨a,b,c,hr,ha,hb,hP⟩ := hP;have fin : ∀ {o : Obj} {tk : Nat} {t u v : Tok},o = { cls := .type "range",dict := none,data := .fields #[.int a t,.int b u,.int c v],slots := #[] } -> (c = 1 \/ c = -1) ->
     Ld G α s P (.ref s₂.heap.objs.size) { s₂ with heap := s₂.heap.push o,toks := tk } := by
   intro o tk t u v e hc;have kp : Kp s₂ { s₂ with heap := s₂.heap.push o,toks := tk } := ⟨fun _ _ e => get?_push_of_some _ e,rfl,rfl,rfl⟩;subst e;exact ⟨a,b,c,_,t,u,v,bH,bL,hP,rfl,get?_push_size _ rfl,⟨ha,hb,hc⟩,bQ.kp kp,(aU.trans bF).trans kp.step⟩
 cases Ik hr
 · cases hr;refine bP fun no => ?_;obtain ⟨v,r3⟩ := vK dW;obtain ⟨t⟩ := r3.int_inv;refine no ?_;exact call_range_1 (fin rfl (.inl rfl))
 · cases hr;obtain ⟨v,u,r3,r4⟩ := vL dW;obtain ⟨t⟩ := r3.int_inv;obtain ⟨u⟩ := r4.int_inv;exact call_range_2 (fin rfl (.inl rfl))
 · rename_i z;dsimp only [tU] at hr;by_cases hc : z = -1
   · replace hr := (if_pos hc) ▸ hr
     cases hr;obtain ⟨v,u,w,r3,r4,r5⟩ := M4 dW;obtain ⟨t⟩ := r3.int_inv;obtain ⟨u⟩ := r4.int_inv;obtain ⟨w⟩ := r5.int_inv;refine call_range_3 (by (simp [*];done)) (fin rfl (.inr hc)) (.inl (PyProof.noPylong_small (by (simp [*];done))))
   · replace hr := (if_neg hc) ▸ hr;exact nS hr
noncomputable def eT (a b c : Int) : List MV := rng a c (Builtin.Range.rangeSize a b c).toNat
theorem Ow {a : Int} {n : Nat} (h : a.natAbs < n) : -(n : Int) < a /\ a < n := by omega
theorem A3 {a b c : Int} (ha : a.natAbs < 2 ^ 40) (hb : b.natAbs < 2 ^ 40) (hc : c = 1 \/ c = -1) : 0 <= Builtin.Range.rangeSize a b c /\ Builtin.Range.rangeSize a b c < 2 ^ 42 := by
 unfold Builtin.Range.rangeSize;have ⟨a1,a2⟩ := Ow ha;have ⟨b1,b2⟩ := Ow hb;clear ha hb;rcases hc with rfl | rfl
 · simp only [show (1 : Int) > 0 by decide,if_true,Int.ediv_one];split <;> lia
 · simp only [show ¬ ((-1 : Int) > 0) by decide,if_false];have : ∀ x : Int,x / (- -1) = x := fun x => by simp
   refine aJ (this ..) ?_;split <;> lia
theorem sM {x : Int} (h : x.natAbs < 2 ^ 40) : -2 ^ 63 <= x /\ x < 2 ^ 63 := ⟨Int.le_trans (by decide) (Int.le_of_lt (Ow h).1),Int.lt_trans (Ow h).2 (by decide)⟩
theorem sO {a b c : Int} (ha : a.natAbs < 2 ^ 40) (hb : b.natAbs < 2 ^ 40) (hc : c = 1 \/ c = -1) : Builtin.Range.small a b c = true := by
 have h := A3 ha hb hc;unfold Builtin.Range.small;simp only [Builtin.Range.rangeFitsLong,Bool.and_eq_true,Bool.or_eq_true,decide_eq_true_eq,beq_iff_eq];rcases hc with rfl | rfl
 · simp only [show (1 : Int) > 0 by decide,if_true,decide_eq_true_eq,Bool.and_eq_true];exact ⟨⟨⟨⟨sM ha,sM hb⟩,by decide⟩,Int.le_trans (by decide) h.1,Int.lt_trans h.2 (by decide)⟩,.inr (aJ (show b + (1 - 1) = b from Int.add_zero b) (sM hb))⟩
 · simp only [show ¬ ((-1 : Int) > 0) by decide,if_false,decide_eq_true_eq,Bool.and_eq_true];exact ⟨⟨⟨⟨sM ha,sM hb⟩,by decide⟩,Int.le_trans (by decide) h.1,Int.lt_trans h.2 (by decide)⟩,.inr (aJ (show b + (-1 + 1) = b from Int.add_zero b) (sM hb))⟩
noncomputable def dJ (w : WR) : WI := fun ρ H P => w ρ H fun a b c H' => (eT a b c).length <= 1000000 /\ P (eT a b c) (fun _ => True) H'
theorem I.range {e : Expr} {w : WR} {tgt : Expr -> Prop} (h : tT G env names n e w) : k6 G env names n e tgt (dJ w) := by
 intro A ok E s α H ρ P st hw;refine wpAny_mono (h A ok E s α H ρ _ st hw) (fun v' aO r => ?_) kE;refine bP fun no => ?_;obtain ⟨a,b,c,r,t,u,v,H₁,aQ,⟨hl,hP⟩,rfl,hr,⟨ha,hb,hc⟩,aZ,aU⟩ := r;refine no ?_;refine wpAny_pyIter_range hr (sO ha hb hc) ?_;have hz := A3 ha hb hc;refine ⟨_,_,H₁,aQ,hP,le_trans hl (by decide),kO.back aU ⟨[aO.heap.objs.size],_,_,Ce.rng (a := a) (c := c) (m := (Builtin.Range.rangeSize a b c).toNat),?_,fun y hy => ?_,fun y hy => ?_⟩,aZ.kp (Kp.push _),aU.trans (Kp.push _).step⟩
 · have e1 : a + ((0 : Nat) : Int) * c = a := by simp
   skip
   refine aJ e1 (aJ (by lia : ((Builtin.Range.rangeSize a b c).toNat : Int) - ((0 : Nat) : Int) = Builtin.Range.rangeSize a b c) ?_);exact get?_push_size _ rfl
 · refine aJ (mem_singleton.mp hy) ?_;exact cQ aZ (a9 (le_refl _))
 · refine aJ (mem_singleton.mp hy) ?_;exact a9 (le_refl _)
noncomputable def Kc (w : WR) : WI := fun ρ H P => w ρ H fun a b c H' => a = 0 /\ c = 1 /\ 0 <= b /\ b <= 1000000 /\ P (rng (b - 1) (-1) b.toNat) (fun _ => True) H'
theorem I.rev {x : Str} {np pos : Pos} {e : Expr} {w : WR} {tgt : Expr -> Prop} (hn : aP G env names n (.Name x np) (wK (.val (.type "reversed")))) (h : tT G env names n e w) (hs : starEach [e] env = [(false,eval e env)])
   (ht : eval (.Call (.Name x np) [e] [] pos) env = (do callWith pos (<- eval (.Name x np) env) [] (backTo pos (starEach [e] env)) (backToKw pos (keywordEach [] env)))) :
   k6 G env names n (.Call (.Name x np) [e] [] pos) tgt (Kc w) := by
 intro A ok E s α H ρ P st hw;refine Call_ (fM (hn A ok E s α H ρ (fun v H' => v = .val (.type "reversed") /\ H' = H) st ⟨rfl,rfl⟩) fun v H₁ aQ f' aO q3 bO aZ aU => ?_) ht;refine nQ ?_;intro bU;refine bP fun no => ?_;obtain ⟨rfl,rfl⟩ := q3;refine no ?_
 skip;subst bO
 refine aJ hs ?_;refine callWith_of (P := fun h => ∀ b o,G.h₀.get? b = some o -> h.get? b = some o) rfl (fun h X => bC.type (G := G) h X) ?_;refine Calls.evalArgs_plain (Calls.spliced_cons (wpAny_mono (h A ok E aO aQ H₁ ρ _ (st.step aU aZ) hw) (fun v' s₂ r => Calls.spliced_nil ?_) kE));refine bP fun no => ?_;obtain ⟨a,b,c,r,t,u,v,bH,bL,⟨rfl,rfl,h0,hl,hP⟩,rfl,hr,⟨ha,hb,hc⟩,bQ,bF⟩ := r;refine no ?_;refine ⟨bQ.base,kL hr h0 (by lia) ?_⟩;generalize oJ : ({ s₂ with heap := s₂.heap.push { cls := .type "range_iterator",data := .fields #[rawInt (b - 1),rawInt b,rawInt (-1)] } } : Shared) = s₃;have kp : Kp s₂ s₃ := by refine cE oJ ?_;exact Kp.push _
 have g : IsRangeIter s₃.heap s₂.heap.objs.size (b - 1) b (-1) := by refine cE oJ ?_;exact get?_push_size _ rfl
 refine wpAny_pyIter_rangeiter g ?_;have cV := aU.trans bF;refine ⟨_,_,bH,bL,hP,by (have : (rng (b - 1) (-1) b.toNat).length = b.toNat := by simp [rng]);refine aJ this ?_;exact le_trans (show b.toNat <= 1000000 by (simp [*];done)) (show 1000000 <= sizeLine by decide),kO.back (s' := s₃) cV ⟨[s₂.heap.objs.size],_,_,Ce.rng (a := b - 1) (c := -1) (m := b.toNat),?_,fun y hy => ?_,fun y hy => ?_⟩,bQ.kp kp,cV.trans kp.step⟩
 · skip
   refine aJ (by simp : b - 1 + ((0 : Nat) : Int) * (-1) = b - 1) (aJ (by lia : (b.toNat : Int) - ((0 : Nat) : Int) = b) ?_);exact g
 · refine aJ (mem_singleton.mp hy) ?_;exact cQ bQ (a9 (le_refl _))
 · refine aJ (mem_singleton.mp hy) ?_;exact a9 (le_refl _)
end
noncomputable def jT (scope : Scope) (cells : List (Str × Addr)) : List (Str × Addr) := ((scope.names.filter (·.2 == .free)).map fun x => (x.1,(cells.lookup x.1).getD 0)).reverse
theorem Il (env : Env) : ∀ (l : List (Str × NameKind)) (acc : List (Str × Addr)),(∀ x ∈ l,x.2 = .free -> (env.cells.lookup x.1).isSome = true) ->
   (forIn l acc fun x r => (if (x.2 == NameKind.free) = true then (do let c <- cellOf env x.1;pure (ForInStep.yield ((x.1,c) :: r))) else pure (ForInStep.yield r)) : Sem (List (Str × Addr))) =
     pure (((l.filter (·.2 == .free)).map fun x => (x.1,(env.cells.lookup x.1).getD 0)).reverse ++ acc) := by
 intro l;induction l with
 | nil =>
   intro acc _;rfl
 | cons pr0 l ih =>
   obtain ⟨x,k⟩ := pr0;intro acc h;refine aJ (forIn_cons ..) ?_;by_cases hk : (k == NameKind.free) = true
   · have hs := h (x,k) mem_cons_self (by simpa using hk);refine bP fun no => ?_;obtain ⟨c,hc⟩ := Option.isSome_iff_exists.mp hs;refine no ?_;have hc' : env.cells.lookup x = some c := hc;simp only [hk,if_true];have hco : cellOf env x = pure c := by unfold cellOf;exact aJ hc' rfl
     refine aJ hco ?_;simp only [pure_bind];refine aJ (ih _ fun y hy => h y (mem_cons_of_mem _ ‹_›)) ?_;simp [filter_cons,hk,hc']
   · simp only [hk,Bool.false_eq_true,if_false,pure_bind];refine aJ (ih _ fun y hy => h y (mem_cons_of_mem _ ‹_›)) ?_;simp [filter_cons,hk]
theorem A4 (scope : Scope) (env : Env) (h : ∀ x ∈ scope.names,x.2 = .free -> (env.cells.lookup x.1).isSome = true) : closureFor scope env = pure (jT scope env.cells) := by
 unfold closureFor;have := Il env scope.names [] h;rw [append_nil] at this;show (forIn scope.names [] _ >>= fun r => pure r) = _;rw [bind_pure];refine Eq.trans ?_ this;congr 1
noncomputable def iM (fn sn : List (Str × NameKind)) (names : List Str) : List Str -> List (Option Nat) -> Bool
 | x :: xs,some j :: r => names[j]? == some x && fn.lookup x == some .cell && sn.lookup x == some .free && iM fn sn names xs r
 | _ :: xs,none :: r => iM fn sn names xs r
 | _,[] => true
 | [],_ => false
theorem xY {fn sn : List (Str × NameKind)} {names : List Str} : ∀ x xs j r,iM fn sn names (x :: xs) (some j :: r) = (names[j]? == some x && fn.lookup x == some .cell && sn.lookup x == some .free && iM fn sn names xs r) := fun _ _ _ _ => rfl
noncomputable def pT : List Str -> Bool
 | [] => true
 | x :: xs => !xs.contains x && pT xs
theorem aT : ∀ {l : List Str},pT l = true -> l.Nodup := by
 intro l;induction l with
 | nil =>
   intro _;exact nodup_nil
 | cons x xs ih =>
   intro h
   skip
   obtain ⟨a,b⟩ := Bool.and_eq_true_iff.mp h;exact nodup_cons.mpr ⟨fun q => by simp [q] at a,ih b⟩
noncomputable def sP (fn : List (Str × NameKind)) (scope : Scope) (names ns : List Str) (cap : List (Option Nat)) : Bool :=
 scope.names.all (fun x => x.2 != .free || fn.lookup x.1 == some .cell) && pT ((scope.names.filter (·.2 == .free)).map (·.1)) && scope.names.all (·.2 != .cell) &&
 scope.names.all (fun x => x.2 != .local || scope.names.lookup x.1 == some .local) && pT ns && iM fn scope.names names ns cap
theorem pU {env : Env} (x : Str) : ∀ {l : List (Str × NameKind)},l.lookup x = some .free -> (l.map fun (n,k) => if (k == NameKind.free && env.scope.kind == .function && env.kindOf n == some .cell) then (n,NameKind.cell) else (n,k)).lookup x = some .cell \/ (l.map fun (n,k) => if (k == NameKind.free && env.scope.kind == .function && env.kindOf n == some .cell) then (n,NameKind.cell) else (n,k)).lookup x = some .free := by
 intro l;induction l with
 | nil => intro h;exact nS h
 | cons p r ih =>
   intro h;cases p with | mk n k =>
   show List.lookup x ((if (k == NameKind.free && env.scope.kind == .function && env.kindOf n == some .cell) = true then (n,NameKind.cell) else (n,k)) :: _) = _ \/ List.lookup x ((if (k == NameKind.free && env.scope.kind == .function && env.kindOf n == some .cell) = true then (n,NameKind.cell) else (n,k)) :: _) = _;cases hx : x == n with
   | true =>
     simp only [lookup_cons,hx] at h
     (injection h with h;subst h)
     split
     · left;simp [lookup_cons,hx]
     · right;simp [lookup_cons,hx]
   | false =>
     simp only [lookup_cons,hx] at h;split
     · simp only [lookup_cons,hx];exact ih h
     · simp only [lookup_cons,hx];exact ih h
theorem rP {scope : Scope} {cells : List (Str × Addr)} {x : Str} (hnd : ((scope.names.filter (·.2 == .free)).map (·.1)).Nodup) (h : scope.names.lookup x = some .free) : (jT scope cells).lookup x = some ((cells.lookup x).getD 0) := by
 apply lookup_of_mem_nodup
 · skip
   refine aJ map_reverse (aJ map_map ?_);exact (reverse_perm _).nodup_iff.mpr hnd
 · unfold jT;rw [mem_reverse];exact mem_map.mpr ⟨(x,.free),mem_filter.mpr ⟨cI h,rfl⟩,rfl⟩
theorem vU {env : Env} {fn sn : List (Str × NameKind)} {names : List Str} {cl : List (Str × Addr)} {rs : List (Str × NameKind)} (hf : ∀ x,fn.lookup x = some .cell -> env.kindOf x ≠ some .local) (hs : ∀ x,sn.lookup x = some .free -> fn.lookup x = some .cell -> (rs.lookup x = some .cell \/ rs.lookup x = some .free) /\ ∃ c,cl.lookup x = some c /\ env.cells.lookup x = some c) : ∀ {ns : List Str} {cap : List (Option Nat)},iM fn sn names ns cap = true -> pO env rs names cl ns cap := by
 intro ns;induction ns with
 | nil =>
   intro cap h;cases cap with
   | nil => trivial
   | cons _ _ => exact Bool.noConfusion h
 | cons x xs ih =>
   intro cap h;cases cap with
   | nil => trivial
   | cons o r => cases o with
     | none => exact ih (cap := r) h
     | some j =>
       rw [xY] at h;simp only [Bool.and_eq_true,beq_iff_eq] at h;refine bP fun no => ?_;obtain ⟨⟨⟨h1,h2⟩,h3⟩,h4⟩ := h;obtain ⟨a,b⟩ := hs x h3 h2;refine no ?_;exact ⟨⟨h1,hf x h2,a,b⟩,ih h4⟩
theorem dP.of {fd : FuncData} {L a : Addr} {names : List Str} {scope : Scope} {ns : List Str} {cap : List (Option Nat)} {t : Tg} {target : Expr} (hnd : pT ((cellsFrom 0 fd.scope.names []).map (·.1)) = true) (hk : scope.kind = .function) (h : sP fd.scope.names scope names ns cap = true) (htg : t.Loc (scope.names.lookup ·) ns target := by constructor <;> rfl) : dP (callEnvC fd L a) names scope (jT scope (callEnvC fd L a).cells) ns cap t target := by
 unfold sP at h;simp only [Bool.and_eq_true] at h;refine bP fun no => ?_;obtain ⟨⟨⟨⟨⟨h1,h2⟩,h3⟩,h4⟩,h5⟩,h6⟩ := h;refine no ?_;rw [all_eq_true] at h1 h3 h4;have hcell : ∀ x,fd.scope.names.lookup x = some .cell -> ∃ c,(callEnvC fd L a).cells.lookup x = some c := fun x hx => Option.isSome_iff_exists.mp (cellsFrom_some fd.scope.names (L + 1) [] (.inl hx));have hfree : ∀ x ∈ scope.names,x.2 = .free -> fd.scope.names.lookup x.1 = some .cell := fun x hx hf => by
   have := h1 x hx;simp only [Bool.or_eq_true,bne_iff_ne,ne_eq,beq_iff_eq] at this;exact this.resolve_left fun q => q hf
 have hn2 := aT h2;have hsub : ∀ p ∈ jT scope (callEnvC fd L a).cells,(callEnvC fd L a).cells.lookup p.1 = some p.2 := fun p hp => by
   unfold jT at hp;rw [mem_reverse] at hp;refine bP fun no => ?_;obtain ⟨x,hx,rfl⟩ := mem_map.mp hp;obtain ⟨hx1,hx2⟩ := mem_filter.mp hx;obtain ⟨c,hc⟩ := hcell x.1 (hfree x hx1 (by simpa using hx2));refine no ?_;show (callEnvC fd L a).cells.lookup x.1 = some (((callEnvC fd L a).cells.lookup x.1).getD 0);refine aJ hc ?_;rfl
 refine ⟨A4 _ _ fun x hx hf => ?_,fun p hp => cI (hsub p hp),?_,fun x hx => ?_,hk,fun x hx hl => ?_,aT h5,?_,fun C => ?_⟩
 · obtain ⟨c,hc⟩ := hcell x.1 (hfree x hx hf);refine aJ hc ?_;rfl
 · unfold jT;refine aJ map_reverse (aJ map_map ?_);exact (reverse_perm _).nodup_iff.mpr hn2
 · simpa using h3 x hx
 · have := h4 x hx;simp only [Bool.or_eq_true,bne_iff_ne,ne_eq,beq_iff_eq] at this;exact this.resolve_left fun q => q hl
 · refine vU (fn := fd.scope.names) (sn := scope.names) (fun x hx q => ?_) (fun x hs hf => ⟨pU x hs,?_⟩) h6
   · have : (callEnvC fd L a).kindOf x = some .cell := hx
     replace q := this ▸ q;cases q
   · obtain ⟨c,hc⟩ := hcell x hf;refine ⟨c,?_,hc⟩;refine aJ (rP hn2 hs) (aJ hc ?_);rfl
 · cases htg with
   | nm h l => exact .nm h (lookup_relabel_local l)
   | tp h l h' l' => exact .tp h (lookup_relabel_local l) h' (lookup_relabel_local l')
section
variable {G : Gl} {env : Env} {names : List Str} {n : Nat}
noncomputable abbrev WF := bI -> List MO -> Str -> (Str -> List MO -> Prop) -> Prop
noncomputable def j4 (G : Gl) (env : Env) (names : List Str) (n : Nat) (es : List Expr) (w : WF) : Prop :=
 ∀ (A : Around),Ok A n -> ∀ (E : cB) (s : Shared) (α : List Addr) (H : List MO) (ρ : bI) (acc : Str) (P : cM),St G env names ρ α H s -> w ρ H acc (fun x H' => x.length <= sizeLine /\ P (.str x) H') ->
   wpAny (model G.prog G.w) A (joinParts acc (evalEach es env)) (d2 G α s P) E s
noncomputable def kP : WF := fun _ H acc P => P acc H
noncomputable def d0 (x : Str) (r : WF) : WF := fun ρ H acc P => acc.length + x.length <= sizeLine /\ r ρ H (acc ++ x) P
noncomputable def kQ (w : WE) (r : WF) : WF := fun ρ H acc P => w ρ H fun v H' => Is .str v fun x => acc.length + x.length <= sizeLine /\ r ρ H' (acc ++ x) P
theorem Fs.nil : j4 G env names n [] kP := by
 intro A ok E s α H ρ acc P st hw;exact joinParts_nil (d2.of_kp st.inv (Kp.tok _) (VR.str hw.1) hw.2) hw.1
theorem Fs.text {x : Str} {kd : _} {pos : Pos} {es : List Expr} {r : WF} (hl : x.length <= sizeLine) (h : j4 G env names n es r) : j4 G env names n (.Constant (.str x) kd pos :: es) (d0 x r) := by
 intro A ok E s α H ρ acc P st hw
 skip
 refine joinParts_cons (wpAny_Constant_str ⟨by refine aJ (Str.length_append ..) ?_;exact hw.1,?_⟩);have kp : Kp s { s with toks := s.toks + 1 } := Kp.tok _;exact wpAny_mono (h A ok E _ α H ρ _ P (st.step kp.step (st.inv.kp kp)) hw.2) (fun v s' q => q.trans kp.step) kE
theorem Fs.val {e : Expr} {pos : Pos} {es : List Expr} {w : WE} {r : WF} (he : aP G env names n e w) (h : j4 G env names n es r) : j4 G env names n (.FormattedValue e (-1) none pos :: es) (kQ w r) := by
 intro A ok E s α H ρ acc P st hw
 skip
 refine joinParts_cons (FormattedValue_plain (fM (he A ok E s α H ρ _ st hw) fun v H₁ aQ v' aO q3 bO aZ aU => ?_));refine bP fun no => ?_;obtain ⟨x,rfl,hl,cX⟩ := q3;obtain ⟨t⟩ := bO.str_inv;refine no ?_;refine formatField_str (fun t' tk => ⟨by refine aJ (Str.length_append ..) ?_;exact hl,?_⟩) bO.str_len;have kp : Kp aO { aO with toks := tk } := Kp.tok _;have bF := aU.trans kp.step;exact wpAny_mono (h A ok E _ aQ H₁ ρ _ P (st.step bF (aZ.kp kp)) cX) (fun v s' q => q.trans bF) kE
noncomputable def kR (r : WF) : WE := fun ρ H P => r ρ H Str.empty fun x H' => x.length <= sizeLine /\ P (.str x) H'
theorem E.fstr {v₁ L9 : Expr} {rest : List Expr} {pos : Pos} {r : WF} (h : j4 G env names n (v₁ :: L9 :: rest) r) : aP G env names n (.JoinedStr (v₁ :: L9 :: rest) pos) (kR r) := by
 intro A ok E s α H ρ P st hw;exact JoinedStr_many (h A ok E s α H ρ Str.empty P st hw)
noncomputable def tV (w : WE) (lo hi st : WP) : WE := fun ρ H P => w ρ H fun v H₁ => lo ρ H₁ fun l bH => hi ρ bH fun u eQ => st ρ eQ fun k sI => (∃ j,v = .ref j) /\ Pu v l u k sI P
theorem E.sliceStep {x st : Expr} {lo hi : Option Expr} {p pos : Pos} {w : WE} {wl wh ws : WP} (h : aP G env names n x w) (hl : kZ G env names n lo wl) (hh : kZ G env names n hi wh) (hst : kZ G env names n (some st) ws) (ht : ∀ o r,letTemporaryGo x o r = pure ()) : aP G env names n (.Subscript x (.Slice lo hi (some st) p) pos) (tV w wl wh ws) := by
 intro A ok E s α H ρ P stt hw;refine wpAny_Subscript_Slice_step list_getitem_lookup (fM (h A ok E s α H ρ _ stt hw) fun v H₁ aQ o aO cX bO aZ aU => ?_) ht;refine wpAny_Slice (Mz (hl A ok E aO aQ H₁ ρ _ (stt.step aU aZ) cX) fun l bH bL vl s₂ rD q4 bQ bF => ?_);obtain rfl := q4;refine Mz (hh A ok E s₂ bL bH ρ _ ((stt.step aU aZ).step bF bQ) rD) fun u eQ dM vu s₃ dL q4 eN cV => ?_;obtain rfl := q4;refine Mz (hst A ok E s₃ dM eQ ρ _ (((stt.step aU aZ).step bF bQ).step cV eN) dL) fun k sI kW vk bY q3 q4 fU iH => ?_;obtain ⟨⟨j,rfl⟩,Hr⟩ := q3;obtain rfl := q4
 skip
 refine bP fun no => ?_;obtain ⟨hk0,xs,e,hsz,hP⟩ := Hr;have kp := Kp.push (s := bY) { cls := .type "slice",data := .fields #[partValue l,partValue u,partValue k] };have xI := fU.kp kp;obtain ⟨a,vs,m,h1,g1,q1⟩ := xI.list ((((bO.step bF).step cV).step iH).kp kp) e;refine no ?_;have ll := q1.length;dsimp only [length_toList] at ll;refine ⟨⟨_,g1,rfl⟩,?_⟩;refine wpAny_mono (wpAny_getItem_list_slice (Q := d2 G kW { bY with heap := bY.heap.push { cls := .type "slice",data := .fields #[partValue l,partValue u,partValue k] } } P) (lo := l.map (·.1)) (hi := u.map (·.1)) (st := k.map (·.1)) (dE g1) (⟨_,get?_push_size _ rfl,rfl,rfl⟩ : (bY.heap.push { cls := .type "slice",data := .fields #[partValue l,partValue u,partValue k] }).IsSliceOf bY.heap.objs.size (partValue l) (partValue u) (partValue k)) (lP _) (lP _) (lP _) hk0 ?_ (by lia)) (fun v s' q => (q.trans kp.step).trans (((aU.trans bF).trans cV).trans iH)) kE;refine d2.new (o := .list (sL xs (l.map (·.1)) (u.map (·.1)) (k.map (·.1)))) xI (Kp.push _) (a9 (le_refl _)) ⟨K1 (le_trans (tK ..) hsz),_,_,get?_push_size _ rfl,?_⟩ hP;exact mQ _ _ _ (q1.kp (Kp.push _))
end
section
variable {G : Gl} {env : Env} {names : List Str} {n : Nat}
inductive M8 (P : cM) (vs : List MV) (bH : List MO) : Prop
 | mk (i j : Nat) (xs ys : List MV) (xi yi : List Int) (e : vs = [.ref i,.ref j]) (n : i ≠ j) (hi : bH[i]? = some (.list xs)) (hj : bH[j]? = some (.list ys)) (nx : oM xs = some xi) (ny : oM ys = some yi) (lx : xs.length <= 1000) (ly : ys.length <= 1000)
   (p : P (.ref bH.length) (bH ++ [.list ((xi.zip yi).map fun p => .int (p.2 - p.1))])) : M8 P vs bH
noncomputable def tW (wl : WL) : WE := fun ρ H P => wl ρ H (M8 P)
theorem E5 : ∀ {xs : List MV} {ys : List Int},oM xs = some ys -> xs.length = ys.length := by
 intro xs;induction xs with
 | nil =>
   intro ys e
   (injection e with e;subst e);rfl
 | cons x xs ih =>
   intro ys e;cases x <;> first | exact nS e | skip
   rename_i x
   replace e : (oM xs).map (x :: ·) = some ys := e
   cases e2 : oM xs with
   | none => rw [e2] at e;exact nS e
   | some zs => rw [e2] at e;(injection e with e;subst e);simp [ih e2]
theorem M9 {a b : Nat} (h : a < b \/ b < a) : @Ne Addr a b := fun e => by
 have e' : (a : Nat) = b := e
 lia
structure Kd (G : Gl) (b : Heap) (z TI TO i1 i2 l1 l2 C D : Addr) (xs ys : Array Value) (k : Nat) (out : Array Value) (h : Heap) : Prop where
 keep : ∀ c o,c ≠ z -> c ≠ TO -> c ≠ i1 -> c ≠ i2 -> c ≠ C -> c ≠ D -> b.get? c = some o -> h.get? c = some o
 hz : IsZip h z TI TO .none
 hTI : IsPair h TI (.ref i1) (.ref i2)
 hTO : ∃ a b,IsPair h TO a b
 h1 : h.IsListIter i1 l1 k
 h2 : h.IsListIter i2 l2 k
 hl1 : h.IsList l1 xs
 hl2 : h.IsList l2 ys
 ns : ∃ m,h.Ns C m
 out : h.PlainList D out
inductive Na (Z : Nat -> Array Value -> Heap -> Prop) (N : Nat) (xi yi : List Int) (s : Shared) (m : Nat) (s' : Shared) : Prop
 | mk (k : Nat) (out : Array Value) (outs : List (Int × Tok)) (z : Z k out s'.heap) (l : k <= N) (e : m = N - k + 1) (o : out.toList = outs.map (fun p => Value.int p.1 p.2)) (o' : outs.map (·.1) = ((xi.zip yi).take k).map (fun p => p.2 - p.1)) (hg : s'.gens = s.gens) (hd : s'.drawn = s.drawn) (ho : s'.os = s.os) : Na Z N xi yi s m s'
theorem xK {c b i : Nat} (h : c < b) : @Ne Addr c (b + i) := ne_of_lt (lt_of_lt_of_le h (le_add_right _ _))
theorem Q7 {c b i : Nat} (h : c < b) : @Ne Addr (b + i) c := (xK h).symm
theorem A5 {b i j : Nat} (h : i ≠ j) : @Ne Addr (b + i) (b + j) := fun e => h (Nat.add_left_cancel e)
theorem aD {c b d k : Nat} (e : d = b + k) (h : c < b) : @Ne Addr c d := e ▸ xK h
theorem aB {b d i k : Nat} (e : d = b + k) (h : i ≠ k) : @Ne Addr (b + i) d := e ▸ A5 h
theorem aC {b d i k : Nat} (e : d = b + k) (h : k ≠ i) : @Ne Addr d (b + i) := e ▸ A5 h
theorem aF {b c d k m : Nat} (e : c = b + k) (f : d = b + m) (h : k ≠ m) : @Ne Addr c d := e ▸ f ▸ A5 h
theorem aG {b d k : Nat} (e : d = b + k) : b <= d := e ▸ le_add_right _ _
theorem Cn {elt target iter : Expr} {scope : Scope} {pos pos' : Pos} {cl : List (Str × Addr)} {a b : Str} {pa pb qa qb ta pe zp zpos : Pos} {kt : Nat} {e1 e2 : Expr} {cap : List (Option Nat)} {wl : WL} (ht : target = .Tuple [.Name a ta,.Name b pb] kt pe) (hel : elt = .BinOp (.Name b qb) .Sub (.Name a qa) pa) (rI : iter = .Call (.Name "zip" zp) [e1,e2] [] zpos) (K : dP env names scope cl [a,b] cap (.tp [0,1]) target) (hn : aP G env names n (.Name "zip" zp) (wK (.val (.type "zip")))) (hl : d9 G env names n [e1,e2] wl) (hs1 : starEach [e1,e2] env = (false,eval e1 env) :: starEach [e2] env) (hp : (backTo zpos (starEach [e2] env)).any (·.1) = false)
   (hcall : eval (.Call (.Name "zip" zp) [e1,e2] [] zpos) env = (do callWith zpos (<- eval (.Name "zip" zp) env) [] (backTo zpos (starEach [e1,e2] env)) (backToKw zpos (keywordEach [] env))))
   (hs : ∀ x,foldedSetIterable iter env x = pure x) (ha : (a == ("__debug__" : Str)) = false) (hb : (b == ("__debug__" : Str)) = false) (hcl0 : cl = []) (hab : a ≠ b)
   {A : Around} (ok : Ok A n) {E : cB} {s : Shared} {α : List Addr} {H : List MO} {ρ : bI} {P : cM} {use : Option (Value -> Sem Unit)} {Q : cB} (st : St G env names ρ α H s) (hw : tW wl ρ H P)
   (hq : ∀ C a i α' H' s',P (.ref i) H' -> α'[i]? = some a -> cL G α' H' s' -> a5 G [C] α s α' s' -> s.heap.get? C = none -> (∃ m,s'.heap.Ns C m) -> C ∉ α' -> C ∉ G.tb -> compPost (model G.prog G.w) A E use Q (.ref a) C (.ok .next) s') :
   wpAny (model G.prog G.w) A (comprehension (.ListComp elt [⟨target,iter,[],0⟩] scope pos) scope env pos' (newList []) false (eval iter env) use) Q E s := by
 refine nV (model G.prog G.w) ?_;intro xG;subst ht hel rI;refine wpAny_comprehension_free rfl hs K.clos K.kind K.loc ?_;refine nQ ?_;intro B3;refine Call_ (fM (hn A ok E s α H ρ (fun v H' => v = .val (.type "zip") /\ H' = H) st ⟨rfl,rfl⟩) fun v H₁ aQ f' aO q3 bO aZ aU => ?_) hcall;refine bP fun no => ?_;obtain ⟨rfl,rfl⟩ := q3;refine no ?_
 skip;subst bO
 refine fD (first := []) bC.type hl ok (st.step aU aZ) hw hs1 hp fun zs vs s₂ bH bL hP dW bQ bF => ?_;obtain ⟨i,j,xs,ys,xi,yi,rfl,hij,hi,hj,nx,ny,lx,ly,hP⟩ := hP;obtain ⟨va,vb,ra,rb⟩ := vL dW;obtain ⟨l1,xa,m1,hα1,g1,q1⟩ := bQ.list ra hi;obtain ⟨l2,ya,m2,hα2,g2,q2⟩ := bQ.list rb hj;have t12 := aU.trans bF;refine call_zip_2 ⟨_,g1,rfl,_,rfl⟩ ⟨_,g2,rfl,_,rfl⟩ fun vA z1 z2 z3 z4 z5 z6 z7 => ?_;refine wpAny_pyIter_zip z1 ?_;refine nQ ?_;intro mO;refine wpAny_newList ?_;generalize hD : vA.objs.size = D;have hDs : D = s₂.heap.objs.size + 5 := by rw [<- hD];exact z6
 refine wpAny_newFunctionEnv K.cell (by intro y hy;simp at hy) (fun iG hns hsb => ?_) K.kind;generalize hC : (vA.push { cls := .type "list",data := .seq ([] : List Value).toArray }).objs.size = C at hns hsb ⊢;have hCs : C = s₂.heap.objs.size + 6 := by rw [<- hC,Heap.size_push,z6]
 have hk4 : ∀ c o,vA.get? c = some o -> iG.get? c = some o := fun c o e => by
   have hlt := lt_size e;refine hsb.extBut c o (M9 (.inl (by rw [z6] at hlt;rw [hCs];exact Nat.lt_succ_of_lt hlt))) (get?_push_of_some _ (get?_push_of_some _ e))
 have hk0 : ∀ c o,s₂.heap.get? c = some o -> iG.get? c = some o := fun c o e => hk4 c o (z7 c o e);have lt2 : ∀ {c : Nat} {o},s₂.heap.get? c = some o -> c < s₂.heap.objs.size := fun e => lt_size e;have a1 : @LT.lt Nat _ l1 s₂.heap.objs.size := lt_size g1;have a2 : @LT.lt Nat _ l2 s₂.heap.objs.size := lt_size g2;have Dp : ZipApart (s₂.heap.objs.size + 4) (s₂.heap.objs.size + 2) (s₂.heap.objs.size + 3) s₂.heap.objs.size (s₂.heap.objs.size + 1) l1 l2 := by
   constructor <;> first | exact (fun e => hij (mP bQ.nodup hα1 (e ▸ hα2)) : l1 ≠ l2) | exact A5 (by decide) | exact Q7 a1 | exact Q7 a2 | exact A5 (j := 0) (by decide) | exact A5 (i := 0) (by decide) | exact ne_of_gt a1 | exact ne_of_gt a2 | exact ne_of_lt a1 | exact ne_of_lt a2 | exact xK a1 | exact xK a2
 have Z0 : Kd G iG (s₂.heap.objs.size + 4) (s₂.heap.objs.size + 2) (s₂.heap.objs.size + 3) s₂.heap.objs.size (s₂.heap.objs.size + 1) l1 l2 C D xa ya 0 #[] iG :=
   ⟨fun _ _ _ _ _ _ _ _ e => e,hk4 _ _ z1,hk4 _ _ z2,⟨_,_,hk4 _ _ z3⟩,z4.at fun o e => hk4 _ o e,z5.at fun o e => hk4 _ o e,⟨_,hk0 _ _ g1,rfl,_,rfl⟩,⟨_,hk0 _ _ g2,rfl,_,rfl⟩,⟨_,(by simpa using hns : iG.Ns C fun _ => none)⟩,(⟨0,hsb.extBut D _ (aF hDs hCs (by decide)) (get?_push_of_some _ (by refine cE hD ?_;exact get?_push_size _ rfl))⟩ : iG.PlainList D #[])⟩
 refine bP fun no => ?_;obtain ⟨pl,ex,ex'⟩ := mZ nx q1;obtain ⟨ql,ey,ey'⟩ := mZ ny q2;refine no ?_;have lenx : xa.size = pl.length := by refine cE length_toList (aJ ex ?_);exact length_map ..
 have leny : ya.size = ql.length := by refine cE length_toList (aJ ey ?_);exact length_map ..
 have lxi : xi.length = pl.length := by refine cE ex' ?_;exact length_map ..
 have lyi : yi.length = ql.length := by refine cE ey' ?_;exact length_map ..
 have lpx : pl.length <= 1000 := by refine cE lxi (cE (E5 nx) ?_);exact lx
 generalize hN : min pl.length ql.length = N;generalize hcenv : compEnvC scope cl C env = cenv;have hcl : cenv.locals = C := by refine cE hcenv ?_;rfl
 have hck : cenv.scope.kind = .function := by refine cE hcenv ?_;exact K.kind
 have hkc : (cenv.scope.kind == .class || (cenv.scope.kind == .module && cenv.locals != cenv.globals)) = false := by refine aJ hck ?_;rfl
 obtain ⟨ka0,ka,kb0,kb⟩ : _ /\ cenv.kindOf a = some .local /\ _ /\ cenv.kindOf b = some .local := by subst hcenv;cases K.tg C with | tp h l h' l' => exact ⟨h,l,h',l'⟩
 show codeAny (model G.prog G.w) A (.compStart (.ListComp (.BinOp (.Name b qb) .Sub (.Name a qa) pa) [⟨.Tuple [.Name a ta,.Name b pb] kt pe,.Call (.Name "zip" zp) [e1,e2] [] zpos,[],0⟩] scope pos) 0 (.ref (s₂.heap.objs.size + 4)) (.ref D) (compEnvC scope cl C env)) (compPost (model G.prog G.w) A E use Q (.ref D) C) _;refine aJ hcenv ?_;have loop : ∀ fT : Shared,fT.heap = iG -> fT.gens = s₂.gens -> fT.drawn = s₂.drawn -> fT.os = s₂.os -> codeAny (model G.prog G.w) A (.compLoop (.ListComp (.BinOp (.Name b qb) .Sub (.Name a qa) pa) [⟨.Tuple [.Name a ta,.Name b pb] kt pe,.Call (.Name "zip" zp) [e1,e2] [] zpos,[],0⟩] scope pos) 0 (.ref (s₂.heap.objs.size + 4)) (.ref D) cenv) (compPost (model G.prog G.w) A E use Q (.ref D) C) fT := by
   intro fT hh5 hg5 hd5 ho5;refine fP (Na (Kd G iG (s₂.heap.objs.size + 4) (s₂.heap.objs.size + 2) (s₂.heap.objs.size + 3) s₂.heap.objs.size (s₂.heap.objs.size + 1) l1 l2 C D xa ya) N xi yi s₂) (fun m fG I' => ?_) (N + 1)
     ⟨0,#[],[],hh5 ▸ Z0,zero_le _,by first | rfl | exact le_refl _ | lia,by simp,by simp,hg5,hd5,ho5⟩
   obtain ⟨k,out,outs,Z,hk,rfl,eo,eo',hg,hd,ho⟩ := I';obtain ⟨ta',tb',hTO⟩ := Z.hTO;by_cases hkN : k = N
   · subst hkN;have hend : xa[k]? = none \/ ya[k]? = none := by
       rcases le_total pl.length ql.length with h | h
       · left;exact Array.getElem?_eq_none (by refine aJ lenx (cE hN (aJ (min_eq_left h) ?_));exact le_refl _)
       · right;exact Array.getElem?_eq_none (by refine aJ leny (cE hN (aJ (min_eq_right h) ?_));exact le_refl _)
     refine wpAny_pyNext_zip_end ok.1 Dp Z.hz Z.hTI hTO Z.h1 Z.h2 Z.hl1 Z.hl2 hend fun J0 hk7 => ?_;have kp : Kp s₂ { fG with heap := J0 } := ⟨fun c o e => by
         have hc : @LT.lt Nat _ c s₂.heap.objs.size := lt_size e;refine hk7 c o (xK ‹_›) (xK ‹_›) (ne_of_lt ‹_›) (xK ‹_›) ?_;exact Z.keep c o (xK ‹_›) (xK ‹_›) (ne_of_lt ‹_›) (xK ‹_›) (aD hCs ‹_›) (aD hDs ‹_›) (hk0 c o e),hd,ho,hg⟩
     have hCf : s₂.heap.get? C = none := a9 (aG hCs);obtain ⟨nD,gD8⟩ := (Z.out.at fun o e => hk7 D o (aC hDs (by decide)) (aC hDs (by decide)) (aC (i := 0) hDs (by decide)) (aC hDs (by decide)) e : J0.PlainList D out);have hzip : outs.map (·.1) = (xi.zip yi).map (fun p => p.2 - p.1) := by
       rw [eo',take_of_length_le];rw [List.length_zip,lxi,lyi,hN];exact le_refl _
     have hvr : ∀ α h,c8 α h ((xi.zip yi).map fun p => .int (p.2 - p.1)) out.toList := fun α h => by
       have : ((xi.zip yi).map fun p => MV.int (p.2 - p.1)) = outs.map (fun p => MV.int p.1) := by
         have e9 : ((xi.zip yi).map fun p => MV.int (p.2 - p.1)) = ((xi.zip yi).map (fun p => p.2 - p.1)).map MV.int := by rw [map_map];rfl
         refine aJ e9 (cE hzip (aJ map_map ?_));rfl
       refine aJ this (aJ eo ?_);clear this eo eo' hzip;induction outs with
       | nil => exact .nil
       | cons p r ih => exact .cons VR.int ih
     obtain ⟨Qs,Ej⟩ := bQ.add (o := .list ((xi.zip yi).map fun p => .int (p.2 - p.1))) kp (a9 (aG hDs) : s₂.heap.get? D = none) ⟨by simp;lia,out,nD,gD8,hvr _ _⟩;obtain ⟨mC,hmC⟩ := Z.ns;have hCfresh : s.heap.get? C = none := by
       cases e : s.heap.get? C with
       | none => rfl
       | some o => obtain ⟨o',e'⟩ := t12.there C o e;replace e' := hCf ▸ e';exact nS e'
     have apC := cQ bQ hCf;refine hq C D bH.length (bL ++ [D]) _ _ hP (by refine cE bQ.len ?_;exact aM) Qs (t12.trans Ej).nil hCfresh ⟨mC,hmC.at' fun o e => hk7 C o (aC hCs (by decide)) (aC hCs (by decide)) (aC (i := 0) hCs (by decide)) (aC hCs (by decide)) e⟩ (fun q => ?_) apC.2.1;rcases mem_append.mp q with q | q
     · exact apC.1 q
     · have e0 := mem_singleton.mp q;exact absurd e0 (aF hCs hDs (by decide))
   · have hlt : k < N := Nat.lt_of_le_of_ne hk hkN;have hkx : k < pl.length := lt_of_lt_of_le hlt (hN ▸ Nat.min_le_left _ _);have hky : k < ql.length := lt_of_lt_of_le hlt (hN ▸ min_le_right _ _);have hx : xa[k]? = some (.int pl[k].1 pl[k].2) := by refine cE getElem?_toList (aJ ex ?_);simp [hkx]
     have hy : ya[k]? = some (.int ql[k].1 ql[k].2) := by refine cE getElem?_toList (aJ ey ?_);simp [hky]
     refine wpAny_pyNext_zip_item Dp Z.hz Z.hTI hTO Z.h1 Z.h2 Z.hl1 Z.hl2 hx hy fun J0 y1 y2 y3 y4 y5 y6 y7 => ?_;refine nQ ?_;intro iC;refine wpAny_letOwnedTupleGo_zip y1 fun lL w1 w2 => ?_;refine nQ ?_;intro bU;have lO := lt_size hTO;have lI := lt_size Z.hTI;refine bP fun no => ?_;obtain ⟨oD,eD⟩ := id Z.out;have lD := lt_size eD;obtain ⟨mC,hmC⟩ := Z.ns;refine no ?_;refine nE ?_;intro J5;have lC := hmC.lt;have up8 : ∀ c o,c ≠ s₂.heap.objs.size + 4 -> c ≠ s₂.heap.objs.size + 3 -> c ≠ s₂.heap.objs.size -> c ≠ s₂.heap.objs.size + 1 -> fG.heap.get? c = some o -> lL.get? c = some o := fun c o c1 c2 c3 c4 e => w2.extBut c o c1 (y7 c o c1 c2 c3 c4 e);have hkin : ∀ {α : Type} {m : Sem α} {Q' : α -> Shared -> Prop} {E' : cB} {s' : Shared},wpAny (model G.prog G.w) A m Q' E' s' -> wpAny (model G.prog G.w) A m Q' E' s' := fun h => h;refine assign_Tuple_tuple (items := #[.int pl[k].1 pl[k].2,.int ql[k].1 ql[k].2]) ok.1 (iI (n := 0) (w2.extBut _ _ (M9 (.inr (lt_size Z.hz))) y5 : IsPair lL fG.heap.objs.size (.int pl[k].1 pl[k].2) (.int ql[k].1 ql[k].2))) (by rfl) (by rfl) fun N9 he9 => ?_
     skip
     have k9 : ∀ c o,lL.get? c = some o -> N9.get? c = some o := fun c o e => he9 c o (ne_of_lt (lt_size e)) e;have nC9 : N9.Ns cenv.locals mC := by refine aJ hcl ?_;exact (hmC.at' fun o e => up8 C o (aC hCs (by decide)) (aC hCs (by decide)) (aC (i := 0) hCs (by decide)) (aC hCs (by decide)) e : lL.Ns C mC).keeps k9
     refine wpAny_assignInOrder_more (wpAny_assign_Name (wpAny_storeName_local ka nC9 (fun O3 n10 s10 => ?_) hkc));refine wpAny_assignInOrder_more (wpAny_assign_Name (wpAny_storeName_local kb n10 (fun Bt n11 s11 => ?_) hkc));refine wpAny_assignInOrder_none ?_;refine wpAny_tests_nil ?_
     skip
     refine aJ (if_pos rfl) ?_;rw [hcl] at s10 s11 n11;have up11 : ∀ c o,c ≠ C -> lL.get? c = some o -> Bt.get? c = some o := fun c o cC e => s11.extBut c o cC (s10.extBut c o cC (k9 c o e));refine wpAny_BinOp (wpAny_Name (wpAny_loadName_local hck kb (v := .int ql[k].1 ql[k].2) (m := fun y => if y = b then some (.int ql[k].1 ql[k].2) else if y = a then some (.int pl[k].1 pl[k].2) else mC y) (by refine aJ hcl ?_;exact n11) (if_pos rfl) ?_) hb);refine wpAny_Name (wpAny_loadName_local hck ka (v := .int pl[k].1 pl[k].2) (m := fun y => if y = b then some (.int ql[k].1 ql[k].2) else if y = a then some (.int pl[k].1 pl[k].2) else mC y) (by refine aJ hcl ?_;exact n11) (by simp [hab]) ?_) ha;refine sub_int ?_;have lout : out.size <= 1000 := by
       have h1 : out.toList.length = outs.length := by refine aJ eo ?_;exact length_map ..
       have h2 := congrArg List.length eo';simp at h1 h2
       lia
     refine wpAny_list_append_plain (hsz := le_trans lout (by decide)) (Z.out.at fun o e => up11 D o (aF hDs hCs (by decide)) (up8 D o (aC hDs (by decide)) (aC hDs (by decide)) (aC (i := 0) hDs (by decide)) (aC hDs (by decide)) e) : Bt.PlainList D out) fun J4 D12 s12 => ?_;have up12 : ∀ c o,c ≠ C -> c ≠ D -> lL.get? c = some o -> J4.get? c = some o := fun c o c1 c2 e => s12.extBut c o c2 (up11 c o c1 e);refine ⟨N - (k + 1) + 1,by lia,k + 1,_,outs ++ [(ql[k].1 - pl[k].1,_)],⟨fun c o c1 c2 c3 c4 c5 c6 e => up12 c o c5 c6 (up8 c o c1 c2 c3 c4 (Z.keep c o c1 c2 c3 c4 c5 c6 e)),
       up12 _ _ (aB hCs (by decide)) (aB hDs (by decide)) w1,up12 _ _ (aB hCs (by decide)) (aB hDs (by decide)) (w2.extBut _ _ (A5 (by decide)) (y7 _ _ (A5 (by decide)) (A5 (by decide)) (A5 (j := 0) (by decide)) (A5 (by decide)) Z.hTI)),
       ⟨_,_,up12 _ _ (aB hCs (by decide)) (aB hDs (by decide)) (w2.extBut _ _ (A5 (by decide)) y2)⟩,(y3.extBut w2.extBut (A5 (i := 0) (by decide))).at fun o e => up12 _ o (aB (i := 0) hCs (by decide)) (aB (i := 0) hDs (by decide)) e,(y4.extBut w2.extBut (A5 (by decide))).at fun o e => up12 _ o (aB hCs (by decide)) (aB hDs (by decide)) e,
       Z.hl1.at fun o e => up12 _ o (aD hCs ‹_›) (aD hDs ‹_›) (up8 _ o (xK ‹_›) (xK ‹_›) (ne_of_lt ‹_›) (xK ‹_›) e),Z.hl2.at fun o e => up12 _ o (aD hCs ‹_›) (aD hDs ‹_›) (up8 _ o (xK ‹_›) (xK ‹_›) (ne_of_lt ‹_›) (xK ‹_›) e),
       ⟨_,n11.sameBut s12 (aF hCs hDs (by decide))⟩,D12⟩,hlt,rfl,by refine aJ Array.toList_push (aJ eo (aJ map_append ?_));rfl,?_,hg,hd,ho⟩
     have hz : (xi.zip yi)[k]? = some (pl[k].1,ql[k].1) := by
       have hkx' : k < xi.length := aJ lxi hkx;have hky' : k < yi.length := aJ lyi hky;have e1 : xi[k]? = some pl[k].1 := by refine cE ex' ?_;simp [hkx]
       have e2 : yi[k]? = some ql[k].1 := by refine cE ey' ?_;simp [hky]
       rw [List.getElem?_zip_eq_some];exact ⟨e1,e2⟩
     refine aJ List.take_add_one (aJ hz (aJ map_append (aJ eo' ?_)));simp
 have Oj := loop { s₂ with heap := iG,toks := s₂.toks + ([] : List (Str × Value)).length } rfl rfl rfl rfl;exact codeAny_compStart_list Oj (wpAny_pyIter_zip (hk4 _ _ z1) Oj)
end
section
variable {G : Gl} {env : Env} {names : List Str} {n : Nat}
theorem xZ {elt iter target : Expr} {ifs : List Expr} {scope : Scope} {pos : Pos} {x : Str} {px spos : Pos} {i : Nat} {w : WE} (hc : ∀ {A : Around},Ok A n -> ∀ {E : cB} {s : Shared} {α : List Addr} {H : List MO} {ρ : bI} {P : cM} {use : Option (Value -> Sem Unit)} {Q : cB} {pos' : Pos},St G env names ρ α H s -> w ρ H P -> (∀ C a i α' H' s',P (.ref i) H' -> α'[i]? = some a -> cL G α' H' s' -> a5 G [C] α s α' s' -> s.heap.get? C = none -> (∃ m,s'.heap.Ns C m) -> C ∉ α' -> C ∉ G.tb -> compPost (model G.prog G.w) A E use Q (.ref a) C (.ok .next) s') -> wpAny (model G.prog G.w) A (comprehension (.ListComp elt [⟨target,iter,ifs,0⟩] scope pos) scope env pos' (newList []) false (eval iter env) use) Q E s) (hk : env.scope.kind = .function) (hnd : names.Nodup) (hx : names[i]? = some x) (hl : env.kindOf x = some .local) (hsw : swapsWith (.ListComp elt [⟨target,iter,ifs,0⟩] scope pos) (some (.Name x px)) spos.line env = pure true) : bN G env names n (.Assign [.Name x px] (.ListComp elt [⟨target,iter,ifs,0⟩] scope pos) spos) (aW i w) := by
 intro A ok E s α H ρ P st hw;refine aJ (exec_Assign_Name_used _ _ _ _ hsw) ?_;refine wpAny_bind (wpAny_standAt (wpAny_bind ?_));refine nQ ?_;intro iC
 skip
 refine wpAny_bind (wpAny_mono (hc ok (Q := fun _ s' => mR G env names α s P .next s') st hw fun C a aZ α' H' s' hP ha i' t' hC hns hCα hCt => ?_) (fun _ s' hq => wpAny_pure (wpAny_pure hq)) fun _ _ e => e);refine nQ ?_;intro bU;obtain ⟨m,hn⟩ := hns;have hCo : ∀ b ∈ bV env,b ∉ [C] := fun b hb q => by
   obtain ⟨o,e⟩ := i6 st hb
   replace e := hC ▸ (mem_singleton.mp q) ▸ e;exact nS e
 refine wpAny_assign_Name (iJ hk hnd hx hl (j3 st i' t'.ext t'.imm fun b hb o e => t'.keep b o e (st.apart b hb).1 (st.apart b hb).2.1 (hCo b hb) : St G env names ρ α' H' s') (v := .ref aZ) (by skip;exact ⟨a,ha,rfl⟩) fun s₂ cN bF => ?_);refine bP fun no => ?_;obtain ⟨oC,es,ep,e1,e2⟩ := id hn;refine no ?_;have jN : s₂.heap.Ns C m := by
   refine ⟨oC,es,ep,?_,e2⟩;exact bF.keep C oC e1 hCα hCt (by simpa using (fun q => hCo env.locals mem_cons_self (by refine aJ q ?_;exact mem_singleton_self _) : C ≠ env.locals))
 refine ⟨m,jN,fun h' hs' => ?_⟩;have own' : ∀ x ∈ [C],∀ o,s₂.heap.get? x = some o -> kG o := fun x hx => by refine aJ (mem_singleton.mp hx) ?_;exact xW jN
 have bt : Md [C] s₂ { s₂ with heap := h' } := ⟨fun b o hb e => Heap.SameBut.keep' hs' hb e,rfl,rfl,rfl⟩;refine ⟨.next,_,H',α',hP,rfl,mU cN (cN.inv.but (fun x hx => by refine aJ (mem_singleton.mp hx) ?_;exact ⟨hCα,hCt,(cQ st.inv hC).2.2⟩) own' bt.keep cN.inv.bare : cL G α' H' { s₂ with heap := h' }) bt own' fun y hy q => hCo y q hy,?_⟩;exact a5.fin (X := [C]) ((t'.weak (by simp)).trans (bF.weak (by simp +contextual))) (fun x hx => by refine aJ (mem_singleton.mp hx) ?_;exact hC) bt
theorem S.setZip {scope : Scope} {pos : Pos} {cl : List (Str × Addr)} {a b : Str} {pa pb qa qb ta pe zp zpos : Pos} {kt : Nat} {e1 e2 : Expr} {cap : List (Option Nat)} {wl : WL} {x : Str} {px spos : Pos} {i : Nat} (K : dP env names scope cl [a,b] cap (.tp [0,1]) (.Tuple [.Name a ta,.Name b pb] kt pe)) (hn : aP G env names n (.Name "zip" zp) (wK (.val (.type "zip")))) (hl : d9 G env names n [e1,e2] wl) (hs1 : starEach [e1,e2] env = (false,eval e1 env) :: starEach [e2] env) (hp : (backTo zpos (starEach [e2] env)).any (·.1) = false)
   (hcall : eval (.Call (.Name "zip" zp) [e1,e2] [] zpos) env = (do callWith zpos (<- eval (.Name "zip" zp) env) [] (backTo zpos (starEach [e1,e2] env)) (backToKw zpos (keywordEach [] env))))
   (hs : ∀ x,foldedSetIterable (.Call (.Name "zip" zp) [e1,e2] [] zpos) env x = pure x) (ha : (a == ("__debug__" : Str)) = false) (hb : (b == ("__debug__" : Str)) = false) (hab : a ≠ b) (hcl0 : cl = [])
   (hk : env.scope.kind = .function) (hnd : names.Nodup) (hx : names[i]? = some x) (hlx : env.kindOf x = some .local) (hsw : swapsWith (.ListComp (.BinOp (.Name b qb) .Sub (.Name a qa) pa) [⟨.Tuple [.Name a ta,.Name b pb] kt pe,.Call (.Name "zip" zp) [e1,e2] [] zpos,[],0⟩] scope pos) (some (.Name x px)) spos.line env = pure true) :
   bN G env names n (.Assign [.Name x px] (.ListComp (.BinOp (.Name b qb) .Sub (.Name a qa) pa) [⟨.Tuple [.Name a ta,.Name b pb] kt pe,.Call (.Name "zip" zp) [e1,e2] [] zpos,[],0⟩] scope pos) spos) (aW i (tW wl)) :=
 xZ (fun ok => fun st hw hq => Cn rfl rfl rfl K hn hl hs1 hp hcall hs ha hb hcl0 hab ok st hw hq) hk hnd hx hlx hsw
noncomputable def A6 (i : Nat) (a : Addr) (ns : List Int) : WE := fun ρ H P => ρ i = some (.val (.ref a)) /\ P (.ref H.length) (H ++ [.list (ns.map .int)])
theorem c8.ints {α : List Addr} {h : Heap} {vs : List Value} {ns : List Int} (r : IntsAre vs ns) : c8 α h (ns.map .int) vs := by
 induction r with
 | nil => exact .nil
 | cons n t _ ih => exact .cons VR.int ih
theorem E.script {x : Str} {px pc p pos : Pos} {kd : _} {i : Nat} {a : Addr} {vs : List Value} {ns : List Int} (hl : G.h₀.IsList a vs.toArray) (hi : IntsAre vs ns) (hz : vs.length <= sizeLine) (h : aP G env names n (.Name x px) (aE i)) (ht : ∀ o r,letTemporaryGo (.Name x px) o r = pure ()) : aP G env names n (.Subscript (.Name x px) (.Slice none (some (.Constant (.int 63) kd pc)) none p) pos) (A6 i a (ns.take 63)) := by
 intro A ok E s α H ρ P st hw;refine nV (model G.prog G.w) ?_;intro xG;refine aJ (eval_Subscript ..) ?_;refine wpAny_bind (fM (h A ok E s α H ρ (fun v H' => v = .val (.ref a) /\ H' = H) st ⟨_,hw.1,rfl,rfl⟩) fun v H₁ aQ o aO q3 bO aZ aU => ?_);refine bP fun no => ?_;obtain ⟨rfl,rfl⟩ := q3;refine no ?_
 skip;subst bO
 refine wpAny_bind (wpAny_holding (wpAny_Slice ?_));refine aJ (evalPart_none ..) ?_;refine wpAny_pure ?_;refine aJ (evalPart_some ..) ?_;refine wpAny_Constant_int ?_;refine wpAny_pure ?_;generalize hs3 : ({ aO with toks := aO.toks + 1 } : Shared) = s₃;have k3 : Kp aO s₃ := by refine cE hs3 ?_;exact Kp.tok _
 have hs3' : s₃.heap = aO.heap := by exact cE hs3 rfl
 have kp := Kp.push (s := s₃) { cls := .type "slice",data := .fields #[.none,.int 63 aO.toks,.none] };have fU := (aZ.kp k3).kp kp;have hl4 : (s₃.heap.push { cls := .type "slice",data := .fields #[.none,.int 63 aO.toks,.none] }).IsList a vs.toArray := hl.at fun o e => fU.base _ _ e;have hT : ({ s₃ with heap := s₃.heap.push { cls := .type "slice",data := .fields #[.none,.int 63 aO.toks,.none] } } : Shared).TypeIs (.ref a) "list" := hl4.typeIs;refine wpAny_bind (wpAny_standAt (wpAny_bind ?_));refine aJ (getitemInPython_of_ne hT.not_modules) ?_;refine wpAny_bind (wpAny_specialOf hT list_getitem_lookup ?_);have e63 : sL (ns.map MV.int) none (some 63) none = (ns.take 63).map .int := by
   refine aJ (jQ ..) ?_;exact (iZ (ns.map MV.int) 63).trans (map_take ..).symm
 have hg : wpAny (model G.prog G.w) A (getItem (.ref a) (.ref s₃.heap.objs.size)) (d2 G aQ { s₃ with heap := s₃.heap.push { cls := .type "slice",data := .fields #[.none,.int 63 aO.toks,.none] } } P) E { s₃ with heap := s₃.heap.push { cls := .type "slice",data := .fields #[.none,.int 63 aO.toks,.none] } } := by
   refine wpAny_getItem_list_slice (lo := none) (hi := some 63) (st := none) hl4 (⟨_,get?_push_size _ rfl,rfl,rfl⟩ : (s₃.heap.push { cls := .type "slice",data := .fields #[.none,.int 63 aO.toks,.none] }).IsSliceOf s₃.heap.objs.size .none (.int 63 aO.toks) .none) .none (.int _ _) .none (by decide) ?_ (by exact hz);have hv : c8 aQ aO.heap (ns.map MV.int) (vs.toArray).toList := by exact c8.ints hi
   refine d2.new (o := .list ((ns.take 63).map .int)) fU (Kp.push _) (a9 (le_refl _)) ⟨lm (le_trans (length_take_le ..) (by decide)),_,_,get?_push_size _ rfl,?_⟩ hw.2;refine cE e63 ?_;exact mQ _ _ _ (c8.ints hi)
 have f : wpAny (model G.prog G.w) A (operate [.ref s₃.heap.objs.size,.ref a] (getItem (.ref a) (.ref s₃.heap.objs.size))) (fun r s' => wpAny (model G.prog G.w) A (letTemporaryGo (.Name x px) (.ref a) r >>= fun _ => pure r) (d2 G α s P) E s') E { s₃ with heap := s₃.heap.push { cls := .type "slice",data := .fields #[.none,.int 63 aO.toks,.none] } } :=
   wpAny_operating (wpAny_mono hg (fun r s' h => wpAny_bind (wpAny_of_eq (ht _ r) (wpAny_pure (h.trans ((aU.trans k3.step).trans kp.step))))) kE)
 first
   | exact wpAny_pure (wpAny_bind f)
   | exact wpAny_bind (wpAny_pure (wpAny_bind f))
   | exact wpAny_bind f
inductive Ke (p : P2) (wv : WE) (ρ : bI) (P : d5) (a k : MV) (bH : List MO) : Prop
 | mk (j : Nat) (xs : List MV) (x : MV) (e : a = .ref j) (e' : k = .int (-1)) (h : bH[j]? = some (.list (xs ++ [x]))) (l : xs.length < 1000000) (w : wv ρ bH (pB p (fun r sI => sI[j]? = some (.list (xs ++ [x])) /\ P .next ρ (sI.set j (.list (xs ++ [r])))) x)) : Ke p wv ρ P a k bH
noncomputable def iN (wo wi : WE) (p : P2) (wv : WE) : WS := fun ρ H P => wo ρ H (k2 (Ke p wv ρ P) wi ρ)
theorem S.augLast {o i e : Expr} {pos' pos : Pos} {op : Operator} {p : P2} {wo wi wv : WE} (ho : aP G env names n o wo) (hi : aP G env names n i wi) (hv : aP G env names n e wv) (hp : o3 G op p)
   (hst : ∀ ov iv new,augStore i ov iv new = (do holding [new,ov,iv] (setItem ov iv new);release [new,ov,iv] [];pure .next)) : bN G env names n (.AugAssign (.Subscript o i pos') op e pos) (iN wo wi p wv) := by
 intro A ok E s α H ρ P st hw;refine wpAny_AugAssign_SubscriptAny (fM (ho A ok E s α H ρ _ st hw) fun a H₁ aQ ov aO cX bO aZ aU => ?_) hst;refine fM (hi A ok E aO aQ H₁ ρ _ (st.step aU aZ) cX) fun k bH bL iv s₂ q3 dW bQ bF => ?_;refine bP fun no => ?_;obtain ⟨j,xs,x,rfl,rfl,hj,hl,rD⟩ := q3;refine no ?_;have hg : gA (.ref j) (.int (-1)) bH = some x := by
   unfold gA;simp only [hj];have : ix (-1) (xs ++ [x]).length = some xs.length := by
     unfold ix;refine aJ (if_neg (by decide)) (aJ (if_pos (by exact nL)) ?_);congr 1;refine aJ length_append (aJ length_singleton ?_)
     lia
   refine aJ this ?_;exact aM
 refine (kN bQ (bO.step bF) dW hg fun x' s₃ kp rx => ?_).2;refine fM (hv A ok E s₃ bL bH ρ _ (((st.step aU aZ).step bF bQ).step kp.step (bQ.kp kp)) rD) fun v sI kW v' bY Hr L6 fU iH => ?_;refine fM (hp A ok.zero E bY kW sI _ _ _ _ _ fU (rx.step iH) L6 Hr) fun r J1 kU r' fT q3 Qv xI nW => ?_;obtain ⟨hj5,hP⟩ := q3;have t05 := (((aU.trans bF).trans kp.step).trans iH).trans nW;obtain ⟨u⟩ := dW.int_inv;obtain ⟨b,vs,m,hb,g1,q1⟩ := xI.list ((((bO.step bF).kp kp).step iH).step nW) hj5;have l := q1.length;simp only [length_toList,length_append,length_singleton] at l;refine ki_setBack (n := m) g1 (by decide) (by lia) (by decide) ?_;refine aJ (by lia : ((-1 : Int) + vs.size).toNat = xs.length) ?_;obtain ⟨Al,nU,_⟩ := i7 (ys := xs ++ [r]) (ws := vs.setIfInBounds xs.length r') (m' := m) (s' := { fT with heap := fT.heap.update b (Obj.mapSeq (·.setIfInBounds xs.length r')) }) xI hb g1 (fun c hc => get?_update_ne _ _ _ _ hc : ∀ c,c ≠ b -> (fT.heap.update b (Obj.mapSeq (·.setIfInBounds xs.length r'))).get? c = fT.heap.get? c) (by
     skip
     refine aJ (get?_update_self _ g1 (by rfl)) ?_;simp [Obj.mapSeq]) (by exact aJ lA (le_trans (succ_le_of_lt ‹_›) (by decide))) (by
     have := c8.set xs.length q1 Qv;simpa using this) rfl rfl rfl
 exact ⟨.next,ρ,_,kU,hP,rfl,(st.step t05 xI).step nU Al,(t05.trans nU).nil⟩
end
open Builtin.Str
theorem kM : isSubtype (.type "KeyError") (.type "LookupError") = pure true := by refine aJ (isSubtype_type ..) ?_;kernel_rfl
section
variable {prog : Program} {w : World} {A : Around} {E : cB} {s : Shared} {d : Addr} {f : Int -> Option Value} {c : Nat}
theorem oR {v : Value} {t : Tok} {Q : cB} {k : Int} (hm : s.heap.MapOf (intKind prog w) d f) (hv : f k = some v) (h : ∀ tk,Q v { s with toks := tk }) : wpAny (model prog w) A (getItem (.ref d) (.int k t)) Q E s := by
 unfold getItem;try with_reducible refine wpAny_holding ?_
 refine wpAny_bind (wpAny_sequenceKey hm.typeIs (by decide) ?_);refine wpAny_bind (wpAny_callSpecial?_slot (name := ofString "__getitem__") hm.typeIs slot_dict_getitem
   (wpAny_call_entry slot_dict_getitem hm.typeIs entry_dict_getitem ?_ (args_dict_getitem _ _)))
 show wpAny _ _ (dictGet d (.int k t) >>= _) _ _ s;refine wpAny_bind (wpAny_dictGet_of (k := k) (beq_self_eq_true _) hm ?_);refine aJ hv ?_;exact wpAny_pure ⟨v,rfl,wpAny_pure (h _)⟩
theorem sQ {x : Str} {t : Tok} {Q : Mapped -> Shared -> Prop} (hm : s.heap.MapOf (intKind prog w) d f) (hv : f c = some (.str x t)) (h : ∀ tk,Q (.text x) { s with toks := tk }) : wpAny (model prog w) A (tableLookup (.ref d) c) Q E s := by
 skip
 refine wpAny_bind (wpAny_attempt (wpAny_bind (wpAny_mkInt (oR hm hv fun tk => ?_))));exact wpAny_bind (wpAny_pure (wpAny_bind (wpAny_pure (wpAny_pure (h _)))))
theorem x3 {Q : Mapped -> Shared -> Prop} (hh : A.handled = none) (hd : (d == sysModules) = false) (hm : s.heap.MapOf (intKind prog w) d f) (hv : f c = none) (h : ∀ h' tk,(∀ b o,s.heap.get? b = some o -> h'.get? b = some o) -> Q .keep { s with heap := h',toks := tk }) : wpAny (model prog w) A (tableLookup (.ref d) c) Q E s := by
 skip
 refine wpAny_bind (wpAny_attempt (wpAny_bind (wpAny_mkInt (wpAny_getItem_missing_of (k := (c : Int)) (beq_self_eq_true _) hd hh hm hv fun h' e he => ?_))));refine bP fun no => ?_;obtain ⟨ob,t,e1,e2,_⟩ := he.there;refine no ?_;refine wpAny_bind (wpAny_isInstance (T := "KeyError") (b := true) ⟨ob,e1,e2⟩ kM ?_);exact wpAny_bind (wpAny_rule (wpAny_pure (h h' _ he.keeps)))
noncomputable def i8 (f : Int -> Option Value) (c : Nat) : Str := match f c with
 | some (.str x _) => x
 | _ => ⟨#[c]⟩
theorem pV {t : Tok} {Q : Fin -> Shared -> Prop} (hh : A.handled = none) (hd : (d == sysModules) = false) (hm : s.heap.MapOf (intKind prog w) d f) (hc : c < 128) (hf : f c = none \/ ∃ x t,f c = some (.str x t) /\ x.length = 2) (h : ∀ h' tk,(∀ b o,s.heap.get? b = some o -> h'.get? b = some o) -> Q (.done (.ret (.str (i8 f c) tk))) { s with heap := h',toks := tk + 1 }) : wpAny (model prog w) A (Builtin.«str.translate» ⟨[.str ⟨#[c]⟩ t,.ref d],[]⟩) Q E s := by
 rcases hf with hf | ⟨x,t',hf,hx⟩
 · have e1 : i8 f c = ⟨#[c]⟩ := by unfold i8;exact aJ hf rfl
   replace h := e1 ▸ h
   have hl : ¬ ((⟨#[c]⟩ : Str).length == 0) = true := by exact Bool.false_ne_true
   unfold Builtin.«str.translate»;refine wpAny_bind (wpAny_of_eq (a := (Value.str ⟨#[c]⟩ t,(⟨#[c]⟩ : Str),Value.ref d)) (by first | rfl | kernel_rfl) ?_);dsimp only;refine aJ (if_neg hl) ?_;have ha : (#[c].all fun x => decide (x < 128)) = true := by simp [hc]
   refine aJ ha (cE forIn_toList ?_);dsimp only [forIn_cons,forIn_nil,(by decide : tooLong 0 = false),Bool.false_eq_true,if_false,if_true,lookup_nil];refine wpAny_bind (wpAny_bind (wpAny_bind (x3 hh hd hm hf fun h' tk hk => ?_)))
   repeat wp_step
   refine aJ (by rfl : (⟨List.foldl (fun acc p => acc ++ p.cps) #[] ([(⟨#[c]⟩ : Str)],0 + 1,true,[(c,some c)],false).fst.reverse⟩ : Str) = ⟨#[c]⟩) ?_;exact h _ _ hk
 · have e1 : i8 f c = x := by unfold i8;exact aJ hf rfl
   replace h := e1 ▸ h
   unfold Builtin.«str.translate»;refine wpAny_bind (wpAny_of_eq (a := (Value.str ⟨#[c]⟩ t,(⟨#[c]⟩ : Str),Value.ref d)) (by first | rfl | kernel_rfl) ?_);dsimp only;refine aJ (if_neg (by exact Bool.false_ne_true : ¬ ((⟨#[c]⟩ : Str).length == 0) = true)) ?_;have ht2 : tooLong 2 = false := by decide
   refine aJ (by simp [hc] : (#[c].all fun x => decide (x < 128)) = true) (cE forIn_toList ?_);simp only [forIn_cons,forIn_nil,(by decide : tooLong 0 = false),ht2,Bool.false_eq_true,if_false,if_true,lookup_nil];refine wpAny_bind (wpAny_bind (wpAny_bind (sQ hm hf fun tk => ?_)));have hxl : (x.length == 1 && x.cps.all fun x => decide (x < 128)) = false := by refine aJ hx ?_;rfl
   simp only [hxl,Bool.false_eq_true,if_false]
   repeat (first | with_reducible refine sQ hm hf (fun tk => ?_) | wp_step)
   have e9 : (⟨List.foldl (fun acc p => acc ++ p.cps) #[] ([x],0 + x.length,false,([] : List (Nat × Option Nat)),false).fst.reverse⟩ : Str) = x := by
     subst x;simp
   refine aJ e9 ?_;show wpAny _ _ (mkStr x) _ _ _;exact wpAny_mkStr (wpAny_pure (h _ _ fun _ _ e => e)) (by refine aJ hx ?_;decide)
end
section
variable {G : Gl} {n : Nat}
theorem vV : jR "str" "translate" "str.translate" := ⟨F.plainAttrs_str,F.slot_str_translate,F.type_str_translate⟩
noncomputable def E6 (d : Addr) (f : Int -> Option Value) : gF := fun xs H P => match xs with
 | [.str x,v] => v = .val (.ref d) /\ ∃ c,x = ⟨#[c]⟩ /\ c < 128 /\ P (.str (i8 f c)) H
 | _ => False
theorem Im {d : Addr} {f : Int -> Option Value} {xs : List MV} {H : List MO} {P : cM} (h : E6 d f xs H P) : S2 xs := by
 rcases xs with _ | ⟨a,r⟩ <;> first | exact False.elim h | (cases a <;> first | exact False.elim h | (rcases r with _ | ⟨v,r⟩ <;> first | exact False.elim h | (rcases r with _ | _ <;> first | exact False.elim h | exact .mk _ _)))
theorem K.translate {d : Addr} {f : Int -> Option Value} (hd : (d == sysModules) = false) (hm : G.h₀.MapOf (intKind G.prog G.w) d f) (hf : ∀ c : Nat,f c = none \/ ∃ x t,f c = some (.str x t) /\ x.length = 2) : dT G n (.builtin "str.translate") (E6 d f) := by
 intro A ok E s α H P xs vs i r h;cases Im h
 · obtain ⟨v,u,r1,r2⟩ := vL r;refine bP fun no => ?_;obtain ⟨rfl,c,rfl,hc,hP⟩ := h;obtain ⟨t⟩ := r1.str_inv;refine no ?_
   skip;subst r2
   have hm' : s.heap.MapOf (intKind G.prog G.w) d f := (by obtain ⟨o,es,ep,ho,r⟩ := hm;exact ⟨o,es,ep,i.base _ _ ho,r⟩);refine wpAny_call_entry F.slot_str_translate (typeIs_str _ _ _) F.entry_str_translate ?_ (F.args_str_translate_2 _ _);refine pV ok.1 hd hm' hc (hf c) fun h' tk hk => ⟨_,rfl,?_⟩;refine d2.of_kp (s' := { s with heap := h',toks := tk + 1 }) i ⟨hk,rfl,rfl,rfl⟩ (VR.str ?_) hP;unfold i8;rcases hf c with e | ⟨x,t',e,hx⟩
   · refine aJ e ?_;show 1 <= sizeLine;decide
   · refine aJ e ?_;skip;refine aJ hx ?_;decide
end
open Builtin.Str
section
variable {G : Gl} {env : Env} {names : List Str} {n : Nat}
theorem Io {a b : Nat} (h : a ≠ b) : @Ne Tok a b := h
noncomputable def o4 (G : Gl) (env : Env) (names : List Str) (n : Nat) (e : Expr) (w : WE) : Prop :=
 ∀ (A : Around),Ok A n -> ∀ (E : cB) (s : Shared) (α : List Addr) (H : List MO) (ρ : bI) (P : cM),1 <= s.toks -> St G env names ρ α H s -> w ρ H P ->
   wpAny (model G.prog G.w) A (eval e env) (d2 G α s P) E s
noncomputable def l3 (G : Gl) (env : Env) (names : List Str) (n : Nat) (e : List Stmt) (w : WS) : Prop :=
 ∀ (A : Around),Ok A n -> ∀ (E : cB) (s : Shared) (α : List Addr) (H : List MO) (ρ : bI) (P : d5),1 <= s.toks -> St G env names ρ α H s -> w ρ H P ->
   wpAny (model G.prog G.w) A (execs e env) (mR G env names α s P) E s
theorem aP.up {e : Expr} {w : WE} (h : aP G env names n e w) : o4 G env names n e w := fun A ok E s α H ρ P _ => h A ok E s α H ρ P
theorem dY.up {e : List Stmt} {w : WS} (h : dY G env names n e w) : l3 G env names n e w := fun A ok E s α H ρ P _ => h A ok E s α H ρ P
noncomputable def vW (w : WE) (y z : Str) : WE := fun ρ H P => w ρ H fun v H' => Is .str v fun x => x.length <= 1000 /\ P (.str (Txt.replace x y z)) H'
theorem i9 {A : Around} {E : cB} {s : Shared} {x y z : Str} {t u v : Tok} {Q : cB} (hyz : (y == z) = false) (hz : z.length <= 10) (hx : x.length <= 1000) (hu : u ≠ 0) (hv : v ≠ 0) (huv : u ≠ v) (hq : ∀ t' k,(Txt.replace x y z).length <= sizeLine -> Q (.str (Txt.replace x y z) t') { s with toks := k }) : wpAny (model G.prog G.w) A (call (.builtin "str.replace") [.str x t,.str y u,.str z v]) Q E s := by
 have hl : tooLong (x.length + (occurrences x y 0 x.length (x.length + 1)).length * z.length) = false := by
   have h1 := StrLaws.occ_length_le x y 0 x.length (x.length + 1);have h2 : (occurrences x y 0 x.length (x.length + 1)).length * z.length <= 1001 * 10 := Nat.mul_le_mul (by lia) hz;unfold tooLong sizeLine;exact decide_eq_false (by lia)
 have hb : x.length + (x.length + 1) * z.length <= 16777216 := by
   have : (x.length + 1) * z.length <= 1001 * 10 := Nat.mul_le_mul (succ_le_succ ‹_›) hz
   lia
 refine call_gives PySem.F.slot_str_replace (typeIs_str _ _ _) PySem.F.entry_str_replace (PySem.F.args_str_replace_3 _ _ _)
   (gives_str_replace x y z t u v fun _ => ⟨by simp [hu,hv],by exact if_neg ‹_›,hyz,hl⟩) ?_
 unfold Txt.replace at hq;cases hc : ((occurrences x y 0 x.length (x.length + 1)).isEmpty || (y.length == 0 && z.length == 0))
 · rw [hc] at hq;simp only [Bool.false_eq_true,if_false] at hq ⊢;exact ⟨fits_replaced y hb,hq _ _ (fits_replaced y hb)⟩
 · rw [hc] at hq;simp only [if_true] at hq ⊢;exact hq t s.toks (le_trans hx (by decide))
theorem E.replace1 {o : Expr} {y z : Str} {ky kz : _} {py pz apos pos : Pos} {w : WE} (ho : o4 G env names n o w) (hyz : (y == z) = false) (hz : z.length <= 10) (hbase : attributeBase o "replace" env (eval o env) = eval o env) (hline : (apos.endLine == pos.line) = true) : o4 G env names n (.Call (.Attribute o "replace" apos) [.Constant (.str y) ky py,.Constant (.str z) kz pz] [] pos) (vW w y z) := by
 intro A ok E s α H ρ P h1 st hw;refine Call_method2 hbase rfl hline (wpAny_with_toks (n := 1) h1 (wpAny_mono (ho A ok E s α H ρ _ h1 st hw) (fun ov aO r ht => ?_) fun _ _ x _ => x));refine bP fun no => ?_;obtain ⟨v,H₁,aQ,⟨x,rfl,hl,hP⟩,bO,aZ,aU⟩ := r;obtain ⟨t⟩ := bO.str_inv;refine no ?_;refine ⟨"str","str.replace",PySem.F.plainAttrs_str,PySem.F.slot_str_replace,PySem.F.type_str_replace,typeIs_str _ _ _,(fun a e => by cases e),?_⟩;refine callWith_of (P := fun _ => True) rfl (fun h _ => ⟨.machine,.inr (.inl rfl),.now⟩) ?_;refine Calls.evalArgs_plain (Calls.spliced_cons (wpAny_Constant_str (Calls.spliced_cons (wpAny_Constant_str (Calls.spliced_nil ⟨trivial,?_⟩)))));refine i9 hyz hz hl (Io (a := aO.toks) (b := 0) (ne_of_gt ‹_›)) (Io (a := aO.toks + 1) (b := 0) (by (exact succ_ne_zero _;done))) (Io (a := aO.toks) (b := aO.toks + 1) (by solve_by_elim (maxDepth := 3) [ne_of_lt,lt_of_le_of_lt])) fun t' k hlen => ?_;exact (d2.of_kp aZ (Kp.tok _) (VR.str hlen) hP).trans aU
theorem Ss.set1 {x : Str} {pos' pos : Pos} {e : Expr} {w : WE} {i : Nat} (hk : env.scope.kind = .function) (hnd : names.Nodup) (hx : names[i]? = some x) (hs : gK env x) (h : o4 G env names n e w) (hw : swapsWith e (some (.Name x pos')) pos.line env = pure false) : l3 G env names n [.Assign [.Name x pos'] e pos] (aI (aW i w) aK) := by
 intro A ok E s α H ρ P h1 st hp;refine wpAny_execs_cons (wpAny_Assign_Name (fM (h A ok E s α H ρ _ h1 st hp) fun v H₁ aQ v' aO hP bO aZ aU => ?_) hw);exact dC hk hnd hx hs (st.step aU aZ) bO fun s₂ cN bF => wpAny_execs_nil ⟨.next,_,H₁,aQ,hP,rfl,cN,aU.nil.trans bF⟩
theorem S.if1 {y : Str} {ky : _} {r : Expr} {op : CmpOp} {a b : List Stmt} {py tpos pos : Pos} {wr : WE} {p : PC} {wa wb : WS} (hl : y.length <= sizeLine) (hr : aP G env names n r wr) (hp : eG G op p) (hm : behindInMarks op r = false) (ha : l3 G env names n a wa) (hb : l3 G env names n b wb) : bN G env names n (.If (.Compare (.Constant (.str y) ky py) [op] [r] tpos) a b pos) (bB (aN p (wK (.str y)) wr) wa wb) := by
 intro A ok E s α H ρ P st hw;refine wpAny_If (wpAny_isTrue_Compare1 (wpAny_Constant_str ?_) hm);generalize hs1 : ({ s with toks := s.toks + 1 } : Shared) = aO;have kp : Kp s aO := by refine cE hs1 ?_;exact Kp.tok _
 have ht1 : 1 <= aO.toks := by refine cE hs1 ?_;exact le_add_left _ _
 refine wpAny_with_toks (n := 1) ht1 (wpAny_mono (hr A ok E aO α H ρ _ (st.step kp.step (st.inv.kp kp)) hw) (fun rv s₂ q ht2 => ?_) fun _ _ x _ => x);refine bP fun no => ?_;obtain ⟨vb,bH,bL,⟨c,hc,hP⟩,dW,bQ,bF⟩ := q;refine no ?_;refine wpAny_with_toks (n := 1) ht2 (hp A ok.zero _ s₂ bL bH _ _ _ _ c _ bQ (VR.str hl : VR bL s₂.heap (.str y) (.str y s.toks)) dW hc fun s₃ k ht3 => wpAny_truthy_bool ?_);have t03 := (kp.step.trans bF).trans k.step;have cG := st.step t03 (bQ.kp k);cases c with
 | true => exact wpAny_mono (ha A ok E s₃ bL bH ρ P ht3 cG hP) (fun f s' q => q.trans t03.nil) kE
 | false => exact wpAny_mono (hb A ok E s₃ bL bH ρ P ht3 cG hP) (fun f s' q => q.trans t03.nil) kE
end
noncomputable def x4 (C : Addr) (fp wr : List Addr) (n₀ : Nat) (F : Nat -> Value -> Prop) : Protocol := fun m s₀ v s kap =>
 (m < n₀ /\ F (n₀ - 1 - m) v) /\ GenSince C wr s₀ s /\ ∀ s'' : Shared,(∀ b ∈ C :: fp,∀ o,s.heap.get? b = some o -> s''.heap.get? b = some o) -> 1 <= s''.toks -> kap (.send .none) s''
section
variable {prog : Program} {w : World} {A : Around}
structure Ip (prog : Program) (w : World) (cenv : Env) (x : Str) (elt : Expr) (fp wr : List Addr) (P : Nat -> Value -> Prop) (F : Nat -> Value -> Prop) (D U : Nat) : Prop where
 elt : ∀ (A' : Around) E' i v (s₂ : Shared) m₂,A'.handled = none -> A'.depth <= D -> A'.units <= U -> 1 <= s₂.toks -> P i v -> s₂.heap.Ns cenv.locals m₂ -> m₂ x = some v ->
   wpAny (model prog w) A' (eval elt cenv) (fun y s₃ => F i y /\ Keeps s₂ s₃) E' s₂
noncomputable abbrev jH (elt iter : Expr) (x : Str) (px : Pos) (scope : Scope) (pos : Pos) (I : Addr) (cenv : Env) : Code := .compLoop (.GeneratorExp elt [⟨.Name x px,iter,[],0⟩] scope pos) 0 (.ref I) .none cenv
theorem P6 {n j m : Nat} (h : n - j = m + 1) : n - 1 - m = j := by
 have e : n = m + j + 1 := ((Nat.sub_eq_iff_eq_add (le_of_lt (Nat.lt_of_sub_eq_succ h))).mp h).trans (Nat.add_right_comm m 1 j);subst e;exact add_sub_cancel_left m j
theorem P7 {n j : Nat} (h : j < n) : n - j = n - j - 1 + 1 := (Nat.sub_add_cancel (Nat.sub_pos_of_lt h)).symm
theorem P8 {n j m : Nat} (h : n - j = m + 1) : n - (j + 1) = m := congrArg Nat.pred h
theorem Co {elt iter : Expr} {x : Str} {px : Pos} {scope : Scope} {pos : Pos} {I : Addr} {fp wr : List Addr} {n₀ : Nat} {P : Nat -> Value -> Prop} {mM : Nat -> Heap -> Prop} {cenv : Env} {D U : Nat} (hh : A.handled = none) (mL : ∀ A' : Around,A'.handled = none -> Walks prog w A' I fp wr n₀ P mM) (F : Nat -> Value -> Prop) (hx : cenv.kindOf x = some .local) (hp : (cenv.scope.kind == .class || (cenv.scope.kind == .module && cenv.locals != cenv.globals)) = false) (hco : cenv.scope.isCoroutine = false) (hCf : cenv.locals ∉ fp) (hD : (A.over (jH elt iter x px scope pos I cenv) []).depth <= D) (hU : (A.over (jH elt iter x px scope pos I cenv) []).units <= U) (hq : Ip prog w cenv x elt fp wr P F D U) : ∀ (k i : Nat) (s₀ s : Shared) (m : Str -> Option Value),n₀ - i = k -> i <= n₀ -> mM i s.heap -> s.heap.Ns cenv.locals m -> GenSince cenv.locals wr s₀ s -> 1 <= s.toks -> Seg (model prog w) A (fun n s₀ r aO => r = .ok .next /\ (n = 0 /\ GenSince cenv.locals wr s₀ aO)) (x4 cenv.locals fp wr n₀ F) k s₀ (jH elt iter x px scope pos I cenv) ((model prog w).den (jH elt iter x px scope pos I cenv)) [] s := by
 refine nV (jH elt iter x px scope pos I cenv) ?_;intro xG;have hh' : (A.over (jH elt iter x px scope pos I cenv) []).handled = none := hh;have hCw : cenv.locals ∉ wr := fun h => hCf ((mL A hh).sub _ h);intro k;induction k with
 | zero =>
   intro i s₀ s m hk hi hst hn hsince ht;have hin : i = n₀ := Nat.le_antisymm hi (Nat.le_of_sub_eq_zero hk);subst hin;show Seg _ A _ _ _ s₀ _ ((compTurn (.GeneratorExp elt [⟨.Name x px,iter,[],0⟩] scope pos) 0 (.ref I) .none cenv).onRaise (leaving cenv)) [] s;refine aJ (compTurn_gen ..) (aJ (Sem.onRaise_eq_wrap ..) ?_);refine seg_bind_wrap (wpAny_standAt ?_);refine seg_bind_wrap ((mL _ hh').done s _ _ hst fun h' tk hk' => ?_);exact seg_end (.ok .next) ⟨rfl,rfl,hsince.step fun b o _ hw e => hk' b o hw e⟩
 | succ k ih =>
   intro i s₀ s m hk hi hst hn hsince ht;have hlt : i < n₀ := Nat.lt_of_sub_eq_succ hk;show Seg _ A _ _ _ s₀ _ ((compTurn (.GeneratorExp elt [⟨.Name x px,iter,[],0⟩] scope pos) 0 (.ref I) .none cenv).onRaise (leaving cenv)) [] s;refine aJ (compTurn_gen ..) (aJ (Sem.onRaise_eq_wrap ..) ?_);refine seg_bind_wrap (wpAny_standAt ?_);refine seg_bind_wrap (wpAny_with_toks ht ((mL _ hh').item i s _ _ hlt hst fun v g7 Hk hPv L8 fV Rv => ?_));refine seg_bind_wrap (wpAny_of_eq (rfl : letOwnedTupleGo (.Name x px) (.ref I) v = pure ()) ?_);refine seg_bind_wrap (wpAny_assign_Name (wpAny_storeName_local hx (hn.at' fun o e => fV _ o hCw e) (fun sG jN Kx => ?_) hp));have Oq : ∀ b o,b ≠ cenv.locals -> b ∉ wr -> s.heap.get? b = some o -> sG.get? b = some o := fun b o hbC hbw e => Kx.extBut b o hbC (fV b o hbw e);have L2 : mM (i + 1) sG := (mL A hh).frame _ _ _ L8 fun b hb o e => Kx.extBut b o (fun h => hCf (h ▸ hb)) e;have Ek : GenSince cenv.locals wr s₀ { s with heap := sG,toks := Hk + 1 } := hsince.step fun b o hbC hbw e => Oq b o hbC hbw e;refine seg_bind_wrap (wpAny_tests_nil ?_);dsimp only [if_true];have hy : ∀ v,yieldOut cenv v = yieldValue v := fun v => by simp only [yieldOut,hco,Bool.false_eq_true,if_false]
   simp only [hy];refine aJ (Sem.bind_eq_wrap' ..) (aJ (Sem.bind_eq_wrap' ..) (aJ (Sem.wrap_wrap ..) (aJ (Sem.wrap_wrap ..) ?_)));refine seg_wrap (wpAny_mono (hq.elt _ _ i v _ _ hh' hD hU (le_add_left _ _) hPv jN (if_pos rfl)) (fun y bY iG => ?_) fun _ _ e => e);refine bP fun no => ?_;obtain ⟨hFy,iG,Ks,rfl,oH⟩ := iG;refine no ?_;have e1 : n₀ - 1 - k = i := P6 hk;refine seg_at (seg_yield rfl rfl rfl ⟨⟨le_trans (le_of_eq hk.symm) (sub_le n₀ i),aJ e1 hFy⟩,Ek.step fun b o _ _ e => oH b o e,fun s'' hal ht'' => ?_⟩);exact seg_again rfl (ih (i + 1) s'' s'' _ (P8 hk) hlt ((mL A hh).frame _ _ _ L2 fun b hb o e => hal b (mem_cons_of_mem _ hb) o (oH b o e))
     ((jN.keeps oH).at' fun o e => hal _ (mem_cons_self ..) o e) (GenSince.refl _ _ _) ht'')
theorem yA {elt iter : Expr} {x : Str} {px : Pos} {scope : Scope} {pos : Pos} {I : Addr} {fp wr : List Addr} {n₀ : Nat} {P : Nat -> Value -> Prop} {mM : Nat -> Heap -> Prop} {cenv : Env} {D U : Nat} (hh : A.handled = none) (mL : ∀ A' : Around,A'.handled = none -> Walks prog w A' I fp wr n₀ P mM) (F : Nat -> Value -> Prop) (hx : cenv.kindOf x = some .local) (hp : (cenv.scope.kind == .class || (cenv.scope.kind == .module && cenv.locals != cenv.globals)) = false) (hco : cenv.scope.isCoroutine = false) (hCf : cenv.locals ∉ fp) (hD : (A.over (jH elt iter x px scope pos I cenv) []).depth <= D) (hU : (A.over (jH elt iter x px scope pos I cenv) []).units <= U) (hq : Ip prog w cenv x elt fp wr P F D U) (s₀ s : Shared) (m : Str -> Option Value) (hst : mM 0 s.heap) (hn : s.heap.Ns cenv.locals m) (hsince : GenSince cenv.locals wr s₀ s) (ht : 1 <= s.toks) : Seg (model prog w) A (fun n s₀ r aO => r = .ok .next /\ (n = 0 /\ GenSince cenv.locals wr s₀ aO)) (x4 cenv.locals fp wr n₀ F) n₀ s₀ (.compStart (.GeneratorExp elt [⟨.Name x px,iter,[],0⟩] scope pos) 0 (.ref I) .none cenv) ((model prog w).den (.compStart (.GeneratorExp elt [⟨.Name x px,iter,[],0⟩] scope pos) 0 (.ref I) .none cenv)) [] s := by
 have hh' : (A.over (.compStart (.GeneratorExp elt [⟨.Name x px,iter,[],0⟩] scope pos) 0 (.ref I) .none cenv) []).handled = none := hh;have loop := Co (iter := iter) (px := px) (scope := scope) (pos := pos) hh mL F hx hp hco hCf hD hU hq n₀ 0 s₀ s m (sub_zero _) (zero_le _) hst hn hsince ht;show Seg _ A _ _ _ s₀ _ ((compStart (.GeneratorExp elt [⟨.Name x px,iter,[],0⟩] scope pos) 0 (.ref I) .none cenv).onRaise (leaving cenv)) [] s
 skip
 refine aJ (Sem.onRaise_eq_wrap ..) ?_;show Seg _ A _ _ _ s₀ _ ((ask >>= _).wrap _ _ _ _) [] s;refine seg_bind_wrap (wpAny_askSetting ?_);split
 · exact seg_again rfl loop
 · first
     | exact seg_bind_wrap (wpAny_rule (seg_bind_wrap (wpAny_standAt (seg_bind_wrap ((mL _ hh').self 0 s _ _ hst (seg_again rfl loop))))))
     | (refine seg_bind_wrap (wpAny_rule ?_);show Seg _ A _ _ _ s₀ _ ((standAt iter.pos >>= _).wrap _ _ _ _) [] s;exact seg_bind_wrap (wpAny_standAt (seg_bind_wrap ((mL _ hh').self 0 s _ _ hst (seg_again rfl loop)))))
noncomputable def Nb (prog : Program) (w : World) (A : Around) (a : Addr) (g : Nat) (C : Addr) (fp wr : List Addr) (n₀ : Nat) (F : Nat -> Value -> Prop) (j : Nat) (s : Shared) : Prop :=
 1 <= s.toks /\ s.heap.IsGen a g /\ s.heap.NoLimit /\ ∃ gs,s.gens[g]? = some gs /\ ∀ s'' : Shared,(∀ b ∈ C :: fp,∀ o,s.heap.get? b = some o -> s''.heap.get? b = some o) -> 1 <= s''.toks ->
   gs.Goes (model prog w) A.in1 (fun n s₀ r aO => r = .ok .next /\ (n = 0 /\ GenSince C wr s₀ aO)) (x4 C fp wr n₀ F) (n₀ - j) (.send .none) s''
theorem Le (hh : A.handled = none) (a : Addr) (g : Nat) (C : Addr) (fp wr : List Addr) (n₀ : Nat) (F : Nat -> Value -> Prop) (haC : a ≠ C) (haf : a ∉ fp) (hsub : ∀ b ∈ wr,b ∈ fp) (hroom : A.depth < recursionLimit) (hcs : cStatics ∈ fp) (hcC : cStatics ≠ C) (hcw : cStatics ∉ wr) : WalksS prog w A a (a :: C :: fp) (C :: wr) (GenOnlyQ g) n₀ F (Nb prog w A a g C fp wr n₀ F) where
 sub := fun b hb => by
   rcases mem_cons.mp hb with rfl | hb
   · exact mem_cons_of_mem _ mem_cons_self
   · exact mem_cons_of_mem _ (mem_cons_of_mem _ (hsub b hb))
 grefl := fun _ => .inl rfl
 gtrans := fun _ _ _ x y => x.trans y
 frame := fun j s h' tk st htk hk =>
   ⟨le_trans st.1 htk,(by obtain ⟨o,nm,qn,ho,r⟩ := st.2.1;exact ⟨o,nm,qn,hk a (mem_cons_self ..) o ho,r⟩),
    (by obtain ⟨mc,hns,hnn⟩ := st.2.2.1;exact ⟨mc,hns.at' fun o e => hk cStatics (mem_cons_of_mem _ (mem_cons_of_mem _ hcs)) o e,hnn⟩),
    (by obtain ⟨gs,hgs,hgo⟩ := st.2.2.2;exact ⟨gs,hgs,fun s'' hal ht => hgo s'' (fun b hb o e => hal b hb o (hk b (mem_cons_of_mem _ hb) o e)) ht⟩)⟩
 item := fun j s Q E hj st hQ => by
   obtain ⟨ht,hg,hl,gs,hgs,hgo⟩ := st;obtain ⟨m,hm⟩ : ∃ m,n₀ - j = m + 1 := ⟨n₀ - j - 1,P7 hj⟩;rw [hm] at hgo;refine wpAny_with_toks (le_refl s.toks) ?_;refine wpAny_pyNext_genexpQ (P := fun n s₀ aO => n = 0 /\ GenSince C wr s₀ aO) hh hl hroom hg hgs (hgo _ (fun _ _ _ e => e) ht) (fun v aO gs' hb hv => ?_) (fun aO hp h' hk => ?_)
   · obtain ⟨⟨hi,hF⟩,⟨g7,Hk,rfl,fV⟩,hkap⟩ := hv;have hidx : n₀ - 1 - (m + 1 - 1) = j := P6 hm;rw [hidx] at hF;have haw : a ∉ wr := fun h => haf (hsub a h);intro htk;refine hQ v _ hF ⟨le_trans ht htk,(by obtain ⟨o,nm,qn,ho,r⟩ := hg;exact ⟨o,nm,qn,fV a o haC haw ho,r⟩),(by obtain ⟨mc,hns,hnn⟩ := hl;exact ⟨mc,hns.at' fun o e => fV cStatics o hcC hcw e,hnn⟩),gs',setGen_self (gs := .running) (setGen_self hgs),fun s'' hal ht'' => ?_⟩
       ⟨fun b o hb e => fV b o (fun h => hb (h ▸ mem_cons_self ..)) (fun h => hb (mem_cons_of_mem _ h)) e,GenOnlyQ.of ((GenOnly.setGen s g .running).trans (GenOnly.setGen _ g gs')) (setGen_self (gs := .running) (setGen_self hgs)) hb,rfl,rfl,htk⟩
     have e : n₀ - (j + 1) = m := P8 hm;rw [e];exact hkap s'' hal ht''
   · exact absurd hp.1 (succ_ne_zero m)
 done := fun s Q E st hQ => by
   obtain ⟨ht,hg,hl,gs,hgs,hgo⟩ := st;rw [Nat.sub_self] at hgo;refine wpAny_with_toks (le_refl s.toks) ?_;refine wpAny_pyNext_genexpQ (P := fun n s₀ aO => n = 0 /\ GenSince C wr s₀ aO) hh hl hroom hg hgs (hgo _ (fun _ _ _ e => e) ht) (fun v aO gs' hb hv => ?_) (fun aO hp h' hk => ?_)
   · obtain ⟨_,_,hkap⟩ := hv;intro htk;exact False.elim (hkap aO (fun _ _ _ e => e) (le_trans ht htk))
   · obtain ⟨_,g7,Hk,rfl,fV⟩ := hp;intro htk;exact hQ _ ⟨fun b o hb e => hk b o (fV b o (fun h => hb (h ▸ mem_cons_self ..)) (fun h => hb (mem_cons_of_mem _ h)) e),GenOnlyQ.of ((GenOnly.setGen s g .running).trans (GenOnly.setGen _ g .finished)) (setGen_self (gs := .running) (setGen_self hgs)) rfl,rfl,rfl,htk⟩
 self := fun _ _ _ _ st hQ => wpAny_pyIter_gen st.2.1 hQ
theorem Nb.fresh {elt iter : Expr} {x : Str} {px : Pos} {scope : Scope} {pos : Pos} {I a : Addr} {g : Nat} {fp wr : List Addr} {n₀ : Nat} {P : Nat -> Value -> Prop} {mM : Nat -> Heap -> Prop} {cenv : Env} {D U : Nat} (hh : A.handled = none) (mL : ∀ A' : Around,A'.handled = none -> Walks prog w A' I fp wr n₀ P mM) (F : Nat -> Value -> Prop) (hx : cenv.kindOf x = some .local) (hp : (cenv.scope.kind == .class || (cenv.scope.kind == .module && cenv.locals != cenv.globals)) = false) (hco : cenv.scope.isCoroutine = false) (hCf : cenv.locals ∉ fp) {s : Shared} {m : Str -> Option Value} (hD : (A.in1.over (jH elt iter x px scope pos I cenv) []).depth <= D) (hU : (A.in1.over (jH elt iter x px scope pos I cenv) []).units <= U) (hq : Ip prog w cenv x elt fp wr P F D U) (ht : 1 <= s.toks) (hg : s.heap.IsGen a g) (hgs : s.gens[g]? = some (.fresh (.compStart (.GeneratorExp elt [⟨.Name x px,iter,[],0⟩] scope pos) 0 (.ref I) .none cenv))) (hst : mM 0 s.heap) (hn : s.heap.Ns cenv.locals m) (hl : s.heap.NoLimit) : Nb prog w A a g cenv.locals fp wr n₀ F 0 s :=
 ⟨ht,hg,hl,_,hgs,fun s'' hal ht'' => ⟨rfl,yA (A := A.in1) hh mL F hx hp hco hCf hD hU hq s'' s'' m ((mL A hh).frame _ _ _ hst fun b hb o e => hal b (mem_cons_of_mem _ hb) o e)
   (hn.at' fun o e => hal _ (mem_cons_self ..) o e) (GenSince.refl _ _ _) ht''⟩⟩
end
structure pW (G : Gl) : Prop where
 head : ∀ q ∈ G.tabs,CodeHd G.h₀ q.1 q.2
 fresh : ∀ q ∈ G.tabs,G.h₀.get? q.2 = none
theorem rQ {pos : Pos} {c : Value} (pos' : Pos) (l : List Value) (h : TriplesOk l) (cv : Value) (e : codeAmong pos' (l ++ [rawInt pos.line,rawInt pos.col,c]) = some cv) : codeAmong pos' l = some cv \/ (cv = c /\ pos.line = pos'.line /\ pos.col = pos'.col) := by
 fun_induction TriplesOk l with
 | case1 =>
   dsimp only [nil_append,codeAmong,rawInt] at e;split at e
   · rename_i hc
     (injection e with e;subst e)
     replace hc := Bool.and_eq_true_iff.mp hc
     exact .inr ⟨rfl,by lia,by lia⟩
   · exact nS e
 | case2 a t b u x rest ih =>
   dsimp only [cons_append,codeAmong] at e ⊢;split at e
   · rename_i hc;refine aJ (if_pos hc) ?_;exact .inl e
   · rename_i hc;refine aJ (if_neg hc) ?_;exact ih h e
 | case3 l h1 h2 => exact h.elim
theorem n4 {ps : Array Value} (h : TriplesOk ps.toList) (n : Str) (t : Tok) : ps[1]? ≠ some (.str n t) := by
 intro e;rw [<- getElem?_toList] at e;generalize ps.toList = l at h e;cases l with
 | nil => exact nS e
 | cons a l => cases l with
   | nil => exact nS e
   | cons b l =>
     cases si e;cases a <;> first | exact h | (cases l <;> exact h)
section
variable {G : Gl} {α : List Addr} {H : List MO} {s : Shared}
theorem vX (T : pW G) (i : cL G α H s) {q : Addr × Addr} (hq : q ∈ G.tabs) {ps : Array Value} (hP : s.heap.get? q.2 = some (tabObj ps)) (ht : TriplesOk ps.toList) {pos : Pos} {c' : Addr} {qual : Str} {h' : Heap} {tk : Nat} (hx : Heap.ExtBut q.2 s.heap h') (hP' : h'.get? q.2 = some (tabObj (ps ++ #[rawInt pos.line,rawInt pos.col,.ref c']))) (hrec : h'.CodeRec (.ref c') qual) (hqual : ∀ pos' : Pos,pos.line = pos'.line -> pos.col = pos'.col -> ∀ n,G.qual pos' = some n -> n = qual) : cL G α H { s with heap := h',toks := tk } /\ a5 G [] α s α { s with heap := h',toks := tk } := by
 have imm : tI s.heap h' := fun b o e im => by
   by_cases hb : b = q.2
   · replace e := hP ▸ hb ▸ e;(injection e with e;subst e);exact absurd im (dN (by intro q;cases q) (by intro q;cases q) : ¬ Mb (tabObj ps))
   · exact hx b o hb e
 have hα : q.2 ∉ α := fun m => by
   refine bP fun no => ?_;obtain ⟨j,hj,e⟩ := getElem_of_mem m;refine no ?_;have hl : j < H.length := by refine cE i.len ?_;exact hj
   have := i.objs j q.2 H[j] (by refine cE e ?_;simp [hj]) (by simp [hl]);generalize H[j] = mo at this;cases mo with
   | list xs => obtain ⟨_,vs,n,g,_⟩ := this;replace g := hP ▸ g;cases g
   | obj => have g : s.heap.get? q.2 = _ := this;replace g := hP ▸ g;cases g
 refine ⟨⟨fun b o e => ?_,i.len,i.nodup,i.fresh,fun l b o h1 h2 => ?_,fun r hr => ?_,i.bare⟩,⟨[],by simp,by exact fun _ h => absurd h not_mem_nil⟩,fun b o e h1 h2 h3 => ?_,imm,rfl,rfl,fun _ _ e => e,fun b o e => ?_⟩
 · exact hx b o (fun z => by replace e := (T.fresh q hq) ▸ z ▸ e;exact nS e) (i.base b o e)
 · have hne : b ≠ q.2 := fun z => hα (z ▸ mem_of_getElem? h1);have := OR.mono (h' := h') [] imm (fun o e => hx b o hne e) (i.objs l b o h1 h2)
   rwa [append_nil] at this
 · obtain ⟨ps',e,t1,t2⟩ := i.tabs r hr;have keepRec : ∀ c'' n,s.heap.CodeRec (.ref c'') n -> h'.CodeRec (.ref c'') n := fun c'' n ⟨c,oc,vs,t,z1,z2,z3,z4⟩ => by
     refine ⟨c,oc,vs,t,z1,hx c oc (fun z => ?_) z2,z3,z4⟩
     replace z2 := hP ▸ z ▸ z2;(injection z2 with z2;subst z2);(injection z3 with z3;subst z3)
     exact n4 ht _ _ z4
   by_cases hrq : r.2 = q.2
   · replace e := hP ▸ hrq ▸ e;cases e
     refine ⟨_,by refine aJ hrq ?_;exact hP',by simpa using TriplesOk_snoc pos.line pos.col (.ref c') ps.toList t1,fun pos' cv hcv => ?_⟩
     replace hcv := (by simp : (ps ++ #[rawInt pos.line,rawInt pos.col,Value.ref c']).toList = ps.toList ++ [rawInt pos.line,rawInt pos.col,.ref c']) ▸ hcv
     rcases rQ pos' ps.toList t1 cv hcv with h | ⟨rfl,h1,h2⟩
     · obtain ⟨c'',e1,f⟩ := t2 pos' cv h;exact ⟨c'',e1,fun n hn => keepRec _ _ (f n hn)⟩
     · exact ⟨c',rfl,fun n hn => by refine aJ (hqual pos' h1 h2 n hn) ?_;exact hrec⟩
   · refine ⟨ps',hx _ _ hrq e,t1,fun pos' cv hcv => ?_⟩;obtain ⟨c'',e1,f⟩ := t2 pos' cv hcv;exact ⟨c'',e1,fun n hn => keepRec _ _ (f n hn)⟩
 · exact hx b o (fun z => h2 (z ▸ mem_map_of_mem hq)) e
 · by_cases hb : b = q.2
   · refine aJ hb ?_;exact ⟨_,hP'⟩
   · exact ⟨o,hx b o hb e⟩
theorem vY (T : pW G) (i : cL G α H s) {q : Addr × Addr} (hq : q ∈ G.tabs) {env : Env} (hc : env.code = .ref q.1) {pos : Pos} {qual : Str} {scope : Scope} (hqual : ∀ pos' : Pos,pos.line = pos'.line -> pos.col = pos'.col -> ∀ n,G.qual pos' = some n -> n = qual) {A : Around} {E : cB} {Q : cB} (h : ∀ code h' tk,cL G α H { s with heap := h',toks := tk } -> a5 G [] α s α { s with heap := h',toks := tk } -> Q code { s with heap := h',toks := tk }) : wpAny (model G.prog G.w) A (genexprCode env pos qual scope) Q E s := by
 refine bP fun no => ?_;obtain ⟨ps,hP,t1,t2⟩ := i.tabs q hq;refine no ?_;have hd := (T.head q hq).keeps i.base;cases hf : codeAmong pos ps.toList with
 | some cv => exact wpAny_genexprCode_hit hc (hd.code hP t1) hf (h cv s.heap s.toks i .refl)
 | none =>
   refine wpAny_genexprCodeX hc (hd.code hP t1) (hd.tab hP) hf fun c' h' tk hx h1 h2 h3 hrec htab _ => ?_;obtain ⟨i',t'⟩ := vX (tk := tk) T i hq hP t1 hx htab.2 hrec hqual;exact h _ h' tk i' t'
end
section
variable {G : Gl} {env : Env} {names : List Str} {n : Nat}
noncomputable def tX (G : Gl) : Prop := ∃ bm o,G.mg "__builtins__" = some (.ref bm) /\ bm ≠ builtinsNs /\ G.h₀.get? bm = some o /\ o.cls = .type "module" /\ o.dict = some builtinsNs /\ o.data = .plain
theorem tX.go (B : tX G) (O : sK G) {A : Around} {E : cB} {s : Shared} {Q : Addr -> Shared -> Prop} (hb : ∀ b o,G.h₀.get? b = some o -> s.heap.get? b = some o) (h : Q builtinsNs s) : wpAny (model G.prog G.w) A (builtinsFor mainGlobals builtinsNs) Q E s := by
 obtain ⟨bm,o,h1,h2,h3,h4,h5,h6⟩ := B;exact wpAny_builtinsFor (O.g.keeps hb) h1 h2 (hb _ _ h3) h4 h5 h6 h
theorem Cp {x y z y' z' : Str} {px pa pa' p p' : Pos} {k1 k2 k3 k4 : _} {p1 p2 p3 p4 : Pos} {cenv : Env} (hk : cenv.scope.kind = .function) (hx : cenv.kindOf x = some .local) (hd : (x == ("__debug__" : Str)) = false) (h1 : (y == z) = false) (h2 : z.length <= 10) (h3 : (y' == z') = false) (h4 : z'.length <= 10) (hb : attributeBase (.Name x px) "replace" cenv (eval (.Name x px) cenv) = eval (.Name x px) cenv) (hb' : attributeBase (.Call (.Attribute (.Name x px) "replace" pa) [.Constant (.str y) k1 p1,.Constant (.str z) k2 p2] [] p) "replace" cenv (eval (.Call (.Attribute (.Name x px) "replace" pa) [.Constant (.str y) k1 p1,.Constant (.str z) k2 p2] [] p) cenv) = eval (.Call (.Attribute (.Name x px) "replace" pa) [.Constant (.str y) k1 p1,.Constant (.str z) k2 p2] [] p) cenv) (hl : (pa.endLine == p.line) = true) (hl' : (pa'.endLine == p'.line) = true) {A : Around} {E : cB} {s : Shared} {m : Str -> Option Value} {v : Str} {t : Tok} (ht : 1 <= s.toks) (hn : s.heap.Ns cenv.locals m) (hm : m x = some (.str v t)) (hv : v.length <= 50) (hv' : (Txt.replace v y z).length <= 1000) : wpAny (model G.prog G.w) A (eval (.Call (.Attribute (.Call (.Attribute (.Name x px) "replace" pa) [.Constant (.str y) k1 p1,.Constant (.str z) k2 p2] [] p) "replace" pa') [.Constant (.str y') k3 p3,.Constant (.str z') k4 p4] [] p') cenv) (fun r s' => (∃ t',r = .str (Txt.replace (Txt.replace v y z) y' z') t') /\ Keeps s s') E s := by
 refine nQ ?_;intro iC;refine Call_method2 hb' rfl hl' (wpAny_with_toks (n := 1) ht ?_);refine nQ ?_;intro bU;refine Call_method2 hb rfl hl (wpAny_Name (wpAny_loadName_local hk hx hn hm ?_) hd);refine ⟨"str","str.replace",PySem.F.plainAttrs_str,PySem.F.slot_str_replace,PySem.F.type_str_replace,typeIs_str _ _ _,(fun a e => by cases e),?_⟩;refine callWith_of (P := fun _ => True) rfl (fun h _ => ⟨.machine,.inr (.inl rfl),.now⟩) ?_;refine Calls.evalArgs_plain (Calls.spliced_cons (wpAny_Constant_str (Calls.spliced_cons (wpAny_Constant_str (Calls.spliced_nil ⟨trivial,?_⟩)))));refine i9 h1 h2 (by exact le_trans ‹_› (by decide)) (Io (a := s.toks) (b := 0) (ne_of_gt ‹_›)) (Io (a := s.toks + 1) (b := 0) (by (exact succ_ne_zero _;done))) (Io (a := s.toks) (b := s.toks + 1) (by solve_by_elim (maxDepth := 3) [ne_of_lt,lt_of_le_of_lt])) fun t' k hlen => ?_;intro hk1;have hk1' : 1 <= k := hk1;refine ⟨"str","str.replace",PySem.F.plainAttrs_str,PySem.F.slot_str_replace,PySem.F.type_str_replace,typeIs_str _ _ _,(fun a e => by cases e),?_⟩;refine callWith_of (P := fun _ => True) rfl (fun h _ => ⟨.machine,.inr (.inl rfl),.now⟩) ?_;refine Calls.evalArgs_plain (Calls.spliced_cons (wpAny_Constant_str (Calls.spliced_cons (wpAny_Constant_str (Calls.spliced_nil ⟨trivial,?_⟩)))));refine i9 h3 h4 hv' (Io (a := k) (b := 0) (ne_of_gt ‹_›)) (Io (a := k + 1) (b := 0) (by (exact succ_ne_zero _;done))) (Io (a := k) (b := k + 1) (by solve_by_elim (maxDepth := 3) [ne_of_lt,lt_of_le_of_lt])) fun t'' k' hlen' => ?_;exact ⟨⟨_,rfl⟩,s.heap,k',rfl,fun _ _ e => e⟩
theorem a5.gen {X Y α α' : List Addr} {s s₃ s' : Shared} (t : a5 G Y α s α' s₃) (hX : ∀ x ∈ X,s.heap.get? x = none) (hk : ∀ b o,b ∉ X -> s₃.heap.get? b = some o -> s'.heap.get? b = some o) (hd : s'.drawn = s₃.drawn) (ho : s'.os = s₃.os) (hg : ∀ (i : Nat) g,s₃.gens[i]? = some g -> s'.gens[i]? = some g) : a5 G Y α s α' s' := by
 have nX : ∀ {b o},s.heap.get? b = some o -> b ∉ X := fun e q => by rw [hX _ q] at e;exact nS e
 exact ⟨t.ext,fun b o e h1 h2 h3 => hk b o (nX e) (t.keep b o e h1 h2 h3),fun b o e q => hk b o (nX e) (t.imm b o e q),hd.trans t.drawn,ho.trans t.os,fun i g e => hg i g (t.gens i g e),fun b o e => (by obtain ⟨o',e'⟩ := t.there b o e;exact ⟨o',hk b o' (nX e) e'⟩)⟩
end
section
variable {G : Gl} {env : Env} {names : List Str} {n : Nat}
inductive Kf (sep a b a' b' : Str) (P : cM) (v : MV) (H' : List MO) : Prop
 | mk (j : Nat) (xs : List MV) (ys : List Str) (e : v = .ref j) (h : H'[j]? = some (.list xs)) (t : vM xs = some ys) (l : ys.length <= 50) (r : ∀ y ∈ ys,y.length <= 50 /\ (Txt.replace y a b).length <= 1000 /\ (Txt.replace (Txt.replace y a b) a' b').length <= 10000) (s : sep.length <= 10)
   (p : P (.str (Txt.join sep (ys.map fun y => Txt.replace (Txt.replace y a b) a' b'))) H') : Kf sep a b a' b' P v H'
noncomputable def iO (sep : Str) (a b a' b' : Str) (w : WE) : WE := fun ρ H P => w ρ H (Kf sep a b a' b' P)
theorem vZ {f : Nat -> Str} : ∀ {l : List (Str × Tok)} {m : Nat},ItemsOf (fun i v => ∃ t,v = .str (f i) t) (strValues l).toArray m -> l.map (·.1) = (List.range m).map f := by
 intro l m h;obtain ⟨h1,h2⟩ := h;have hl : l.length = m := by simpa [strValues] using h1
 apply ext_getElem?;intro i;by_cases hi : i < m
 · have e1 : (strValues l).toArray[i]? = some (.str l[i].1 l[i].2) := by simp [strValues,hi,hl]
   refine bP fun no => ?_;obtain ⟨t,e2⟩ := h2 i _ e1;injection e2 with e3 e4;refine no ?_;exact aJ (by simp [hi,hl] : (l.map (·.1))[i]? = some l[i].1) (aJ (by simp [hi,getElem?_range] : ((List.range m).map f)[i]? = some (f i)) (aJ e3 rfl))
 · exact aJ (List.getElem?_eq_none (by simp;omega)) (aJ (List.getElem?_eq_none (by simp;exact not_lt.mp ‹_›)) rfl)
theorem E.joinGen {sep x : Str} {ksep : _} {psep px apos pos gpos : Pos} {elt iter : Expr} {scope : Scope} {cl : List (Str × Addr)} {wc : WE} {q : Addr × Addr} {a b a' b' : Str} (O : sK G) (T : pW G) (B : tX G) (hq : q ∈ G.tabs) (hcode : env.code = .ref q.1) (hglob : env.globals = mainGlobals) (hbi : env.builtins = builtinsNs) (hqual : ∀ pos' : Pos,gpos.line = pos'.line -> gpos.col = pos'.col -> ∀ n,G.qual pos' = some n -> n = env.qual ++ "<genexpr>") (hco : scope.isCoroutine = false) (hclos : closureFor scope env = pure cl) (hcell : ∀ y ∈ scope.names,y.2 ≠ .cell) (h0 : scope.names.lookup (".0" : Str) = some NameKind.local) (hxl : scope.names.lookup x = some .local) (hkind : scope.kind = .function) (hc : aP G env names n iter wc) (hs : ∀ x,genFold iter env x = pure x) (helt : ∀ (C : Addr) (code : Value) (A : Around) (E : cB) (s : Shared) (m : Str -> Option Value) (v : Str) (t : Tok),1 <= s.toks -> s.heap.Ns C m -> m x = some (.str v t) -> v.length <= 50 -> (Txt.replace v a b).length <= 1000 -> wpAny (model G.prog G.w) A (eval elt (genEnv scope cl C code builtinsNs env)) (fun r s' => (∃ t',r = .str (Txt.replace (Txt.replace v a b) a' b') t') /\ Keeps s s') E s) (hbase : attributeBase (.Constant (.str sep) ksep psep) "join" env (eval (.Constant (.str sep) ksep psep) env) = eval (.Constant (.str sep) ksep psep) env) (hs1 : starEach [.GeneratorExp elt [⟨.Name x px,iter,[],0⟩] scope gpos] env = [(false,eval (.GeneratorExp elt [⟨.Name x px,iter,[],0⟩] scope gpos) env)]) (hline : (apos.endLine == pos.line) = true) : aP G env names (n + 1) (.Call (.Attribute (.Constant (.str sep) ksep psep) "join" apos) [.GeneratorExp elt [⟨.Name x px,iter,[],0⟩] scope gpos] [] pos) (iO sep a b a' b' wc) := by
 intro A ok E s α H ρ P st hw;refine Call_method1 hbase hs1 hline (wpAny_Constant_str ?_);generalize Oo : ({ s with toks := s.toks + 1 } : Shared) = aO;have Ju : Kp s aO := by refine cE Oo ?_;exact Kp.tok _
 refine ⟨"str","str.join",PySem.F.plainAttrs_str,PySem.F.slot_str_join,PySem.F.type_str_join,typeIs_str _ _ _,(fun a e => by cases e),?_⟩;refine callWith_of (P := fun _ => True) rfl (fun h _ => ⟨.machine,.inr (.inl rfl),.now⟩) ?_;refine Calls.evalArgs_plain (Calls.spliced_cons ?_);refine wpAny_GeneratorExp_make hco hclos hcell h0 hkind (by have := ok.2.1;exact lt_of_le_of_lt (le_add_right _ _) ‹_›) (fM (hc A (ok.le (Nat.le_succ _)) E aO α H ρ _ (st.step Ju.step (st.inv.kp Ju)) hw) fun v bH bL xv s₂ q3 dW bQ bF => ?_) hs;refine nQ ?_;intro Qaa;refine bP fun no => ?_;obtain ⟨j,xs,ys,rfl,hj,hy,hl50,hall,hsep,hP⟩ := q3;obtain ⟨l,va,m,ha,g1,q1⟩ := bQ.list dW hj;obtain ⟨pl,hv,hy'⟩ := mX hy q1;refine no ?_;have ll : va.size = ys.length := by refine cE length_toList (aJ hv (cE hy' ?_));simp [strValues]
 refine wpAny_pyIter_list ⟨_,g1,rfl,_,rfl⟩ ?_;generalize hI : s₂.heap.objs.size = I;have hIf : s₂.heap.get? I = none := a9 (le_of_eq hI);generalize oJ : ({ s₂ with heap := s₂.heap.push { cls := .type "list_iterator",data := .fields #[.ref l,.int 0 0] } } : Shared) = s₃;have En : Kp s₂ s₃ := by refine cE oJ ?_;exact Kp.push _
 have gI : s₃.heap.IsListIter I l 0 := by refine cE oJ (cE hI ?_);exact ⟨_,get?_push_size _ rfl,rfl,rfl⟩
 have eN := bQ.kp En;refine ⟨O.lim.keeps eN.base,?_⟩;refine vY T eN hq hcode hqual fun code iG Ks fU iH => ?_;refine aJ hglob (aJ hbi ?_);refine B.go O fU.base ?_;generalize Rx : ({ s₃ with heap := iG,toks := Ks } : Shared) = bY at *;intro sJ hns hsb;have apI := cQ bQ hIf;have hlI : l ≠ I := fun e => by replace g1 := hIf ▸ e ▸ g1;exact nS g1
 have Hm : bY.heap.IsListIter I l 0 := by
   obtain ⟨o,ho,r⟩ := gI;exact ⟨o,iH.keep I o ho apI.1 apI.2.1 not_mem_nil,r⟩
 refine bP fun no => ?_;obtain ⟨va',m',g1',q1'⟩ := fU.lst ha hj;obtain ⟨pl',hv',hy''⟩ := mX hy q1';refine no ?_;have ll' : va'.size = ys.length := by rw [<- length_toList,hv',<- hy''];simp [strValues]
 generalize hC : bY.heap.objs.size = C at hns hsb ⊢;have hCf : bY.heap.get? C = none := a9 (le_of_eq hC);have hsz5 : sJ.objs.size = C + 1 := by rw [hsb.1,Heap.size_push,hC]
 refine Calls.spliced_nil ⟨trivial,?_⟩;generalize ha5 : sJ.objs.size = ga;have hga : ga = C + 1 := by refine cE ha5 ?_;exact hsz5
 generalize hg5 : bY.gens.size = g
 skip
 generalize rB : ({ bY with gens := bY.gens.push (.fresh (.compStart (.GeneratorExp elt [⟨.Name x px,iter,[],0⟩] scope gpos) 0 (.ref I) .none (genEnv scope cl C code builtinsNs env))),toks := bY.toks + 1 + 1 + 1,heap := sJ.push { cls := .type "generator",data := .fields #[.int g 0,.str "<genexpr>" (bY.toks + 1),.str (env.qual ++ "<genexpr>") (bY.toks + 1 + 1)] } } : Shared) = fG;have h6 : fG.heap = sJ.push { cls := .type "generator",data := .fields #[.int g 0,.str "<genexpr>" (bY.toks + 1),.str (env.qual ++ "<genexpr>") (bY.toks + 1 + 1)] } := by exact cE rB rfl
 have up : ∀ c o,bY.heap.get? c = some o -> fG.heap.get? c = some o := fun c o e => by refine aJ h6 ?_;exact (fun c o e => get?_push_of_some _ e : ∀ c o,sJ.get? c = some o -> (sJ.push { cls := .type "generator",data := .fields #[.int g 0,.str "<genexpr>" (bY.toks + 1),.str (env.qual ++ "<genexpr>") (bY.toks + 1 + 1)] }).get? c = some o) c o ((fun c o e => hsb.extBut c o (fun z => by rw [z,hCf] at e;exact nS e) (get?_push_of_some _ e) : ∀ c o,bY.heap.get? c = some o -> sJ.get? c = some o) c o e)
 have hlC : @LT.lt Nat _ l C := by refine cE hC ?_;exact lt_size g1'
 have hIC : @LT.lt Nat _ I C := by obtain ⟨o,ho,_⟩ := Hm;refine cE hC ?_;exact lt_size ho
 have hclt : @LT.lt Nat _ cStatics C := by obtain ⟨_,hn,_⟩ := O.lim.keeps fU.base;refine cE hC ?_;exact hn.lt
 have hcI : cStatics ≠ I := fun e => by
   obtain ⟨_,hn,_⟩ := O.lim;obtain ⟨o,es,ep,ho,_⟩ := hn
   replace ho := apI.2.2 ▸ e ▸ ho;exact nS ho
 have mL : ∀ A' : Around,A'.handled = none -> Walks G.prog G.w A' I (List.range C) [I] va'.size (fun i v => va'[i]? = some v) (fun i h => h.IsListIter I l i /\ h.IsList l va') := fun A' hA =>
   (Walks.list hA I l hlI va').mono_fp fun b hb => by
     rcases mem_cons.mp hb with rfl | hb
     · exact mem_range.mpr hIC
     · refine aJ (mem_singleton.mp hb) ?_;exact mem_range.mpr hlC
 have hItem : ∀ (i : Nat) (v : Value),va'[i]? = some v -> ∃ (y : Str) (t : Tok),ys[i]? = some y /\ v = Value.str y t := fun i v e => by
   replace e := hv' ▸ getElem?_toList.symm ▸ e
   skip
   replace e := getElem?_map ▸ e
   cases e2 : pl'[i]? with
   | none => replace e := e2 ▸ e;exact nS e
   | some p =>
     replace e := e2 ▸ e;(injection e with e;subst e)
     exact ⟨p.1,p.2,by refine cE hy'' ?_;simp [e2],rfl⟩
 have hns6 : fG.heap.Ns C (fun y => if y = (".0" : Str) then some (.ref I) else none) := by refine aJ h6 ?_;exact hns.push _
 have hG : Ip G.prog G.w (genEnv scope cl C code builtinsNs env) x elt (List.range C) [I] (fun i v => va'[i]? = some v) (fun i v => ∃ t,v = .str (Txt.replace (Txt.replace (ys.getD i Str.empty) a b) a' b') t)
     ((A.in1.in1.in1).over (jH elt iter x px scope gpos I (genEnv scope cl C code builtinsNs env)) []).depth ((A.in1.in1.in1).over (jH elt iter x px scope gpos I (genEnv scope cl C code builtinsNs env)) []).units :=
   ⟨fun A' E' i v s' m' _ _ _ ht hv hn hm => by
     refine bP fun no => ?_;obtain ⟨y,t,hyi,rfl⟩ := hItem i v hv;refine no ?_;have hyd : ys.getD i Str.empty = y := by refine aJ getD_eq_getElem?_getD (aJ hyi ?_);rfl
     refine aJ hyd ?_;refine bP fun no => ?_;obtain ⟨b1,b2,_⟩ := hall y (mem_of_getElem? hyi);refine no ?_;exact helt C code A' E' s' m' y t ht hn hm b1 b2⟩
 have hgat : Nb G.prog G.w A.in1.in1 ga g C (List.range C) [I] va'.size (fun i v => ∃ t,v = .str (Txt.replace (Txt.replace (ys.getD i Str.empty) a b) a' b') t) 0 fG := by
   have gs : fG.gens[g]? = some (.fresh (.compStart (.GeneratorExp elt [⟨.Name x px,iter,[],0⟩] scope gpos) 0 (.ref I) .none (genEnv scope cl C code builtinsNs env))) := by
     refine cE rB (cE hg5 ?_);simp
   have gen : fG.heap.IsGen ga g := by refine aJ h6 (cE ha5 ?_);exact ⟨_,_,_,get?_push_size _ rfl,rfl,rfl,rfl⟩
   exact Nb.fresh (A := A.in1.in1) (cenv := genEnv scope cl C code builtinsNs env) ok.1 mL _ hxl (by simp [genEnv,hkind]) hco (fun hm => lt_irrefl _ (mem_range.mp hm)) (le_refl _) (le_refl _) hG (by refine cE rB ?_;exact le_add_left _ _) gen gs
     ⟨Hm.at fun o e => up I o e,⟨_,up l _ g1',rfl,_,rfl⟩⟩ hns6 (O.lim.keeps fun c o e => up c o (fU.base c o e))
 have hWS := Le (prog := G.prog) (w := G.w) (A := A.in1.in1) ok.1 ga g C (List.range C) [I] va'.size (fun i v => ∃ t,v = .str (Txt.replace (Txt.replace (ys.getD i Str.empty) a b) a' b') t) (M9 (by lia)) (fun hm => by have := mem_range.mp hm;lia)
   (fun c hc => by refine aJ (mem_singleton.mp hc) ?_;exact mem_range.mpr hIC) (by have := ok.2.1;skip;lia) (mem_range.mpr hclt) (M9 (.inl hclt)) (by simpa using hcI)
 have hjl : ∀ zs : List Str,zs.length <= 50 -> (∀ z ∈ zs,z.length <= 10000) -> JoinOk sep zs = true := fun zs h1 h2 => by
   unfold JoinOk;have e1 : (zs.toArray.foldl (fun x1 x2 => x1 + x2.length + sep.length) 0) = (zs.map fun y => y.length + sep.length).sum := by
     refine aJ (foldl_toArray ..) (aJ (pR ..) ?_);lia
   refine aJ e1 ?_;have e2 : ∀ ws : List Str,(∀ z ∈ ws,z.length <= 10000) -> (ws.map fun y => y.length + sep.length).sum <= ws.length * 10010 := by
     intro ws;induction ws with
     | nil => intro _;exact le_refl _
     | cons w ws ih =>
       intro h;have h3 := h w mem_cons_self;have h4 := ih fun z hz => h z (mem_cons_of_mem _ hz);simp only [map_cons,sum_cons,length_cons]
       lia
   have e3 := e2 zs h2;unfold Builtin.Str.tooLong sizeLine;refine aJ (Bool.not_eq_true' ..) ?_;exact decide_eq_false (by lia)
 refine SC.joinGen hWS (fun i s' st => st.2.1.typeIs) hgat (fun c hc => ?_) (by simp) (fun i v h => let ⟨t,e⟩ := h;⟨_,t,e⟩) (fun oX l' hm rI => ?_) (by rw [ll'];exact le_trans hl50 (by decide))
 · have hsz6 : fG.heap.objs.size = C + 2 := by rw [h6,Heap.size_push,hsz5]
   rw [hsz6];show @LT.lt Nat _ c (C + 2);rcases mem_cons.mp hc with e | hc
   · have e' : @Eq Nat c ga := e
     lia
   · rcases mem_cons.mp hc with e | hc
     · have e' : @Eq Nat c C := e
       lia
     · have e' : @LT.lt Nat _ c C := mem_range.mp hc
       lia
 · have hmap : l'.map (·.1) = ys.map fun y => Txt.replace (Txt.replace y a b) a' b' := by
     refine aJ (vZ rI) (aJ ll' ?_);apply ext_getElem?;intro i;by_cases hi : i < ys.length
     · simp [hi,getElem?_range]
     · exact aJ (List.getElem?_eq_none (by simp;lia)) (aJ (List.getElem?_eq_none (by simp;lia)) rfl)
   refine aJ hmap ?_;have hz : ∀ z ∈ ys.map (fun y => Txt.replace (Txt.replace y a b) a' b'),z.length <= 10000 := fun z hz => by
     obtain ⟨y,hy1,rfl⟩ := mem_map.mp hz;exact (hall y hy1).2.2
   have hjo := hjl _ (by simpa using hl50) hz;refine ⟨hjo,fun t' k => ?_⟩;have hlen : (Txt.join sep (ys.map fun y => Txt.replace (Txt.replace y a b) a' b')).length <= sizeLine := by
     unfold JoinOk at hjo
     replace hjo := (Bool.not_eq_true' ..) ▸ hjo
     exact joinFit_length hjo
   have hk47 : ∀ c o,c ∉ [I] -> bY.heap.get? c = some o -> oX.heap.get? c = some o := fun c o hc e => by
     refine hm.heap c o (fun q => ?_) (up c o e);rcases mem_cons.mp q with rfl | q
     · replace e := hCf ▸ e;exact nS e
     · exact hc q
   have hgens : ∀ (i : Nat) x,bY.gens[i]? = some x -> oX.gens[i]? = some x := fun i x e => by
     have hi : i < g := by refine cE hg5 ?_;exact (Array.getElem?_eq_some_iff.mp e).1
     have e6 : fG.gens[i]? = some x := by refine cE rB ?_;simp [getElem?_push,e];intro h;replace hi := hg5 ▸ h ▸ hi;lia
     rcases hm.gens with h | ⟨h,_⟩
     · refine aJ h ?_;exact e6
     · refine aJ (h.2 i (by lia)) ?_;exact e6
   have hbare : AllBare oX.gens := by
     refine GenOnlyQ.bare hm.gens ?_;refine cE rB ?_;intro y hy;rcases Array.mem_push.mp hy with h | rfl
     · exact fU.bare y h
     · rfl
   have ownI : ∀ y ∈ [I],∀ o,bY.heap.get? y = some o -> kG o := fun y hy o e => by
     replace e := (mem_singleton.mp hy) ▸ e
     obtain ⟨o',ho',hc',hd'⟩ := Hm
     replace ho' := e ▸ ho';(injection ho' with ho';subst ho')
     exact fO hc' hd' (by decide) (by decide) (by intro n t q;cases q)
   have hIs : s.heap.get? I = none := by
     cases e : s.heap.get? I with
     | none => rfl
     | some o =>
       obtain ⟨o',e'⟩ := (Ju.step (G := G) (X := []) (α := α)).trans bF |>.there I o e
       replace e' := hIf ▸ e';exact nS e'
   exact ⟨.str _,bH,bL,hP,VR.str hlen,(fU.but (X := [I]) (fun y hy => by refine aJ (mem_singleton.mp hy) ?_;exact apI) ownI hk47 hbare : cL G bL bH { oX with toks := k }),(a5.gen (X := [I]) (((Ju.step.trans bF).trans En.step).trans iH) (fun y hy => by refine aJ (mem_singleton.mp hy) ?_;exact hIs) hk47 (by exact aJ hm.drawn (cE rB rfl) : oX.drawn = bY.drawn) (by exact aJ hm.os (cE rB rfl) : oX.os = bY.os) hgens : a5 G [] α s bL { oX with toks := k })⟩
end
section
variable {G : Gl} {env : Env} {names : List Str} {n : Nat}
theorem tX.at (B : tX G) (O : sK G) {h : Heap} {P : Addr} (hb : ∀ b o,G.h₀.get? b = some o -> h.get? b = some o) (hP : G.h₀.get? P = none) : h.BuiltinsAt G.mg P := by
 obtain ⟨bm,o,h1,h2,h3,h4,h5,h6⟩ := B;refine ⟨bm,o,h1,h2,fun q => ?_,fun q => ?_,hb _ _ h3,h4,h5,h6⟩
 · obtain ⟨o',es,ep,e,hd,_⟩ := O.g
   replace e := h3 ▸ q.symm ▸ e;(injection e with e;subst e);replace h6 := hd ▸ h6;cases h6
 · replace h3 := hP ▸ q ▸ h3;exact nS h3
theorem v5 {params : Arguments} {body : Expr} {scope : Scope} {pos : Pos} {clos : List (Str × Addr)} {q : Addr × Addr} {α : List Addr} {H : List MO} {s : Shared} (O : sK G) (T : pW G) (B : tX G) (hq : q ∈ G.tabs) (hcode : env.code = .ref q.1) (hglob : env.globals = mainGlobals) (hdef : defaultsOf params env = ([],[])) (hcl : closureFor scope env = pure clos) (hq1 : G.qual pos = some (env.qual ++ "<lambda>")) (hqual : ∀ pos' : Pos,pos.line = pos'.line -> pos.col = pos'.col -> ∀ n,G.qual pos' = some n -> n = env.qual ++ "<lambda>") (i : cL G α H s) {A : Around} {E : cB} {Q : cB} (h : ∀ f pm c' ctv s',cL G α H s' -> a5 G [] α s α s' -> s.heap.get? f = none -> s'.heap.get? f = some (kla_obj "<lambda>" (env.qual ++ "<lambda>") params body scope clos pm c' ctv) -> s'.heap.CodeRec (.ref c') (env.qual ++ "<lambda>") -> Q (.ref f) s') : wpAny (model G.prog G.w) A (eval (.Lambda params body scope pos) env) Q E s := by
 refine kla_eval hdef ?_;refine bP fun no => ?_;obtain ⟨ps,hP,t1,t2⟩ := i.tabs q hq;refine no ?_;have hd := (T.head q hq).keeps i.base;have hg := O.g.keeps i.base;have hgP : mainGlobals ≠ q.2 := fun z => by
   obtain ⟨o',es,ep,e,hd,_⟩ := O.g;rw [z,T.fresh q hq] at e;exact nS e
 cases hf : codeAmong pos ps.toList with
 | some cv =>
   refine bP fun no => ?_;obtain ⟨c',rfl,hrec⟩ := t2 pos cv hf;refine no ?_;refine kla_makeFunctionHit (mg := G.mg) hcl hglob hg hcode hd hP t1 hf (B.at O i.base (T.fresh q hq)) fun ctv h' tk hk hsz => ?_;have kp : Kp s { s with heap := h'.push (kla_obj "<lambda>" (env.qual ++ "<lambda>") params body scope clos ((G.mg "__name__").getD .none) c' ctv),toks := tk } := ⟨fun b o e => get?_push_of_some _ (hk b o e),rfl,rfl,rfl⟩;exact h _ _ c' ctv _ (i.kp kp) kp.step (a9 hsz) (get?_push_size _ rfl) ((hrec _ hq1).keeps kp.keep)
 | none =>
   refine kla_makeFunction (mg := G.mg) hcl hglob hg hcode hd hP t1 hf hgP (B.at O i.base (T.fresh q hq)) fun c' ctv h' tk hx hge hlt hrec htb => ?_;obtain ⟨i',t'⟩ := vX (tk := tk) T i hq hP t1 hx htb hrec hqual;have kp : Kp { s with heap := h',toks := tk } { s with heap := h'.push (kla_obj "<lambda>" (env.qual ++ "<lambda>") params body scope clos ((G.mg "__name__").getD .none) c' ctv),toks := tk } := ⟨fun b o e => get?_push_of_some _ e,rfl,rfl,rfl⟩;refine h _ _ c' ctv _ (i'.kp kp) (t'.trans kp.step) ?_ (get?_push_size _ rfl) (hrec.keeps kp.keep);cases e : s.heap.get? h'.objs.size with
   | none => rfl
   | some o =>
     obtain ⟨o',e'⟩ := t'.there _ o e;exact absurd (lt_size e') (lt_irrefl _)
theorem v6 {f c' : Addr} {name qual : Str} {params : Arguments} {body : Expr} {scope : Scope} {cl : List (Str × Addr)} {pm ctv : Value} {x : Str} {v : Value} {s : Shared} {A : Around} {E : cB} {Q : cB} (O : sK G) (hb : ∀ b o,G.h₀.get? b = some o -> s.heap.get? b = some o) (ho : s.heap.get? f = some (kla_obj name qual params body scope cl pm c' ctv)) (hrec : s.heap.CodeRec (.ref c') qual) (hroom : A.depth < recursionLimit) (hbind : bindArgs (kla_fn name qual params body scope cl pm (.ref c') ctv) ⟨[v],[]⟩ = pure [(x,v)]) (hloc : scope.names.lookup x = some .local) (hco : scope.isCoroutine = false) (hgen : scope.isGenerator = false) (hk : scope.kind = .function) (hcell : ∀ x ∈ scope.names,x.2 ≠ .cell) (h : ∀ L g7,s.heap.get? L = none -> Kp s { s with heap := g7,toks := s.toks + 1 } -> g7.Ns L (fun y => [(x,v)].lookup y) -> ∀ E',wpAny (model G.prog G.w) (A.deeper (envX qual scope L f (.ref c') cl)) (eval body (envX qual scope L f (.ref c') cl)) Q E' { s with heap := g7,toks := s.toks + 1 }) : wpAny (model G.prog G.w) A (call (.ref f) [v] []) Q E s := by
 refine wpAny_call (kla_callFunE hroom ho rfl hco hgen rfl hrec ?_);refine aJ hbind ?_;refine wpAny_pure (wpAny_newFunctionEnv hcell (by intro y hy;refine aJ (mem_singleton.mp hy) ?_;exact hloc) (fun g7 hns hsb => ⟨?_,?_⟩) hk)
 · exact (O.lim.keeps hb).fresh _ hsb
 · have hLf : s.heap.get? s.heap.objs.size = none := a9 (le_refl _);show codeAny _ _ (.expr body (envX qual scope s.heap.objs.size f (.ref c') cl)) _ _;exact kla_codeExpr (h s.heap.objs.size g7 hLf (⟨fun b o e => hsb.extBut b o (ne_of_lt (lt_size e)) (get?_push_of_some _ e),rfl,rfl,rfl⟩ : Kp s { s with heap := g7,toks := s.toks + 1 }) hns _)
end
section
variable {prog : Program} {w : World} {A : Around} {E : cB} {s : Shared}
theorem rR {R : List Value -> Shared -> Prop} {r : Addr} {a b c : Int} {t u v : Tok} {n : Nat} (hh : A.handled = none) (hr : IsRange s.heap r a b c t u v) (hsmall : Builtin.Range.small a b c = true) (hn : Builtin.Range.rangeSize a b c = n) (hlen : n <= 2 ^ 24) (h : ∀ (h' : Heap) (tk : Nat) (acc : Array Value),(∀ b o,s.heap.get? b = some o -> h'.get? b = some o) -> ItemsOf (fun i v => ∃ t,v = .int (a + i * c) t) acc n -> R acc.toList { s with heap := h',toks := tk }) : wpAny (model prog w) A (collect (.ref r)) R E s := by
 skip
 refine wpAny_bind (wpAny_runValue (codeAny_builtin entry_proto_collect' ?_));refine aJ (Around.under_plainId PySem.F.plain_proto_collect _) ?_
 skip
 refine wpAny_bind (wpAny_newObj_type ?_);refine wpAny_pure ⟨plainId_quiet PySem.F.plain_list_iadd _,codeAny_builtin entry_list_iadd' ?_⟩;refine nQ ?_;intro bU;refine aJ (Around.under_plainId PySem.F.plain_list_iadd _) ?_
 skip
 have key := wpAny_extend_range (A := A) (s := { s with heap := s.heap.push { cls := .type "list",data := .seq ([] : List Value).toArray } })
   (R := fun (q : Result) (s' : Shared) => ∃ (h' : Heap) (tk : Nat) (acc' : Array Value) (c' : Nat),q = .ok (.ret (.ref s.heap.objs.size)) /\ s' = { s with heap := h',toks := tk } /\
     (∀ b o,s.heap.get? b = some o -> h'.get? b = some o) /\ h'.get? s.heap.objs.size = some { cls := .type "list",dict := none,data := .seq acc' c',slots := #[] } /\ ItemsOf (fun i v => ∃ t,v = .int (a + i * c) t) acc' n)
   (prog := prog) (w := w) hh (get?_push_of_some _ hr) hsmall hn hlen s.heap.objs.size (.ref s.heap.objs.size) 0 (get?_push_size _ rfl : (s.heap.push { cls := .type "list",data := .seq ([] : List Value).toArray }).get? s.heap.objs.size = some { cls := .type "list",data := .seq #[] }) fun h' tk acc' c' hk hS' hacc =>
     ⟨h',tk,acc',c',rfl,rfl,fun b o e => hk b o (ne_of_lt (lt_size e)) (get?_push_of_some _ e),hS',hacc⟩
 refine wpAny_mono key (fun fin s' x => ?_) fun e s' x => ?_
 · cases fin with
   | done f =>
     refine bP fun no => ?_;obtain ⟨h',tk,acc',c',e,rfl,hk,hS',hacc⟩ := x;refine no ?_
     (injection e with e;subst e)
     skip
     refine wpAny_bind (wpAny_load hS' ?_);exact wpAny_pure (h h' tk acc' hk hacc)
   | again nY =>
     refine ⟨x.1,codeAny_mono x.2 fun q s₂ y => ?_⟩;obtain ⟨h',tk,acc',c',rfl,rfl,hk,hS',hacc⟩ := y
     skip
     refine wpAny_bind (wpAny_load hS' ?_);exact wpAny_pure (h h' tk acc' hk hacc)
 · obtain ⟨_,_,_,_,e',_⟩ := x;cases e'
theorem A7 {a kS : Addr} {st : SortSt} {keys : Array Value} {e e1 : Nat} {P : PySem.Fin -> Shared -> Prop} (hk : s.heap.get? kS = some (seqObj "list" keys e)) (ha : s.heap.get? a = some (seqObj "list" #[] e1)) (hne : a ≠ kS) (hsz : keys.size <= 30) (hsz2 : (arrOf st).size <= 30) (hf : failedOf st = none) (h : ∀ h' c,(∀ b,b ≠ a -> b ≠ kS -> h'.get? b = s.heap.get? b) -> h'.get? a = some (seqObj "list" ((arrOf st).map (·.2)) c) -> (∃ o,h'.get? kS = some o) -> P (.done (.ret .none)) { s with heap := h' }) : wpAny (model prog w) A (ksk_tail a false e1 (.ref kS) st) P E s := by
 have s1 := Heap.SameBut.update s.heap kS (Obj.mapSeq fun _ => (#[] : Array Value));have na1 : (s.heap.update kS (Obj.mapSeq fun _ => (#[] : Array Value))).get? a = some (seqObj "list" #[] e1) := (s1.2 a hne).trans ha;have s2 := Heap.SameBut.update (s.heap.update kS (Obj.mapSeq fun _ => (#[] : Array Value))) a (Obj.mapSeq fun _ => (arrOf st).map (·.2));obtain ⟨c2,hc2⟩ : ∃ c2,((s.heap.update kS (Obj.mapSeq fun _ => (#[] : Array Value))).update a (Obj.mapSeq fun _ => (arrOf st).map (·.2))).get? a = some (seqObj "list" ((arrOf st).map (·.2)) c2) :=
   ⟨_,get?_update_seq na1 fun _ => (arrOf st).map (·.2)⟩
 skip
 refine wpAny_bind (listUpdate_at hk rfl ?_ (le_trans hsz (by decide)) (zero_le _));refine wpAny_bind (wpAny_letGo ?_);refine wpAny_bind (seqEpoch_at na1 rfl ?_)
 skip
 refine wpAny_bind (listUpdate_at na1 rfl ?_ (zero_le _) (by refine aJ Array.size_map ?_;exact le_trans hsz2 (by decide)));refine aJ hf ?_;simp only [bne_self_eq_false,Bool.false_eq_true,if_false];exact wpAny_pure (h _ c2 (fun b h1 h2 => (s2.2 b h1).trans (s1.2 b h2)) hc2 ⟨_,(s2.2 kS hne.symm).trans (get?_update_seq hk _)⟩)
theorem Lf {a kS : Addr} {keys : Array Value} {vs : List Value} {e e1 : Nat} {P : PySem.Fin -> Shared -> Prop} (hk : s.heap.get? kS = some (seqObj "list" keys e)) (ha : s.heap.get? a = some (seqObj "list" #[] e1)) (hne : a ≠ kS) (hlen : keys.size = vs.length) (h30 : vs.length <= 30) (hkeys : ∀ v ∈ keys.toList,∃ x t,v = .str x t) (h : ∀ h' c (arr : Array Keyed),arr.Perm (keys.zip vs.toArray) -> SortedToK strKind arr arr.size -> (∀ b,b ≠ a -> b ≠ kS -> h'.get? b = s.heap.get? b) -> h'.get? a = some (seqObj "list" (arr.map (·.2)) c) -> (∃ o,h'.get? kS = some o) -> P (.done (.ret .none)) { s with heap := h' }) : wpAny (model prog w) A (ksk_end a false vs.toArray e1 (.ref kS) keys) P E s := by
 have hzs : (keys.zip vs.toArray).size = vs.length := by rw [Array.size_zip,hlen,size_toArray,Nat.min_self]
 have hS := strsAre_map keys.toList hkeys;have h0 : KeysOf strKind (keys.zip vs.toArray) := fun p hp => by
   replace hp := (ksk_zip ..) ▸ hp
   obtain ⟨x,y⟩ := p;obtain ⟨z,t,rfl⟩ := hkeys x (of_mem_zip hp).1;exact ⟨z.cps.toList,rfl⟩
 unfold ksk_end;dsimp only [Bool.false_eq_true,if_false];by_cases h2 : vs.toArray.size < 2
 · refine aJ (if_pos h2) (aJ (if_pos h2) ?_);refine wpAny_bind (wpAny_pure ?_);refine aJ (StateT.run_pure ..) ?_;refine wpAny_bind (wpAny_pure ?_);refine A7 (st := SortSt.mk' general' (keys.zip vs.toArray) #[] 7 none) hk ha hne (by (simp [*];done)) (by show (keys.zip vs.toArray).size <= 30;(simp [*];done)) rfl fun h' c k1 k2 k3 => h h' c (keys.zip vs.toArray) (Array.Perm.refl _) ?_ k1 k2 k3;intro i j hij hj
   replace hj := hzs ▸ hj
   replace h2 := size_toArray ▸ h2
   have : i = j := by lia
   subst this;exact KeyOrd.kle_refl _
 · refine aJ (if_neg h2) (aJ (if_neg h2) ?_)
   replace h2 := size_toArray ▸ h2
   have hkk : keyKind' keys = pure oneType' := by
     have hl2 : 2 <= keys.toList.length := by refine aJ length_toList ?_;lia
     refine aJ (by rfl : keys = keys.toList.toArray) ?_;generalize keys.toList = l at hS hl2;match l,hS,hl2 with
     | v₁ :: L9 :: rest,hS,_ => exact keyKind_strs hS
   refine aJ hkk ?_;refine wpAny_bind (wpAny_pure ?_);refine wpAny_bind (wpAny_mono (wpS_sortRunsK (κ := strKind) strKind_oneLt (a₀ := keys.zip vs.toArray) (st := SortSt.mk' oneType' (keys.zip vs.toArray) #[] 7 none)
     (Q := fun _ st' => (arrOf st').Perm (keys.zip vs.toArray) /\ failedOf st' = none /\ SortedToK strKind (arrOf st') (keys.zip vs.toArray).size)
     h0 ⟨Array.Perm.refl _,rfl,rfl,rfl⟩ (by lia) (by lia) fun st' a1 a2 a3 => ⟨a1,a2,a3⟩) ?_ fun _ _ e => e)
   rintro ⟨⟨⟩,st'⟩ s' ⟨rfl,hp,hf,hs⟩
   exact A7 hk ha hne (by (simp [*];done)) (by refine aJ hp.size_eq ?_;(simp [*];done)) hf fun h' c k1 k2 k3 => h h' c (arrOf st') hp (by refine aJ hp.size_eq ?_;exact hs) k1 k2 k3
end
theorem Cq {β : Type} {lt : β -> β -> Prop} (irr : ∀ x,¬ lt x x) : ∀ {l₁ l₂ : List β},l₁.Perm l₂ -> l₁.Pairwise (fun x y => ¬ lt y x) -> l₂.Pairwise (fun x y => lt x y) -> l₁ = l₂ := by
 intro l₁;induction l₁ with
 | nil =>
   intro l₂ p _ _;exact (List.nil_perm.mp p).symm
 | cons x l₁ ih =>
   intro cs0;cases cs0 with
   | nil =>
     intro p _ _;exact absurd p.length_eq (succ_ne_zero _)
   | cons y l₂ =>
     intro p h1 h2;have e : x = y := by
       rcases mem_cons.mp (p.mem_iff.mp mem_cons_self : x ∈ y :: l₂) with e | hx'
       · exact e
       · have l1 := (pairwise_cons.mp h2).1 x hx';rcases mem_cons.mp (p.mem_iff.mpr mem_cons_self : y ∈ x :: l₁) with e | hy'
         · exact e.symm
         · exact absurd l1 ((pairwise_cons.mp h1).1 y hy')
     subst e;exact aJ (ih (List.Perm.cons_inv p) (pairwise_cons.mp h1).2 (pairwise_cons.mp h2).2) rfl
section
variable {G : Gl} {env : Env} {names : List Str} {n : Nat} {α : List Addr} {H : List MO} {s s₀ : Shared} {A : Around} {E : cB}
theorem l4 {xs : Array Value} {n : Nat} : kG (seqObj "list" xs n) :=
 ⟨dN (by intro q;injection q with q;exact absurd q (by decide)) (by intro q;injection q with q;exact absurd q (by decide)),fun vs e => by cases e⟩
theorem pX {X α' : List Addr} {s s' : Shared} {v : Value} {q : Str} (i : cL G α H s) (t : a5 G X α s α' s') (hX : ∀ x ∈ X,s.heap.get? x = none) (r : s.heap.CodeRec v q) : s'.heap.CodeRec v q := by
 refine bP fun no => ?_;obtain ⟨c,oc,vs,u,z1,z2,z3,z4⟩ := r;refine no ?_;refine ⟨c,oc,vs,u,z1,t.keep c oc z2 (fun m => ?_) (fun m => ?_) (fun m => ?_),z3,z4⟩
 · obtain ⟨j,hj,e⟩ := getElem_of_mem m;have hl : j < H.length := by rw [<- i.len];exact hj
   have := i.objs j c H[j] (by rw [<- e];simp [hj]) (by simp [hl]);generalize H[j] = mo at this;cases mo with
   | list xs => obtain ⟨_,vs',n',g,_⟩ := this;rw [z2] at g;(injection g with g;subst g);cases z3
   | obj => rw [show s.heap.get? c = _ from this] at z2;(injection z2 with z2;subst z2);cases z3
 · obtain ⟨p,hp,rfl⟩ := mem_map.mp m;obtain ⟨ps,e,t1,_⟩ := i.tabs p hp;rw [z2] at e;(injection e with e;subst e);(injection z3 with z3;subst z3);exact n4 t1 _ _ z4
 · rw [hX c m] at z2;exact nS z2
theorem yB {X α' : List Addr} {s s' : Shared} (i : cL G α H s) (i' : cL G α' H s') (t : a5 G X α s α' s') : α' = α := by
 obtain ⟨β,rfl,_⟩ := t.ext;have h1 := i.len;have h2 := i'.len;rw [length_append] at h2;have : β = [] := List.eq_nil_of_length_eq_zero (by lia);rw [this,append_nil]
noncomputable def Lg (G : Gl) (α : List Addr) (H : List MO) (s₀ : Shared) (A : Around) (f : Value) (K : Nat -> Str) (n : Nat) : Prop :=
 ∀ X : List Addr,(∀ x ∈ X,s₀.heap.get? x = none) -> ∀ (j : Nat) (t : Tok) (s' : Shared) (E : cB),j < n -> cL G α H s' -> a5 G X α s₀ α s' ->
   wpAny (model G.prog G.w) A (call f [.int j t] []) (d2 G α s' fun v H' => v = .str (K j) /\ H' = H) E s'
inductive Q8 (G : Gl) (α : List Addr) (H : List MO) (s₀ : Shared) (a kS : Addr) (e1 : Nat) (K : Nat -> Str) (k : Nat) (s' : Shared) : Prop
 | mk (i : cL G α H s') (t : a5 G [a,kS] α s₀ α s') (kA : Array Value) (e : Nat) (gk : s'.heap.get? kS = some (seqObj "list" kA e)) (ga : s'.heap.get? a = some (seqObj "list" #[] e1)) (z : kA.size = k) (h : ∀ (j : Nat) (v : Value),kA[j]? = some v -> ∃ t,v = .str (K j) t) : Q8 G α H s₀ a kS e1 K k s'
theorem Iq {a kS : Addr} {f : Value} {vs : List Value} {K : Nat -> Str} {e1 : Nat} {P : PySem.Fin -> Shared -> Prop} (hk : s.heap.get? kS = some (seqObj "list" #[] 0)) (ha : s.heap.get? a = some (seqObj "list" #[] e1)) (hne : a ≠ kS) (i : cL G α H s) (t : a5 G [a,kS] α s₀ α s) (ap : Ap G [a,kS] α) (hf : ∀ x ∈ [a,kS],s₀.heap.get? x = none) (h30 : vs.length <= 30) (hv : ∀ (j : Nat) (v : Value),vs[j]? = some v -> ∃ t,v = .int j t) (turn : Lg G α H s₀ A f K vs.length) (h : ∀ s' c (keys : Array Value) (arr : Array Keyed),cL G α H s' -> a5 G [a,kS] α s₀ α s' -> keys.size = vs.length -> (∀ (j : Nat) (v : Value),keys[j]? = some v -> ∃ t,v = .str (K j) t) -> arr.Perm (keys.zip vs.toArray) -> SortedToK strKind arr arr.size -> s'.heap.get? a = some (seqObj "list" (arr.map (·.2)) c) -> P (.done (.ret .none)) s') : wpAny (model G.prog G.w) A (ksk_rest a f false vs.toArray e1 (.ref kS)) P E s := by
 have apk : Ap G [kS] α := fun x hx => ap x (by refine aJ (mem_singleton.mp hx) ?_;exact mem_cons_of_mem _ mem_cons_self)
 skip
 refine wpAny_bind (wpAny_rule ?_);first
   | refine aJ (List.forIn_toArray ..) ?_
   | (rw [<- forIn_toList];simp only [List.toList_toArray])
   | rw [<- forIn_toList]
 refine wpAny_bind (ksk_fold (Q8 G α H s₀ a kS e1 K) vs 0 s
   ⟨i,t,#[],0,hk,ha,rfl,by simp⟩ ?step ?done)
 case step =>
   rintro j x s' hx ⟨i',t',kA,e,gk,ga,hz,hK⟩
   have hj : j < vs.length := (List.getElem?_eq_some_iff.mp hx).1;obtain ⟨tk,rfl⟩ := hv j x hx;refine wpAny_bind (wpAny_attempt (wpAny_mono (turn [a,kS] hf j tk s' (fun _ _ => False) hj i' t') (fun v s'' r => ?_) fun _ _ hF => hF.elim));refine nQ ?_;intro bU;obtain ⟨mv,H'',α'',⟨rfl,rfl⟩,rv,i'',t''⟩ := r;obtain rfl := yB i' i'' t'';obtain ⟨u⟩ := rv.str_inv;have gk' := t''.keep kS _ gk (ap kS (mem_cons_of_mem _ mem_cons_self)).1 (ap kS (mem_cons_of_mem _ mem_cons_self)).2.1 not_mem_nil;have s1 := Heap.SameBut.update s''.heap kS (Obj.mapSeq (·.push (.str (K j) u)));obtain ⟨c2,hc2⟩ : ∃ c2,(s''.heap.update kS (Obj.mapSeq (·.push (.str (K j) u)))).get? kS = some (seqObj "list" (kA.push (.str (K j) u)) c2) := ⟨_,get?_update_seq gk' (·.push (.str (K j) u))⟩;have ownk : ∀ x ∈ [kS],∀ o,s''.heap.get? x = some o -> kG o := fun x hx o e => by replace e := gk' ▸ (mem_singleton.mp hx) ▸ e;(injection e with e;subst e);exact l4
   have keepk : ∀ b o,b ∉ [kS] -> s''.heap.get? b = some o -> (s''.heap.update kS (Obj.mapSeq (·.push (.str (K j) u)))).get? b = some o := fun b o hb e => (s1.2 b (by simpa using hb)).trans e;refine wpAny_bind (listUpdate_at gk' rfl ?_ (by refine aJ hz ?_;exact le_trans (show 0 + j <= 30 by lia) (by decide)) (le_trans (le_of_eq (Array.size_push ..)) (by refine aJ hz ?_;exact le_trans (show 0 + j + 1 <= 31 by lia) (by decide))));refine wpAny_pure ⟨rfl,i''.but apk ownk keepk i''.bare,?_,kA.push (.str (K j) u),c2,hc2,(s1.2 a hne).trans (t''.keep a _ ga (ap a mem_cons_self).1 (ap a mem_cons_self).2.1 not_mem_nil),by exact aJ (Array.size_push ..) (aJ (hz ..) rfl),fun l v hl => ?_⟩
   · have tb : a5 G [kS] α'' s'' α'' { s'' with heap := s''.heap.update kS (Obj.mapSeq (·.push (.str (K j) u))) } := a5.but ownk keepk (fun x hx => by refine aJ (mem_singleton.mp hx) ?_;exact ⟨_,hc2⟩) rfl rfl rfl;exact (t'.trans t''.nil).trans (tb.weak (by simp))
   · rw [getElem?_push] at hl;split at hl
     · rename_i e;(injection hl with hl;subst hl);exact ⟨u,by rw [e,hz,zero_add]⟩
     · exact hK l v hl
 case done =>
   rintro s' ⟨i',t',kA,e,gk,ga,hz,hK⟩
   refine wpAny_bind (listItems_at gk rfl ?_);refine Lf gk ga hne (by refine aJ hz ?_;exact zero_add _) h30 (fun v hv => ?_) fun h' c arr hp hs hkeep hga hex => ?_
   · obtain ⟨l,hl,e⟩ := getElem_of_mem hv;obtain ⟨t,e'⟩ := hK l v (by refine cE e (cE getElem?_toList ?_);simp [hl]);exact ⟨_,t,e'⟩
   · have ownX : ∀ x ∈ [a,kS],∀ o,s'.heap.get? x = some o -> kG o := fun x hx o e => by
       rcases mem_cons.mp hx with rfl | hx
       · replace e := ga ▸ e;(injection e with e;subst e);exact l4
       · replace e := gk ▸ (mem_singleton.mp hx) ▸ e;(injection e with e;subst e);exact l4
     have keepX : ∀ b o,b ∉ [a,kS] -> s'.heap.get? b = some o -> h'.get? b = some o := fun b o hb e => (hkeep b (fun z => hb (by simp [z])) (fun z => hb (by simp [z]))).trans e;have tb : a5 G [a,kS] α s' α { s' with heap := h' } := a5.but ownX keepX (fun x hx => by
       rcases mem_cons.mp hx with rfl | hx
       · exact ⟨_,hga⟩
       · refine aJ (mem_singleton.mp hx) ?_;exact hex) rfl rfl rfl
     exact h _ c kA arr (i'.but ap ownX keepX i'.bare) (t'.trans tb) (by refine aJ hz ?_;exact zero_add _) hK hp hs hga
end
section
variable {G : Gl} {env : Env} {names : List Str} {n : Nat} {α : List Addr} {H : List MO} {s s₀ : Shared} {A : Around} {E : cB}
theorem cL.enter (i : cL G α H s) {a : Addr} {o : MO} (hna : a ∉ α) (hb : G.h₀.get? a = none) (hn : OR α s.heap a o) : cL G (α ++ [a]) (H ++ [o]) s := by
 refine ⟨i.base,by simp [i.len],?_,fun b hb' => ?_,fun j b o' h1 h2 => ?_,i.tabs,i.bare⟩
 · rw [nodup_append];exact ⟨i.nodup,by simp,fun x hx y hy => by replace hy := mem_singleton.mp hy;subst hy;exact fun q => hna (q ▸ hx)⟩
 · rcases mem_append.mp hb' with h | h
   · exact i.fresh b h
   · replace h := mem_singleton.mp h;subst h;exact hb
 · by_cases hj : j < α.length
   · rw [getElem?_append_left hj] at h1;rw [getElem?_append_left (by rw [<- i.len];exact hj)] at h2;exact OR.mono (h' := s.heap) [a] (fun b o e _ => e) (fun o e => e) (i.objs j b o' h1 h2)
   · have hj' : j = α.length := by
       have := (List.getElem?_eq_some_iff.mp h1).1;simp at this;lia
     subst hj';rw [getElem?_append_right (le_refl _)] at h1;rw [getElem?_append_right (by rw [i.len];exact le_refl _)] at h2;simp [i.len] at h1 h2;subst h1;subst h2;exact OR.mono [a] (fun b o e _ => e) (fun o e => e) hn
theorem a5.enter {a kS : Addr} {s' : Shared} (t : a5 G [a,kS] α s α s') (h1 : s.heap.get? a = none) (h2 : s.heap.get? kS = none) : a5 G [] α s (α ++ [a]) s' := by
 have t' : a5 G [] α s α s' := a5.drop (X := [a,kS]) (by exact t) fun x hx => by
   rcases mem_cons.mp hx with rfl | hx
   · exact h1
   · refine aJ (mem_singleton.mp hx) ?_;exact h2
 exact ⟨⟨[a],rfl,fun b hb => by refine aJ (mem_singleton.mp hb) ?_;exact h1⟩,t'.keep,t'.imm,t'.drawn,t'.os,t'.gens,t'.there⟩
theorem Ir {β : Type} {h : Heap} {f : β -> MV} {g : β -> Value} : ∀ {l : List β},(∀ x ∈ l,VR α h (f x) (g x)) -> c8 α h (l.map f) (l.map g) := by
 intro l;induction l with
 | nil =>
   intro _;exact c8.nil
 | cons x l ih =>
   intro hx;exact c8.cons (hx x mem_cons_self) (ih fun y hy => hx y (mem_cons_of_mem _ hy))
theorem E7 {keys : Array Value} {vs : List Value} {arr : Array Keyed} {K : Nat -> Str} {out : List Nat} {h : Heap} (hz : keys.size = vs.length) (hK : ∀ (j : Nat) (v : Value),keys[j]? = some v -> ∃ t,v = .str (K j) t) (hv : ∀ (j : Nat) (v : Value),vs[j]? = some v -> ∃ t,v = .int j t) (hp : arr.Perm (keys.zip vs.toArray)) (hs : SortedToK strKind arr arr.size) (hop : out.Perm (List.range vs.length)) (hos : out.Pairwise fun x y => (K x).cps.toList < (K y).cps.toList) : c8 α h (out.map fun k : Nat => MV.int (k : Int)) (arr.map (·.2)).toList := by
 have hl : arr.toList.Perm (keys.toList.zip vs) := by refine cE (ksk_zip ..) ?_;exact Array.perm_iff_toList_perm.mp hp
 have hmem : ∀ p ∈ keys.toList.zip vs,∃ (k : Nat) (t u : Tok),p = (.str (K k) t,.int k u) := fun p hp => by
   refine bP fun no => ?_;obtain ⟨j,hj,e⟩ := getElem_of_mem hp;have hj' : j < keys.size /\ j < vs.length := by simpa [Nat.lt_min] using hj
   obtain ⟨t,e1⟩ := hK j keys[j] (by simp [hj'.1]);obtain ⟨u,e2⟩ := hv j vs[j] (by simp [hj'.2]);refine no ?_;refine ⟨j,t,u,?_⟩;rw [<- e,getElem_zip,Array.getElem_toList,e1,e2]
 let g : Keyed -> Nat := fun p => (numOf p.2).toNat
 have hg : ∀ p ∈ arr.toList,∃ (t u : Tok),p = (.str (K (g p)) t,.int (g p) u) := fun p hp => by
   refine bP fun no => ?_;obtain ⟨k,t,u,rfl⟩ := hmem p (hl.mem_iff.mp hp);refine no ?_;exact ⟨t,u,by rfl⟩
 have hr : (keys.toList.zip vs).map g = List.range vs.length := by
   apply List.ext_getElem
   · simp [hz]
   · intro j h1 h2;have hj : j < vs.length := by simpa using h2
     obtain ⟨u,e2⟩ := hv j vs[j] (by simp [hj]);simp only [List.getElem_map,getElem_zip,List.getElem_range,g];refine aJ e2 ?_;exact add_zero _
 have he : arr.toList.map g = out := by
   refine Cq (lt := fun x y => (K x).cps.toList < (K y).cps.toList) (fun x => List.lt_irrefl _) (((hl.map g).trans (by rw [hr])).trans hop.symm) ?_ hos;rw [List.pairwise_iff_getElem];intro a b ha hb hab;have ha' : a < arr.size := by simpa using ha
   have hb' : b < arr.size := by simpa using hb
   have q := hs a b (le_of_lt hab) hb';refine bP fun no => ?_;obtain ⟨t,u,ea⟩ := hg arr[a] (by simp);obtain ⟨t',u',eb⟩ := hg arr[b] (by simp);refine no ?_;rw [KK_str ha' (x := K (g arr[a])) (t := t) (q := arr[a].2) (Prod.ext (congrArg Prod.fst ea : arr[a].1 = .str (K (g arr[a])) t) rfl),KK_str hb' (x := K (g arr[b])) (t := t') (q := arr[b].2) (Prod.ext (congrArg Prod.fst eb : arr[b].1 = .str (K (g arr[b])) t') rfl)] at q;change decide ((K (g arr[b])).cps.toList < (K (g arr[a])).cps.toList) = false at q;simpa using q
 rw [<- he,map_map,Array.toList_map];refine Ir fun p hp => ?_;obtain ⟨t,u,e⟩ := hg p hp
 skip
 rw [e];exact VR.int
end
section
variable {G : Gl} {env : Env} {names : List Str} {n : Nat} {α : List Addr} {H : List MO} {s s₀ : Shared} {A : Around} {E : cB}
theorem Cr {r f : Addr} {m : Nat} {t u v : Tok} {K : Nat -> Str} {out : List Nat} {P : cM} (hh : A.handled = none) (i : cL G α H s) (hr : IsRange s.heap r 0 m 1 t u v) (hm : m <= 30) (turn : Lg G α H s A.in1.in1 (.ref f) K m) (hop : out.Perm (List.range m)) (hos : out.Pairwise fun x y => (K x).cps.toList < (K y).cps.toList) (hP : P (.ref H.length) (H ++ [.list (out.map fun k : Nat => MV.int (k : Int))])) : wpAny (model G.prog G.w) A (call (.builtin "sorted") [.ref r] [(ofString "key",.ref f)]) (d2 G α s P) E s := by
 refine call_function_entry_kw kind_sorted plain_sorted entry_sorted (ksk_s1 _ _) ?_;unfold Builtin.«sorted»;refine wpAny_bind (m := checkCount "sorted" 1 1 _) (wpAny_pure ?_);refine nQ ?_;intro bU;have hsz : Builtin.Range.rangeSize 0 (m : Int) 1 = (m : Int) := by unfold Builtin.Range.rangeSize;lia
 refine wpAny_bind (rR (n := m) hh hr (sO (by decide) (by exact lt_of_le_of_lt ‹_› (by decide)) (.inl rfl)) hsz (by exact le_trans ‹_› (by decide)) fun h' tk acc hk hacc => ?_);have hal : acc.toList.length = m := by refine aJ length_toList ?_;exact hacc.1
 refine wpAny_bind (wpAny_newList ?_ (by refine aJ hal ?_;exact le_trans hm (by decide)));generalize hae : h'.objs.size = a;have has : s.heap.get? a = none := by
   cases e : s.heap.get? a with
   | none => rfl
   | some o => have := lt_size (hk _ _ e);exact absurd this (by refine aJ hae ?_;exact lt_irrefl _)
 have ho : (h'.push (seqObj "list" acc.toList.toArray 0)).get? a = some (seqObj "list" acc.toList.toArray 0) := by refine cE hae ?_;exact get?_push_size _ rfl
 have hv : ∀ (j : Nat) (v : Value),acc.toList[j]? = some v -> ∃ t,v = .int j t := fun j v e => by
   replace e := getElem?_toList ▸ e
   obtain ⟨t,rfl⟩ := hacc.2 j v e;exact ⟨t,by simp⟩
 show wpAny _ _ _ _ _ { s with heap := h'.push (seqObj "list" acc.toList.toArray 0),toks := tk };refine wpAny_bind (wpAny_holding (wpAny_call_entry_kw slot_list_sort ⟨_,ho,rfl⟩ entry_list_sort ?body (ksk_l1 _ _)))
 case body =>
   skip
   refine aJ (ksk_t1 ..) ?_
   skip
   refine wpAny_bind (listItems_at ho rfl ?_);refine wpAny_bind (listUpdate_at ho rfl ?_ (by refine aJ size_toArray (aJ hal ?_);exact le_trans hm (by decide)) (zero_le _));obtain ⟨e1,ho1⟩ : ∃ e1,((h'.push (seqObj "list" acc.toList.toArray 0)).update a (Obj.mapSeq fun _ => (#[] : Array Value))).get? a = some (seqObj "list" #[] e1) := ⟨_,get?_update_seq ho fun _ => #[]⟩;refine wpAny_bind (seqEpoch_at ho1 rfl ?_);refine wpAny_bind (wpAny_newTuple ?_ (by rw [hal];exact le_trans hm (by decide)));refine wpAny_bind (wpAny_newList ?_ (zero_le _));refine wpAny_holding ?_;generalize hke : (((h'.push (seqObj "list" acc.toList.toArray 0)).update a (Obj.mapSeq fun _ => (#[] : Array Value))).push { cls := .type "tuple",data := .seq acc.toList.toArray.toList.toArray }).objs.size = kS;have hks : kS = a + 2 := by rw [<- hke,size_push',Heap.size_update,size_push',hae]
   have up : ∀ b o,s.heap.get? b = some o -> ((((h'.push (seqObj "list" acc.toList.toArray 0)).update a (Obj.mapSeq fun _ => (#[] : Array Value))).push { cls := .type "tuple",data := .seq acc.toList.toArray.toList.toArray }).push { cls := .type "list",data := .seq ([] : List Value).toArray }).get? b = some o := fun b o e =>
     get?_push_of_some _ (get?_push_of_some _ (((Heap.SameBut.update (h'.push (seqObj "list" acc.toList.toArray 0)) a (Obj.mapSeq fun _ => (#[] : Array Value))).2 b (fun z => by replace e := has ▸ z ▸ e;exact nS e)).trans (get?_push_of_some _ (hk _ _ e))))
   have hkS : s.heap.get? kS = none := by
     cases e : s.heap.get? kS with
     | none => rfl
     | some o =>
       have h1 := lt_size (hk _ _ e)
       replace h1 := hks ▸ hae ▸ h1
       exact absurd h1 (not_lt.mpr (le_add_right a 2))
   have kp : Kp s { s with heap := (((h'.push (seqObj "list" acc.toList.toArray 0)).update a (Obj.mapSeq fun _ => (#[] : Array Value))).push { cls := .type "tuple",data := .seq acc.toList.toArray.toList.toArray }).push { cls := .type "list",data := .seq ([] : List Value).toArray },toks := tk } := ⟨up,rfl,rfl,rfl⟩;refine Iq (a := a) (kS := kS) (K := K) (s₀ := s) (vs := acc.toList) (α := α) (H := H) (by refine cE hke ?_;exact get?_push_size _ rfl) (get?_push_of_some _ (get?_push_of_some _ ho1)) (M9 (by (simp [*];done))) (i.kp kp) kp.step (fun x hx => ?_) (fun x hx => ?_) (by (simp [*];done)) hv (by refine aJ hal ?_;exact turn) fun s' c keys arr i' t' hkz hkk hp hs hga => ?_
   · rcases mem_cons.mp hx with rfl | hx
     · exact cQ i has
     · refine aJ (mem_singleton.mp hx) ?_;exact cQ i hkS
   · rcases mem_cons.mp hx with rfl | hx
     · exact has
     · refine aJ (mem_singleton.mp hx) ?_;exact hkS
   · have hvr := E7 (α := α ++ [a]) (h := s'.heap) hkz hkk hv hp hs (by refine aJ hal ?_;exact hop) hos;refine ⟨_,rfl,wpAny_pure ⟨_,rfl,?_⟩⟩;have fr := cQ i has;have hlen : out.length <= 2 ^ 30 := by refine aJ hop.length_eq (aJ length_range ?_);exact le_trans ‹_› (by decide)
     exact ⟨.ref H.length,_,α ++ [a],hP,VR.ref (by refine cE i.len ?_;exact aM),i'.enter fr.1 fr.2.2 (⟨by simpa using hlen,_,c,hga,E7 (α := α) (h := s'.heap) hkz hkk hv hp hs (by refine aJ hal ?_;exact hop) hos⟩ : OR α s'.heap a (.list (out.map fun k : Nat => MV.int (k : Int)))),t'.enter has hkS⟩
end
section
variable {G : Gl} {env : Env} {names : List Str} {n : Nat} {α : List Addr} {H : List MO} {s s₀ : Shared} {A : Around} {E : cB}
noncomputable def It (v u : MV) : bI := fun i => if i = 0 then some v else if i = 1 then some u else none
theorem Lh {scope : Scope} {cl : List (Str × Addr)} {x y qual : Str} {j : Nat} {t : Tg} {target : Expr} {ρ : bI} {aO : Shared} {L f : Addr} {code : Value} {v u : MV} {v' : Value} (K : dP env names scope cl [x,y] [none,some j] t target) (st : St G env names ρ α H s) (kp : Kp s aO) (hns : aO.heap.Ns L fun z => [(x,v')].lookup z) (hL : s.heap.get? L = none) (hx : scope.names.lookup x = some .local) (hy : scope.names.lookup y = some .free) (rv : VR α s.heap v v') (hu : ρ j = some u) : St G (envX qual scope L f code cl) [x,y] (It v u) α H aO := by
 have hcl : ∀ p ∈ cl,p.2 ∈ bV env := fun p hp => mem_cons_of_mem _ (mem_map_of_mem (f := (·.2)) (K.sub p hp));refine ⟨(st.inv.kp kp),fun i z w hz hw => ?_,⟨_,hns⟩,fun z c hc => ?_,fun b hb => ?_,?_⟩
 · match i,hz,hw with
   | 0,hz,hw =>
     replace hz := si hz;subst hz
     have : v = w := by simpa [It] using hw
     subst this;exact ⟨v',.inl ⟨hx,_,hns,by simp⟩,rv.kp kp⟩
   | 1,hz,hw =>
     refine bP fun no => ?_
     replace hz := si hz;subst hz
     have : u = w := by simpa [It] using hw
     subst this;obtain ⟨h1,h2,h3,c,h4,h5⟩ := K.cap.at (i := 1) (j := j) (x := y) rfl rfl;obtain ⟨u',l,r⟩ := st.var j y u h1 hu;refine no ?_;refine ⟨u',?_,r.kp kp⟩;rcases l with ⟨k,_⟩ | ⟨k,d,hd,hcell⟩
     · exact absurd k h2
     · rw [h5] at hd;(injection hd with hd;subst hd);exact .inr ⟨.inr hy,c,h4,hcell.keeps kp.keep⟩
   | i + 2,hz,hw => exact nS hz
 · obtain ⟨w,hw⟩ := st.cell z c (K.sub _ hc);exact ⟨w,hw.keeps kp.keep⟩
 · rcases mem_cons.mp hb with rfl | hb
   · exact (cQ st.inv hL)
   · obtain ⟨p,hp,rfl⟩ := mem_map.mp hb;exact st.apart _ (hcl p hp)
 · refine nodup_cons.mpr ⟨fun q => ?_,lY K.cnd K.sub (nodup_cons.mp st.nodup).2⟩;obtain ⟨p,hp,e⟩ := mem_map.mp q;obtain ⟨o,ho⟩ := i6 st (hcl p hp);rw [(e : p.2 = L),hL] at ho;exact nS ho
theorem Ok.in2 {A : Around} {m : Nat} (h : Ok A (m + 1)) : Ok A.in1.in1 m := ⟨h.1,by have := h.2.1;show A.depth + m < _;exact le_of_lt ‹_›,by have := h.2.2;show A.units + 1 + 1 + 8 * m + 128 < _;lia⟩
inductive A8 (j : Nat) (wb : WE) (ρ : bI) (P : cM) (a b c : Int) (H' : List MO) : Prop
 | mk (m : Nat) (u : MV) (K : Nat -> Str) (out : List Nat) (ea : a = 0) (eb : b = (m : Int)) (ec : c = 1) (l : m <= 30) (h : ρ j = some u) (k : ∀ k : Nat,k < m -> ∀ H',wb (It (.int (k : Int)) u) H' fun v H'' => v = .str (K k) /\ H'' = H')
   (q : out.Perm (List.range m)) (o : out.Pairwise fun x y => (K x).cps.toList < (K y).cps.toList) (p : P (.ref H'.length) (H' ++ [.list (out.map fun k : Nat => MV.int (k : Int))])) : A8 j wb ρ P a b c H'
noncomputable def A9 (wr : WR) (j : Nat) (wb : WE) : WE := fun ρ H P => wr ρ H (A8 j wb ρ P)
theorem E.sorted {nm : Str} {np pos lpos kp : Pos} {e body : Expr} {params : Arguments} {scope : Scope} {cl : List (Str × Addr)} {wr : WR} {wb : WE} {q : Addr × Addr} {x y : Str} {j : Nat} {t : Tg} {target : Expr} (O : sK G) (T : pW G) (B : tX G) (hn : aP G env names (n + 2) (.Name nm np) (wK (.val (.builtin "sorted")))) (hr : tT G env names (n + 2) e wr) (hq : q ∈ G.tabs) (hcode : env.code = .ref q.1) (hglob : env.globals = mainGlobals) (hdef : defaultsOf params env = ([],[])) (hq1 : G.qual lpos = some (env.qual ++ "<lambda>")) (hqual : ∀ pos' : Pos,lpos.line = pos'.line -> lpos.col = pos'.col -> ∀ n,G.qual pos' = some n -> n = env.qual ++ "<lambda>") (K : dP env names scope cl [x,y] [none,some j] t target) (hx : scope.names.lookup x = some .local) (hy : scope.names.lookup y = some .free) (hbind : ∀ pm c' ctv v,bindArgs (kla_fn "<lambda>" (env.qual ++ "<lambda>") params body scope cl pm c' ctv) ⟨[v],[]⟩ = pure [(x,v)]) (hco : scope.isCoroutine = false) (hgen : scope.isGenerator = false) (hb : ∀ L f c',aP G (envX (env.qual ++ "<lambda>") scope L f (.ref c') cl) [x,y] n body wb) (hs1 : starEach [e] env = [(false,eval e env)]) : aP G env names (n + 2) (.Call (.Name nm np) [e] [⟨some "key",.Lambda params body scope lpos,kp⟩] pos) (A9 wr j wb) := by
 intro A ok E s α H ρ P st hw;refine wpAny_Call_Name_kw (fM (hn A ok E s α H ρ (fun v H' => v = .val (.builtin "sorted") /\ H' = H) st ⟨rfl,rfl⟩) fun v H₁ aQ f' aO q3 bO aZ aU => ?_);refine bP fun no => ?_;obtain ⟨rfl,rfl⟩ := q3;refine no ?_
 skip;subst bO
 have cK := st.step aU aZ;refine callWith_kw ?_ (by refine aJ hs1 ?_;rfl) (by refine aJ hs1 ?_;rfl) rfl rfl;refine aJ hs1 ?_;refine Calls.spliced_cons (wpAny_mono (hr A ok E aO aQ H₁ ρ _ cK hw) (fun rv s₂ r => Calls.spliced_nil ?_) kE);refine nQ ?_;intro bU;refine bP fun no => ?_;obtain ⟨a,b,c,r,t',u',v',bH,bL,⟨m,u,K',out,rfl,rfl,rfl,hm,hu,hkey,hop,hos,hP⟩,rfl,hrange,_,bQ,bF⟩ := r;refine no ?_;refine kws_cons ?_;refine v5 O T B hq hcode hglob hdef K.clos hq1 hqual bQ fun f pm c' ctv s₃ eN cV hf hobj hrec => kws_nil ?_;have cG := (cK.step bF bQ).step cV eN;have El : IsRange s₃.heap r 0 m 1 t' u' v' := by
   have nr : ∀ a o,s₂.heap.get? a = some o -> o.cls = .type "range" -> a ∉ bL /\ a ∉ G.tb := fun a o e hc => by
     refine ⟨fun q => ?_,fun q => ?_⟩
     · obtain ⟨j,hj,e'⟩ := getElem_of_mem q;have hl : j < bH.length := by refine cE bQ.len ?_;exact hj
       have := bQ.objs j a bH[j] (by refine cE e' ?_;simp [hj]) (by simp [hl]);generalize bH[j] = mo at this;cases mo with
       | list xs => obtain ⟨_,vs,n,g,_⟩ := this;replace g := e ▸ g;(injection g with g;subst g);exact absurd (show Value.type "list" = Value.type "range" from hc) (by decide)
       | obj => replace e := (show s₂.heap.get? a = _ from this) ▸ e;(injection e with e;subst e);exact absurd (show Value.type "object" = Value.type "range" from hc) (by decide)
     · obtain ⟨p,hp,rfl⟩ := mem_map.mp q;obtain ⟨ps,e',_⟩ := bQ.tabs p hp
       replace e' := e ▸ e';(injection e' with e';subst e');cases hc
   exact cV.keep r _ hrange (nr r _ hrange rfl).1 (nr r _ hrange rfl).2 not_mem_nil
 have turn : Lg G bL bH s₃ A.in1.in1 (.ref f) K' m := by
   intro X hX k tk s' E' hk i' t';have apf := cQ bQ hf;have hfX : f ∉ X := fun z => by replace hobj := (hX f z) ▸ hobj;exact nS hobj
   have st' : St G env names ρ bL bH s' := by
     refine j3 cG i' t'.ext t'.imm fun b hb o e => t'.keep b o e (cG.apart b hb).1 (cG.apart b hb).2.1 fun z => by replace e := (hX b z) ▸ e;exact nS e
   have ok2 : Ok A.in1.in1 (n + 1) := ok.in2;refine v6 (x := x) O i'.base (t'.keep f _ hobj apf.1 apf.2.1 hfX) (pX eN t' hX hrec) (by have := ok2.2.1;exact lt_of_le_of_lt (le_add_right _ _) ‹_›) (hbind _ _ _ _) hx hco hgen K.kind K.cell fun L g7 hL kp hns E'' => ?_;refine wpAny_mono (hb L f c' _ ok2.deeper E'' _ _ bH _ _ (Lh (qual := env.qual ++ "<lambda>") (f := f) (code := .ref c') K st' kp hns hL hx hy (v := .int (k : Int)) (VR.int (t := tk)) hu) (hkey k hk bH)) (fun v s'' r => d2.trans (kp.step (X := [])) r) kE
 refine wpAny_mono (Cr (out := out) (P := P) ok.1 eN El hm turn hop hos hP) (fun v bY q => (((q.trans cV).trans bF).trans aU)) kE
end
theorem pY : PlainAttrs "re.Match" :=
 ⟨⟨"object.__getattribute__",by refine aJ (typeLookup_type ..) (aJ (builtinLookup_eq_fast ..) ?_);kernel_rfl,by decide +kernel⟩,by refine aJ (typeLookup_type ..) (aJ (builtinLookup_eq_fast ..) ?_);kernel_rfl⟩
theorem m8 : PlainAttrs "re.Pattern" :=
 ⟨⟨"object.__getattribute__",by refine aJ (typeLookup_type ..) (aJ (builtinLookup_eq_fast ..) ?_);kernel_rfl,by decide +kernel⟩,by refine aJ (typeLookup_type ..) (aJ (builtinLookup_eq_fast ..) ?_);kernel_rfl⟩
theorem pZ : Slot "re.Match" "group" "re.Match.group" :=
 .of (owner := "re.Match") (n := "group") (by refine aJ (typeLookup_type ..) (aJ (builtinLookup_eq_fast ..) ?_);kernel_rfl) (by decide +kernel) (by decide +kernel) (by decide +kernel)
   (by first | exact .inl (by decide +kernel) | exact .inr (by decide +kernel)) (by refine aJ (isSubtype_type ..) ?_;kernel_rfl)
theorem p9 : Slot "re.Pattern" "sub" "re.Pattern.sub" :=
 .of (owner := "re.Pattern") (n := "sub") (by refine aJ (typeLookup_type ..) (aJ (builtinLookup_eq_fast ..) ?_);kernel_rfl) (by decide +kernel) (by decide +kernel) (by decide +kernel)
   (by first | exact .inl (by decide +kernel) | exact .inr (by decide +kernel)) (by refine aJ (isSubtype_type ..) ?_;kernel_rfl)
theorem yC : typeOf (.builtin "re.Match.group") = pure (.type "method_descriptor") := by skip;refine aJ builtinType_eq_fast ?_;kernel_rfl
theorem E8 : typeOf (.builtin "re.Pattern.sub") = pure (.type "method_descriptor") := by skip;refine aJ builtinType_eq_fast ?_;kernel_rfl
theorem v7 : entryFor table "re.Match.group" = some Builtin.«re.Match.group» := entryFor_of_tree (by kernel_rfl)
theorem Cs : entryFor table "re.Pattern.sub" = some Builtin.«re.Pattern.sub» := entryFor_of_tree (by kernel_rfl)
theorem qA : entryFor table "re.Pattern.sub.loop" = some Builtin.«re.Pattern.sub.loop» := entryFor_of_tree (by kernel_rfl)
theorem gL : plainId "re.Pattern.sub.loop" = true := by decide +kernel
theorem yD (a b : Value) : argsOk "re.Match.group" ⟨[a,b],[]⟩ := by skip;kernel_rfl
theorem E9 (a b c : Value) : argsOk "re.Pattern.sub" ⟨[a,b,c],[]⟩ := by skip;kernel_rfl
theorem yE : typeLookup (.type "function") "__call__" = pure (some (.builtin "function.__call__")) := by refine aJ (typeLookup_type ..) (aJ (builtinLookup_eq_fast ..) ?_);kernel_rfl
section
variable {prog : Program} {w : World} {A : Around} {E : cB} {s : Shared}
theorem tY {a : Addr} {vs : Array Value} {n : Nat} {Q : Option (Array Value) -> Shared -> Prop} (h : s.heap.get? a = some { cls := .type "tuple",data := .seq vs n }) (hq : Q (some vs) s) : wpAny (model prog w) A (seqItems? (.ref a)) Q E s := by
 unfold seqItems?;refine wpAny_bind (wpAny_load h ?_);exact wpAny_pure hq
theorem tZ {a : Addr} {vs : Array Value} {n : Nat} {Q : Array Int -> Shared -> Prop} (h : s.heap.get? a = some { cls := .type "tuple",data := .seq vs n }) (hq : Q (vs.map Builtin.Re.reRawOf) s) : wpAny (model prog w) A (Builtin.Re.reRawItems (.ref a)) Q E s := by
 skip
 exact wpAny_bind (tY h (wpAny_pure hq))
theorem t5 {x : Builtin.Re.ReFound} {u : Tok} {Q : Nat -> Shared -> Prop} (h : 2 < x.spans.size) (hq : Q 1 s) : wpAny (model prog w) A (Builtin.Re.reGroupNumber x (.int 1 u)) Q E s := by
 skip
 refine wpAny_bind (m := asInt? (.int 1 u)) (wpAny_pure ?_);dsimp only [Option.isSome_some,if_true];refine wpAny_bind (m := asIndex (.int 1 u)) (wpAny_pure ?_);refine aJ (if_neg (by (rw [Bool.or_eq_true,decide_eq_true_eq]);lia)) ?_;exact wpAny_pure hq
theorem yF {m tp : Addr} {x : Str} {t u : Tok} {pat a1 a2 a3 : Value} {st hd : Value} {b e : Nat} {Q : cB} (hx : x.length <= 1000) (hm : s.heap.get? m = some { cls := .type "re.Match",data := .fields #[.str x t,pat,a1,a2,a3,.ref tp] }) (ht : s.heap.get? tp = some { cls := .type "tuple",data := .seq #[st,hd,rawInt b,rawInt e] }) (hq : ∀ t',Q (.str ⟨x.cps.extract b e⟩ t') { s with toks := s.toks + 1 }) : wpAny (model prog w) A (PySem.call (.builtin "re.Match.group") [.ref m,.int 1 u] []) Q E s := by
 refine wpAny_call_entry pZ ⟨_,hm,rfl⟩ v7 ?_ (yD _ _);show wpAny _ _ (do
   let x <- Builtin.Re.reFound (.ref m)
   ret (<- Builtin.Re.reGroupText x (<- Builtin.Re.reGroupNumber x (.int 1 u)) .none)) _ _ s
 refine wpAny_bind (m := Builtin.Re.reFound (.ref m)) ?_
 skip
 refine wpAny_bind (wpAny_fieldsOf hm rfl ?_);refine wpAny_bind (tZ ht (wpAny_pure ?_));refine wpAny_bind (t5 (by simp) ?_);refine wpAny_bind (m := Builtin.Re.reGroupText _ 1 .none) ?_;unfold Builtin.Re.reGroupText;have e1 : (Array.map Builtin.Re.reRawOf #[st,hd,rawInt b,rawInt e]).getD (2 * 1) (-1) = (b : Int) := by simp [rawInt,Builtin.Re.reRawOf]
 have e2 : (Array.map Builtin.Re.reRawOf #[st,hd,rawInt b,rawInt e]).getD (2 * 1 + 1) (-1) = (e : Int) := by simp [rawInt,Builtin.Re.reRawOf]
 simp only [e1,e2];refine aJ (if_neg Bool.false_ne_true) ?_;refine wpAny_bind (m := Builtin.Re.reTextOf _) (wpAny_pure ?_);show wpAny _ _ (mkStr ⟨x.cps.extract b e⟩) _ _ _;refine wpAny_mkStr (wpAny_pure ⟨_,rfl,hq _⟩) ?_;show (x.cps.extract b e).size <= sizeLine;refine aJ size_extract ?_;have : x.cps.size <= 1000 := hx;exact le_trans (by lia) (show 1000 <= sizeLine by decide)
end
section
variable {prog : Program} {w : World} {A : Around} {E : cB} {s : Shared}
theorem yG {cenv : Env} {bs x em : Str} {k1 k2 k3 : _} {p1 p2 p3 p4 p5 p6 p7 p8 : Pos} {m tp : Addr} {y : Str} {t : Tok} {pat a1 a2 a3 : Value} {st hd : Value} {b e : Nat} {mm : Str -> Option Value} {Q : cB} (hk : cenv.scope.kind = .function) (hx : cenv.kindOf x = some .local) (hd' : (x == ("__debug__" : Str)) = false) (hbase : attributeBase (.Name x p2) "group" cenv (eval (.Name x p2) cenv) = eval (.Name x p2) cenv) (hline : (p3.endLine == p5.line) = true) (hs1 : starEach [.Constant (.int 1) k2 p4] cenv = [(false,eval (.Constant (.int 1) k2 p4) cenv)]) (hn : s.heap.Ns cenv.locals mm) (hmx : mm x = some (.ref m)) (hy : y.length <= 1000) (hbs : bs.length <= 10) (hm : s.heap.get? m = some { cls := .type "re.Match",data := .fields #[.str y t,pat,a1,a2,a3,.ref tp] }) (ht : s.heap.get? tp = some { cls := .type "tuple",data := .seq #[st,hd,rawInt b,rawInt e] }) (hbe : b < e) (hey : e <= y.length) (hq : ∀ t' tk,Q (.str (bs ++ ⟨y.cps.extract b e⟩) t') { s with toks := tk }) : wpAny (model prog w) A (eval (.BinOp (.Constant (.str bs) k1 p1) .Add (.BoolOp .Or [.Call (.Attribute (.Name x p2) "group" p3) [.Constant (.int 1) k2 p4] [] p5,.Constant (.str em) k3 p6] p7) p8) cenv) Q E s := by
 have hlen : (⟨y.cps.extract b e⟩ : Str).length = e - b := by
   show (y.cps.extract b e).size = e - b;refine aJ size_extract ?_;have : e <= y.cps.size := hey
   (simp [*];done)
 refine wpAny_BinOp (wpAny_Constant_str ?_);refine nQ ?_;intro bU;refine wpAny_Or2 (Call_method1 hbase hs1 hline (wpAny_Name (wpAny_loadName_local hk hx hn hmx ?_) hd'));refine ⟨"re.Match","re.Match.group",pY,pZ,yC,⟨_,hm,rfl⟩,(fun a e => by (injection e with e;subst e);exact ⟨_,hm,rfl⟩),?_⟩;refine callWith_of (P := fun _ => True) rfl (fun h _ => ⟨.machine,.inr (.inl rfl),.now⟩) ?_;refine Calls.evalArgs_plain (Calls.spliced_cons (wpAny_Constant_int (Calls.spliced_nil ⟨trivial,?_⟩)));refine yF hy hm ht fun t' => ?_;refine PySem.P.truthy_str (by refine aJ hlen ?_;lia) ?_;have h0 : (((⟨y.cps.extract b e⟩ : Str).length : Int) != 0) = true := by refine aJ hlen ?_;exact bne_iff_ne.mpr (Int.ofNat_ne_zero.mpr (Nat.sub_ne_zero_of_lt hbe))
 simp only [h0,if_true];refine PyProof.Rows.add_str (fun t'' tk => hq t'' tk) (by refine aJ hlen ?_;exact le_trans (Nat.add_le_add hbs (le_trans (sub_le _ _) (le_trans hey hy : e <= 1000))) (show 10 + 1000 <= sizeLine by decide))
end
noncomputable def qB : Nat -> Sre.M -> Option Sre.M
 | 0,_ => none
 | k + 1,m => if (m.runFor 4).outcome.isSome then some (m.runFor 4) else qB k (m.runFor 4)
theorem Iu : ∀ k m,qB (k + 1) m = (if (m.runFor 4).outcome.isSome then some (m.runFor 4) else qB k (m.runFor 4)) := fun _ _ => rfl
section
variable {prog : Program} {w : World} {A : Around} {E : cB} {s : Shared}
theorem t6 (n : Nat) (m : Sre.M) : Builtin.Re.reDrive (n + 1) m = (if (m.runFor 4).outcome.isSome then pure (m.runFor 4) else do rule "sre.turn";Builtin.Re.reDrive n (m.runFor 4)) := rfl
theorem v8 {Q : Sre.M -> Shared -> Prop} : ∀ {k turns : Nat} {m r : Sre.M},qB k m = some r -> k <= turns -> Q r s -> wpAny (model prog w) A (Builtin.Re.reDrive turns m) Q E s := by
 intro k;induction k with
 | zero =>
   intro _ m r h _ _;exact nS h
 | succ k ih =>
   intro cs0;cases cs0 with
   | zero =>
     intro m r _ l _;exact absurd l (by lia)
   | succ turns =>
     intro m r h l hq;refine aJ (t6 ..) ?_;rw [Iu] at h;by_cases hc : (m.runFor 4).outcome.isSome = true
     · rw [if_pos hc] at h ⊢
       (injection h with h;subst h)
       exact wpAny_pure hq
     · rw [if_neg hc] at h ⊢;exact wpAny_bind (wpAny_rule (ih h (Nat.le_of_succ_le_succ l) hq))
theorem yH {β : Type} {body : β -> PUnit -> Sem (ForInStep PUnit)} {Q : PUnit -> Shared -> Prop} : ∀ (l : List β),(∀ x,wpAny (model prog w) A (body x ⟨⟩) (fun r s' => r = .yield ⟨⟩ /\ s' = s) E s) -> Q ⟨⟩ s -> wpAny (model prog w) A (forIn l PUnit.unit body) Q E s := by
 intro l;induction l with
 | nil =>
   intro _ h;refine aJ forIn_nil ?_;exact wpAny_pure h
 | cons x l ih =>
   intro st h;refine aJ (forIn_cons ..) ?_;refine wpAny_bind (wpAny_mono (st x) (fun r s' h' => ?_) fun _ _ e => e);obtain ⟨rfl,h2⟩ := h'
   skip
   refine aJ h2 ?_;exact ih st h
theorem Ct {m r : Sre.M} {Q : Option Sre.M -> Shared -> Prop} (h : qB 400 m = some r) (hq : match r.outcome with | some .matched => Q (some r) s | some .failed => Q none s | _ => False) : wpAny (model prog w) A (Builtin.Re.reRunToEnd m) Q E s := by
 skip
 refine wpAny_bind (v8 (turns := 2 ^ 64) h (by decide) ?_);refine wpAny_bind (yH _ (fun x => ?_) ?_)
 · split
   · exact wpAny_bind (wpAny_rule (wpAny_pure ⟨rfl,rfl⟩))
   · exact wpAny_pure ⟨rfl,rfl⟩
 · revert hq;cases r.outcome with
   | none => exact fun x => x.elim
   | some o => cases o with
     | matched => exact fun x => wpAny_pure x
     | failed => exact fun x => wpAny_pure x
     | stuck y => exact fun x => x.elim
end
noncomputable def qC : Array Nat := #[14,14,4,1,1,9,0,64,0,1342177280,0,0,0,0,0,17,0,13,11,9,0,64,0,1342177280,0,0,0,0,0,17,1,1]
noncomputable def n5 (x : Str) (start : Nat) (must : Bool) : Option (Option Sre.M) := (qB 400 (Sre.forSearch qC x.cps 1 start x.cps.size must)).bind fun m => match m.outcome with
 | some .matched => some (some m)
 | some .failed => some none
 | _ => none
noncomputable def rI (m : Sre.M) : Option (Nat × Nat) := if (1 : Int) <= m.lastmark then (match m.marks.getD 0 none,m.marks.getD 1 none with
 | some b,some e => if b < e then some (b,e) else none
 | _,_ => none) else none
noncomputable def Cu : Nat -> Str -> Nat -> Nat -> Bool -> Option (List Str)
 | 0,_,_,_,_ => none
 | k + 1,x,done,start,must => match n5 x start must with
   | none => none
   | some none => some (if done < x.cps.size then [⟨x.cps.extract done x.cps.size⟩] else [])
   | some (some m) => match rI m with
     | none => none
     | some (b,e) => if e <= x.length then (Cu k x m.handed m.handed (m.handed == m.start)).map fun r => (if done < m.start then [⟨x.cps.extract done m.start⟩] else []) ++ (("\\" : Str) ++ ⟨x.cps.extract b e⟩) :: r else none
theorem Li : ∀ k x done start must,Cu (k + 1) x done start must = (match n5 x start must with
   | none => none
   | some none => some (if done < x.cps.size then [⟨x.cps.extract done x.cps.size⟩] else [])
   | some (some m) => match rI m with
     | none => none
     | some (b,e) => if e <= x.length then (Cu k x m.handed m.handed (m.handed == m.start)).map fun r => (if done < m.start then [⟨x.cps.extract done m.start⟩] else []) ++ (("\\" : Str) ++ ⟨x.cps.extract b e⟩) :: r else none) := fun _ _ _ _ _ => rfl
noncomputable def l5 (h : Heap) (p : Addr) : Prop := ∃ (a0 a1 a3 a4 : Value) (g w : Tok) (cp : Addr) (T : String) (vs : Array Value) (n : Nat),h.get? p = some { cls := .type "re.Pattern",data := .fields #[a0,a1,.int 1 g,a3,a4,.ref cp,.int 0 w] } /\
 h.get? cp = some { cls := .type T,data := .seq vs n } /\ (vs.map Builtin.Re.reRawOf).map (·.toNat) = qC
section
variable {prog : Program} {w : World} {A : Around} {E : cB} {s : Shared}
theorem l6 {p : Addr} {x : Str} {t : Tok} {Q : Builtin.Re.ReTarget -> Shared -> Prop} (hp : l5 s.heap p) (hq : Q { pattern := .ref p,string := .str x t,code := qC,text := x.cps,kind := 0,groups := 1,pos := 0,lim := x.cps.size } s) : wpAny (model prog w) A (Builtin.Re.reWholeTarget (.ref p) (.str x t)) Q E s := by
 refine bP fun no => ?_;obtain ⟨a0,a1,a3,a4,g,w',cp,T,vs,n,h1,h2,h3⟩ := hp;refine no ?_
 skip
 refine wpAny_bind (wpAny_fieldsOf h1 rfl ?_);refine wpAny_bind (m := Builtin.Re.reTextOf (.str x t)) (wpAny_pure ?_);dsimp only;have e0 : Builtin.Re.reRawNat ((#[a0,a1,.int 1 g,a3,a4,.ref cp,.int 0 w'] : Array Value).getD 6 .none) = 0 := rfl
 (rw [e0,(rfl : Builtin.Re.reRawNat ((#[a0,a1,.int 1 g,a3,a4,.ref cp,.int 0 w'] : Array Value).getD 2 .none) = 1),(rfl : (#[a0,a1,.int 1 g,a3,a4,.ref cp,.int 0 w'] : Array Value).getD 5 .none = .ref cp)])
 refine aJ (if_neg (by decide)) (aJ (if_neg (by decide)) ?_);unfold Builtin.Re.reNoCollectionInside;refine aJ (if_neg (by decide)) ?_;refine wpAny_bind (wpAny_pure ?_);unfold Builtin.Re.reRawItems seqItems?;refine wpAny_bind (wpAny_bind (wpAny_bind (wpAny_load h2 (wpAny_pure ?_))));refine wpAny_pure (wpAny_pure ?_);show Q { pattern := .ref p,string := .str x t,code := (vs.map Builtin.Re.reRawOf).map (·.toNat),text := x.cps,kind := 0,groups := 1,pos := 0,lim := x.cps.size } s;refine aJ h3 ?_;exact hq
theorem yI {p : Addr} {x : Str} {t : Tok} {start : Nat} {must : Bool} {r : Option Sre.M} {Q : Option Sre.M -> Shared -> Prop} (h : n5 x start must = some r) (hq : Q r s) : wpAny (model prog w) A (Builtin.Re.reNextFound { pattern := .ref p,string := .str x t,code := qC,text := x.cps,kind := 0,groups := 1,pos := 0,lim := x.cps.size } start must) Q E s := by
 skip
 unfold n5 at h;cases hd : qB 400 (Sre.forSearch qC x.cps 1 start x.cps.size must) with
 | none => replace h := hd ▸ h;exact nS h
 | some m =>
   replace h := hd ▸ h
   refine Ct hd ?_;simp only [Option.bind_some] at h;cases ho : m.outcome with
   | none => replace h := ho ▸ h;exact nS h
   | some o => cases o with
     | matched => replace h := ho ▸ h;(injection h with h;subst h);exact hq
     | failed => replace h := ho ▸ h;(injection h with h;subst h);exact hq
     | stuck y => replace h := ho ▸ h;exact nS h
theorem Lj {m : Sre.M} {b e : Nat} {C : Prop} (h : rI m = some (b,e)) (k : (1 : Int) <= m.lastmark -> m.marks.getD 0 none = some b -> m.marks.getD 1 none = some e -> b < e -> C) : C := by
 by_cases hl : (1 : Int) <= m.lastmark
 · have h' : (match m.marks.getD 0 none,m.marks.getD 1 none with | some b,some e => if b < e then some (b,e) else none | _,_ => none) = some (b,e) := (if_pos hl).symm.trans h;generalize m.marks.getD 0 none = o at h' k;generalize m.marks.getD 1 none = o2 at h' k;cases o with
   | none => exact nS h'
   | some b' => cases o2 with
     | none => exact nS h'
     | some e' =>
       by_cases lt : b' < e'
       · obtain ⟨rfl,rfl⟩ := Prod.mk.inj (si ((if_pos lt).symm.trans h'));exact k hl rfl rfl lt
       · exact nS ((if_neg lt).symm.trans h')
 · exact nS ((if_neg hl).symm.trans h)
theorem Cv {p : Addr} {x : Str} {t : Tok} {m : Sre.M} {b e lim : Nat} {Q : cB} (h : rI m = some (b,e)) (hq : ∀ s' (ma tp : Addr) (a1 a2 a3 st hd : Value),Kp s s' -> s'.heap.get? ma = some { cls := .type "re.Match",data := .fields #[.str x t,.ref p,a1,a2,a3,.ref tp] } -> s'.heap.get? tp = some { cls := .type "tuple",data := .seq #[st,hd,rawInt b,rawInt e] } -> b < e -> Q (.ref ma) s') : wpAny (model prog w) A (Builtin.Re.reNewMatch (.ref p) (.str x t) 1 0 lim m) Q E s := by
 refine Lj h fun hl hb he hlt => ?_;unfold Builtin.Re.reNewMatch;have hl1 : ((1 : Nat) : Int) <= m.lastmark := hl;have hne : decide (e < b) = false := decide_eq_false (by lia);simp only [show List.range 1 = [0] from rfl,flatMap_cons,List.flatMap_nil,any_cons,List.any_nil,Nat.mul_zero,zero_add,hb,he,if_pos hl1,append_nil,Bool.or_false,hne,Bool.and_false,Bool.false_eq_true,if_false];refine wpAny_bind (wpAny_newTuple ?_ (show 4 <= sizeLine by decide));refine wpAny_newObj_type ?_ (show 6 <= sizeLine + 2 by decide);exact hq _ _ s.heap.objs.size _ _ _ _ _ ⟨fun b o e => get?_push_of_some _ (get?_push_of_some _ e),rfl,rfl,rfl⟩ (get?_push_size _ rfl) (get?_push_of_some _ (get?_push_size _ rfl)) hlt
theorem v9 {D : Addr} {l : List (Str × Tok)} {c : Nat} {t : Tok} {Q : cB} (hD : s.heap.get? D = some { cls := .type "list",data := .seq (strValues l).toArray c }) (hl : ((l.map (·.1)).map fun y => y.length).sum <= 1000000) (hq : ∀ t' tk,Q (.str (Builtin.Str.glued Str.empty (l.map (·.1))) t') { s with toks := tk }) : wpAny (model prog w) A (PySem.call (.builtin "str.join") [.str Str.empty t,.ref D] []) Q E s := by
 have hlen : Builtin.Str.tooLong ((l.map (·.1)).toArray.foldl (· + ·.length + Str.empty.length) 0) = false := by
   have : ((l.map (·.1)).toArray.foldl (fun x1 x2 => x1 + x2.length + Str.empty.length) 0) = ((l.map (·.1)).map fun y => y.length + Str.empty.length).sum := by
     refine aJ (foldl_toArray ..) (aJ (pR ..) ?_);exact add_comm _ _
   refine aJ this ?_;refine aJ (map_congr_left fun y _ => rfl : ((l.map (·.1)).map fun y => y.length + Str.empty.length) = ((l.map (·.1)).map fun y => y.length)) ?_;unfold Builtin.Str.tooLong sizeLine;exact decide_eq_false (by lia)
 have hg := mY Str.empty (l.map (·.1));have e : ((l.map (·.1)).map fun y => y.length + Str.empty.length) = ((l.map (·.1)).map fun y => y.length) := map_congr_left fun y _ => rfl
 replace hg := e ▸ hg
 refine call_meets F.slot_str_join (typeIs_str _ _ _) F.entry_str_join (F.args_str_join_2 _ _) (meets_str_join_list Str.empty t D l hlen) ⟨⟨_,hD,rfl,_,rfl⟩,?_⟩;have hmk : joinMade Str.empty l = .str (Builtin.Str.glued Str.empty (l.map (·.1))) \/ ∃ p,l = [p] /\ joinMade Str.empty l = .val (.str p.1 p.2) := by
   match l with
   | [] => exact .inl rfl
   | [p] => exact .inr ⟨p,rfl,rfl⟩
   | p :: q :: r => exact .inl rfl
 rcases hmk with e1 | ⟨p,rfl,e1⟩
 · refine aJ e1 ?_;exact ⟨(le_trans hg (le_trans hl (by decide)) : (Builtin.Str.glued Str.empty (l.map (·.1))).length <= sizeLine),hq _ _⟩
 · refine aJ e1 ?_;exact hq p.2 s.toks
end
section
variable {G : Gl} {α : List Addr} {H : List MO} {s s₀ : Shared} {A : Around} {E : cB}
noncomputable def Nc (G : Gl) (α : List Addr) (H : List MO) (s₀ : Shared) (A : Around) (f : Value) (D : Addr) (x : Str) (t : Tok) : Prop :=
 ∀ (s' : Shared) (E : cB) (m tp : Addr) (pat a1 a2 a3 st hd : Value) (b e : Nat),cL G α H s' -> a5 G [D] α s₀ α s' ->
   s'.heap.get? m = some { cls := .type "re.Match",data := .fields #[.str x t,pat,a1,a2,a3,.ref tp] } -> s'.heap.get? tp = some { cls := .type "tuple",data := .seq #[st,hd,rawInt b,rawInt e] } -> b < e -> e <= x.length ->
   wpAny (model G.prog G.w) A (PySem.call f [.ref m] []) (fun v s'' => (∃ t',v = .str (("\\" : Str) ++ ⟨x.cps.extract b e⟩) t') /\ Kp s' s'') E s'
theorem lB {D : Addr} {y : Str} {t : Tok} {acc : List (Str × Tok)} {c : Nat} {Q : Unit -> Shared -> Prop} (i : cL G α H s) (ts : a5 G [D] α s₀ α s) (ap : Ap G [D] α) (gD : s.heap.get? D = some (seqObj "list" (strValues acc).toArray c)) (hl : acc.length <= 1000) (h : ∀ s' c',cL G α H s' -> a5 G [D] α s₀ α s' -> s'.heap.get? D = some (seqObj "list" (strValues (acc ++ [(y,t)])).toArray c') -> Q () s') : wpAny (model G.prog G.w) A (updateSeq D (·.push (.str y t))) Q E s := by
 obtain ⟨c2,hc2⟩ : ∃ c2,(s.heap.update D (Obj.mapSeq (·.push (.str y t)))).get? D = some (seqObj "list" ((strValues acc).toArray.push (.str y t)) c2) := ⟨_,get?_update_seq gD (·.push (.str y t))⟩;have own : ∀ z ∈ [D],∀ o,s.heap.get? z = some o -> kG o := fun z hz o e => by replace e := gD ▸ (mem_singleton.mp hz) ▸ e;(injection e with e;subst e);exact l4
 have keep : ∀ b o,b ∉ [D] -> s.heap.get? b = some o -> (s.heap.update D (Obj.mapSeq (·.push (.str y t)))).get? b = some o := fun b o hb e => ((Heap.SameBut.update s.heap D (Obj.mapSeq (·.push (.str y t)))).2 b (by simpa using hb)).trans e;have hz : (strValues acc).toArray.size = acc.length := by exact length_map ..
 refine wpAny_updateSeq gD rfl (h _ c2 (i.but ap own keep i.bare) ?_ (by refine cE (by simp [strValues] : (strValues acc).toArray.push (.str y t) = (strValues (acc ++ [(y,t)])).toArray) ?_;exact hc2)) (by refine aJ hz ?_;exact le_trans hl (by decide)) (by refine aJ (Array.size_push ..) (aJ (hz ..) ?_);exact le_trans (succ_le_succ hl) (by decide));exact ts.trans (a5.but own keep (fun z hz => by refine aJ (mem_singleton.mp hz) ?_;exact ⟨_,hc2⟩) rfl rfl rfl : a5 G [D] α s α { s with heap := s.heap.update D (Obj.mapSeq (·.push (.str y t))) })
theorem jU {x : Str} {b e : Nat} {Q : cB} (hx : x.length <= 1000) (h : ∀ t s',Kp s s' -> Q (.str ⟨x.cps.extract b e⟩ t) s') : wpAny (model G.prog G.w) A (Builtin.Re.reSlice x.cps 0 b e) Q E s := by
 skip
 refine wpAny_mkStr (h _ _ (Kp.tok _)) ?_;show (x.cps.extract b e).size <= sizeLine;refine aJ size_extract ?_;have : x.cps.size <= 1000 := hx;exact le_trans (by omega) (show 1000 <= sizeLine by decide)
theorem l5.keeps {h h' : Heap} {p : Addr} (k : ∀ b o,h.get? b = some o -> h'.get? b = some o) (x : l5 h p) : l5 h' p := by
 obtain ⟨a0,a1,a3,a4,g,w',cp,T,vs,n,h1,h2,h3⟩ := x;exact ⟨a0,a1,a3,a4,g,w',cp,T,vs,n,k _ _ h1,k _ _ h2,h3⟩
theorem Fa {f : Value} {D p : Addr} {x : Str} {t : Tok} {Q : cB} (hf : Nc G α H s₀ A.in1 f D x t) (hx : x.length <= 1000) (hP : l5 G.h₀ p) (ap : Ap G [D] α) : ∀ (k done start : Nat) (must : Bool) (ps : List Str) (acc : List (Str × Tok)) (c n : Nat) (s : Shared),Cu k x done start must = some ps -> cL G α H s -> a5 G [D] α s₀ α s -> s.heap.get? D = some (seqObj "list" (strValues acc).toArray c) -> acc.length + ps.length <= 1000 -> ((acc.map (·.1) ++ ps).map (·.length)).sum <= 1000000 -> (∀ t' s',cL G α H s' -> a5 G [D] α s₀ α s' -> Q (.str (Builtin.Str.glued Str.empty (acc.map (·.1) ++ ps)) t') s') -> codeAny (model G.prog G.w) A (.builtin "re.Pattern.sub.loop" ⟨[.ref p,.str x t,f,rawInt 1,rawInt 0,rawInt n,rawInt done,rawInt start,.bool must,.ref D,.bool false],[]⟩) (wants Q E) s := by
 intro k;induction k with
 | zero =>
   intro _ _ _ _ _ _ _ _ h _ _ _ _ _ _;exact nS h
 | succ k ih =>
   intro done start must ps acc c n s h i ts gD hl hsum hq;refine codeAny_builtin qA ?_;refine nQ ?_;intro mO;refine nE ?_;intro O1;rw [Around.under_plainId gL _];unfold Builtin.«re.Pattern.sub.loop»
   skip
   refine wpAny_bind (l6 (hP.keeps i.base) ?_);dsimp only [Int.toNat_natCast,show ((1 : Int) == 0) = false from rfl,show ((1 : Int) == 1) = true from rfl,show ((0 : Int) != 0) = false from rfl,show ((0 : Nat) == 0) = true from rfl,Bool.false_and,Bool.false_eq_true,if_false,if_true];rw [Li] at h;cases hfd : n5 x start must with
   | none => rw [hfd] at h;exact nS h
   | some r =>
     rw [hfd] at h;refine wpAny_bind (yI hfd ?_);cases r with
     | none =>
       (injection h with h;subst h)
       dsimp only;have fin : ∀ (s1 : Shared) (acc1 : List (Str × Tok)) (c1 : Nat),cL G α H s1 -> a5 G [D] α s₀ α s1 -> s1.heap.get? D = some (seqObj "list" (strValues acc1).toArray c1) -> acc1.map (·.1) = acc.map (·.1) ++ (if done < x.cps.size then [⟨x.cps.extract done x.cps.size⟩] else []) ->
           wpAny (model G.prog G.w) A.in1 (do
             let joiner <- Builtin.Re.reSlice x.cps 0 0 0
             let __do_lift <- seqItems? (Value.ref D)
             if (__do_lift.getD #[]).isEmpty = true then do
                 let __do_lift <- pure joiner
                 ret __do_lift
               else do
                 let __do_lift <- PySem.call (Value.builtin "str.join") [joiner,Value.ref D]
                 ret __do_lift) (fun fin s' => match fin with | Fin.done f => wants Q E (Except.ok f) s' | Fin.again c' => c'.quiet = true /\ codeAny (model G.prog G.w) A c' (wants Q E) s') (fun e s' => wants Q E (Except.error e) s') s1 := by
         intro s1 acc1 c1 i1 ts1 gD1 he;refine wpAny_bind (jU hx fun tj s2 kp => ?_);refine nQ ?_;intro iC;have gD2 := kp.keep _ _ gD1;have i2 := i1.kp kp;have ts2 := ts1.trans (kp.step (G := G) (X := [D]) (α := α));have e0 : (⟨x.cps.extract 0 0⟩ : Str) = Str.empty := by simp [Str.empty]
         rw [e0];unfold seqItems?;refine wpAny_bind (wpAny_bind (wpAny_load gD2 (wpAny_pure ?_)));simp only [Option.getD_some];rw [<- he] at hq hsum;by_cases hemp : (strValues acc1).toArray.isEmpty = true
         · rw [if_pos hemp];have ha : acc1 = [] := by
             cases acc1 with
             | nil => rfl
             | cons q r => contradiction
           subst ha;exact wpAny_bind (wpAny_pure (wpAny_pure (hq tj s2 i2 ts2)))
         · rw [if_neg hemp];refine wpAny_bind (v9 gD2 hsum fun t' tk => wpAny_pure ?_);exact hq t' _ (i2.kp (Kp.tok tk)) (ts2.trans (Kp.tok tk).step)
       by_cases hd : done < x.cps.size
       · rw [if_pos hd] at fin ⊢;refine wpAny_bind (jU hx fun tj s2 kp => ?_);refine wpAny_bind (lB (i.kp kp) (ts.trans kp.step) ap (kp.keep _ _ gD) (by exact le_trans (le_add_right _ _) ‹_›) fun s3 c3 i3 t3 g3 => ?_);exact fin s3 _ c3 i3 t3 g3 (map_append ..)
       · rw [if_neg hd] at fin ⊢;exact fin s acc c i ts gD (by exact (append_nil _).symm)
     | some m =>
       dsimp only at h ⊢;cases hh : rI m with
       | none => rw [hh] at h;exact nS h
       | some be =>
         obtain ⟨b,e⟩ := be
         replace h := hh ▸ h
         dsimp only at h;by_cases hex : e <= x.length
         · replace h := (if_pos hex) ▸ h
           cases hpl : Cu k x m.handed m.handed (m.handed == m.start) with
           | none => replace h := hpl ▸ h;exact nS h
           | some r =>
             replace h := hpl ▸ h
             (injection h with h;subst h)
             have rest : ∀ (s1 : Shared) (acc1 : List (Str × Tok)) (c1 : Nat),cL G α H s1 -> a5 G [D] α s₀ α s1 -> s1.heap.get? D = some (seqObj "list" (strValues acc1).toArray c1) -> acc1.map (·.1) = acc.map (·.1) ++ (if done < m.start then [⟨x.cps.extract done m.start⟩] else []) ->
                 wpAny (model G.prog G.w) A.in1 (do
                   let n5 <- Builtin.Re.reNewMatch (Value.ref p) (Value.str x t) 1 0 x.cps.size m
                   let item <- holding [n5] (PySem.call f [n5])
                   if (item != Value.none) = true then do
                       updateSeq D fun x => x.push item
                       again (Code.builtin "re.Pattern.sub.loop" { pos := [Value.ref p,Value.str x t,f,Value.int 1 0,Value.int 0 0,Value.int (↑n + 1) 0,Value.int (↑m.handed) 0,Value.int (↑m.handed) 0,Value.bool (m.handed == m.start),Value.ref D,Value.bool false] })
                     else
                       again (Code.builtin "re.Pattern.sub.loop" { pos := [Value.ref p,Value.str x t,f,Value.int 1 0,Value.int 0 0,Value.int (↑n + 1) 0,Value.int (↑m.handed) 0,Value.int (↑m.handed) 0,Value.bool (m.handed == m.start),Value.ref D,Value.bool false] })) (fun fin s' => match fin with | Fin.done f => wants Q E (Except.ok f) s' | Fin.again c' => c'.quiet = true /\ codeAny (model G.prog G.w) A c' (wants Q E) s') (fun e s' => wants Q E (Except.error e) s') s1 := by
               intro s1 acc1 c1 i1 ts1 gD1 he;have hl1 : acc1.length + (r.length + 1) <= 1000 := by
                 have h1 := congrArg List.length he;simp only [length_map,length_append] at h1 hl;simp only [length_cons] at hl
                 lia
               have he2 : acc.map (·.1) ++ ((if done < m.start then [⟨x.cps.extract done m.start⟩] else []) ++ (("\\" : Str) ++ ⟨x.cps.extract b e⟩) :: r) = acc1.map (·.1) ++ (("\\" : Str) ++ ⟨x.cps.extract b e⟩) :: r := by rw [he,append_assoc]
               rw [he2] at hq hsum;refine wpAny_bind (Cv hh fun s2 ma tp a1 a2 a3 st hd kp g1 g2 hbe => ?_);refine nQ ?_;intro bU;have i2 := i1.kp kp;have ts2 := ts1.trans (kp.step (G := G) (X := [D]) (α := α));refine wpAny_bind (wpAny_holding (wpAny_mono (hf s2 _ ma tp _ a1 a2 a3 st hd b e i2 ts2 g1 g2 hbe hex) (fun v s3 r3 => ?_) kE));obtain ⟨⟨t',rfl⟩,kp3⟩ := r3;have hne : ∀ (y : Str) (u : Tok),(Value.str y u != Value.none) = true := fun y u => rfl;rw [if_pos (hne _ _)];refine wpAny_bind (lB (i2.kp kp3) (ts2.trans kp3.step) ap (kp3.keep _ _ (kp.keep _ _ gD1)) (by exact le_trans (le_add_right _ _) ‹_›) fun s4 c4 i4 t4 g4 => ?_);refine wpAny_pure ⟨plainId_quiet gL _,?_⟩;exact ih m.handed m.handed (m.handed == m.start) r (acc1 ++ [(("\\" : Str) ++ ⟨x.cps.extract b e⟩,t')]) c4 (n + 1) s4 hpl i4 t4 g4 (lS ‹_›) (by simpa using hsum) (by simpa using hq)
             by_cases hd : done < m.start
             · rw [if_pos hd] at rest ⊢;refine wpAny_bind (jU hx fun tj s2 kp => ?_);refine wpAny_bind (lB (i.kp kp) (ts.trans kp.step) ap (kp.keep _ _ gD) (by exact le_trans (le_add_right _ _) ‹_›) fun s3 c3 i3 t3 g3 => ?_);exact rest s3 _ c3 i3 t3 g3 (map_append ..)
             · rw [if_neg hd] at rest ⊢;exact rest s acc c i ts gD (by exact (append_nil _).symm)
         · rw [if_neg hex] at h;exact nS h
end
noncomputable def n7 (x : Str) : Option Str := if x.length <= 100 then (match Cu 20 x 0 0 false with
 | some ps => if ps.length <= 100 /\ (ps.map (·.length)).sum <= 1000 then some (Builtin.Str.glued Str.empty ps) else none
 | none => none) else none
theorem wA (a b : Value) : Builtin.Re.reNamed "re.Pattern.sub" "sub" ["repl","string","count"] 2 [a,b] [] = pure [some a,some b,none] := by
 first | rfl | kernel_rfl
section
variable {G : Gl} {env : Env} {names : List Str} {n : Nat} {α : List Addr} {H : List MO} {s s₀ : Shared} {A : Around} {E : cB}
theorem Fb {x : Str} {t : Tok} {Q : Unit -> Shared -> Prop} (hq : Q () s) : wpAny (model G.prog G.w) A (Builtin.Re.reNotHeld "re.Pattern.sub" (.str x t)) Q E s := by
 skip
 refine wpAny_bind (wpAny_isInstance (T := "str") (b := false) (typeIs_str _ _ _) (by refine aJ (isSubtype_type ..) ?_;kernel_rfl) ?_)
 skip
 exact wpAny_pure hq
theorem Fc {p : Addr} {f : Addr} {o : Obj} {x y : Str} {t : Tok} {P : cM} (i : cL G α H s) (hP : l5 G.h₀ p) (ho : s.heap.get? f = some o) (hoc : o.cls = .type "function") (hs : n7 x = some y) (hf : ∀ D,s.heap.get? D = none -> Nc G α H s A.in1 (.ref f) D x t) (hp : P (.str y) H) : wpAny (model G.prog G.w) A (PySem.call (.builtin "re.Pattern.sub") [.ref p,.ref f,.str x t] []) (d2 G α s P) E s := by
 refine nQ ?_;intro bU;unfold n7 at hs;split at hs
 · rename_i hx;split at hs
   · rename_i ps hps;split at hs
     · rename_i hb
       (injection hs with hs;subst hs)
       refine bP fun no => ?_;obtain ⟨a0,a1,a3,a4,g,w',cp,T,vs,n,h1,h2,h3⟩ := hP;refine no ?_;have hP : l5 G.h₀ p := ⟨a0,a1,a3,a4,g,w',cp,T,vs,n,h1,h2,h3⟩;refine wpAny_call (codeAny_call_builtin p9.plain Cs (p9.check _ _ _ _ _ _ _ _ (show s.TypeIs (.ref p) "re.Pattern" from ⟨_,i.base _ _ h1,rfl⟩) (E9 _ _ _) ?_));unfold Builtin.«re.Pattern.sub» Builtin.Re.reSubstitute;dsimp only;refine wpAny_bind (wpAny_of_eq (wA _ _) ?_);refine wpAny_bind (wpAny_pure ?_);refine wpAny_bind (wpAny_specialOf ⟨_,ho,hoc⟩ yE ?_);dsimp only [Option.isSome_some,if_true];refine wpAny_bind (wpAny_pure (wpAny_bind (wpAny_pure ?_)));refine wpAny_bind (wpAny_holding (l6 (hP.keeps i.base) ?_));dsimp only;simp only [show ((1 : Int) == 1) = true from rfl,show ((1 : Nat) == 1) = true from rfl,if_true];refine wpAny_bind (Fb ?_);refine wpAny_bind (wpAny_newList ?_ (zero_le _));have hDf : s.heap.get? s.heap.objs.size = none := a9 (le_refl _);have kp : Kp s { s with heap := s.heap.push { cls := .type "list",data := .seq ([] : List Value).toArray } } := Kp.push _;refine wpAny_pure ⟨plainId_quiet gL _,?_⟩;have key := Fa (G := G) (A := A) (E := E) (s₀ := s) (D := s.heap.objs.size) (p := p) (t := t) (Q := d2 G α s P) (hf _ hDf) (le_trans hx (by decide)) hP (fun z hz => by refine aJ (mem_singleton.mp hz) ?_;exact cQ i hDf)
         20 0 0 false ps [] 0 0 _ hps (i.kp kp) kp.step (get?_push_size _ rfl) (by simp;lia) (by (rw [map_nil,nil_append]);lia) (fun t' s' i' t'' => ?_)
       · exact key
       · have t3 : a5 G [] α s α s' := a5.drop (X := [s.heap.objs.size]) (by exact t'') fun z hz => by refine aJ (mem_singleton.mp hz) ?_;exact hDf
         have hgl := mY Str.empty ps;have e : (ps.map fun y => y.length + Str.empty.length) = (ps.map fun y => y.length) := map_congr_left fun y _ => rfl
         replace hgl := e ▸ hgl
         exact ⟨.str _,H,α,hp,VR.str (le_trans (le_trans hgl hb.2) (by decide)),i',t3⟩
     · exact nS hs
   · exact nS hs
 · exact nS hs
theorem Fd {f : Addr} {α α' : List Addr} {s s' : Shared} {X : List Addr} {o : Obj} (ap : f ∉ α /\ f ∉ G.tb /\ G.h₀.get? f = none) (t : a5 G X α s α' s') (e : s.heap.get? f = some o) : f ∉ α' /\ f ∉ G.tb /\ G.h₀.get? f = none := ⟨tJ t e ap.1,ap.2⟩
inductive Nd (P : cM) (v : MV) (H' : List MO) : Prop
 | mk (x y : Str) (e : v = .str x) (h : n7 x = some y) (p : P (.str y) H') : Nd P v H'
noncomputable def Fe (w : WE) : WE := fun ρ H P => w ρ H (Nd P)
theorem E.sub {nm x em : Str} {np apos pos lpos : Pos} {k1 k2 k3 : _} {p1 p2 p3 p4 p5 p6 p7 p8 : Pos} {e : Expr} {params : Arguments} {scope : Scope} {cl : List (Str × Addr)} {ws : WE} {q : Addr × Addr} {p : Addr} (O : sK G) (T : pW G) (B : tX G) (hP : l5 G.h₀ p) (hn : aP G env names n (.Name nm np) (wK (.val (.ref p)))) (he : aP G env names n e ws) (hq : q ∈ G.tabs) (hcode : env.code = .ref q.1) (hglob : env.globals = mainGlobals) (hdef : defaultsOf params env = ([],[])) (hq1 : G.qual lpos = some (env.qual ++ "<lambda>")) (hqual : ∀ pos' : Pos,lpos.line = pos'.line -> lpos.col = pos'.col -> ∀ n,G.qual pos' = some n -> n = env.qual ++ "<lambda>") (hcl : closureFor scope env = pure cl) (hx : scope.names.lookup x = some .local) (hd' : (x == ("__debug__" : Str)) = false) (hk : scope.kind = .function) (hcell : ∀ x ∈ scope.names,x.2 ≠ .cell) (hbind : ∀ body pm c' ctv v,bindArgs (kla_fn "<lambda>" (env.qual ++ "<lambda>") params body scope cl pm c' ctv) ⟨[v],[]⟩ = pure [(x,v)]) (hco : scope.isCoroutine = false) (hgen : scope.isGenerator = false) (hbase : attributeBase (.Name nm np) "sub" env (eval (.Name nm np) env) = eval (.Name nm np) env) (hline : (apos.endLine == pos.line) = true) (hbase2 : ∀ cenv : Env,attributeBase (.Name x p2) "group" cenv (eval (.Name x p2) cenv) = eval (.Name x p2) cenv) (hline2 : (p3.endLine == p5.line) = true) (hs2 : ∀ body : Expr,starEach [.Lambda params body scope lpos,e] env = [(false,eval (.Lambda params body scope lpos) env),(false,eval e env)]) : aP G env names n (.Call (.Attribute (.Name nm np) "sub" apos) [.Lambda params (.BinOp (.Constant (.str "\\") k1 p1) .Add (.BoolOp .Or [.Call (.Attribute (.Name x p2) "group" p3) [.Constant (.int 1) k2 p4] [] p5,.Constant (.str em) k3 p6] p7) p8) scope lpos,e] [] pos) (Fe ws) := by
 intro A ok E s α H ρ P st hw;refine Call_method2 hbase (hs2 _) hline (fM (hn A ok E s α H ρ (fun v H' => v = .val (.ref p) /\ H' = H) st ⟨rfl,rfl⟩) fun v H₁ aQ f' aO q3 bO aZ aU => ?_);refine bP fun no => ?_;obtain ⟨rfl,rfl⟩ := q3;refine no ?_
 skip;subst bO
 have hPo : ∃ o,aO.heap.get? p = some o /\ o.cls = .type "re.Pattern" /\ o.dict = none := by
   refine bP fun no => ?_;obtain ⟨a0,a1,a3,a4,g,w',cp,T,vs,n,h1,h2,h3⟩ := hP;refine no ?_;exact ⟨_,aZ.base _ _ h1,rfl,rfl⟩
 refine bP fun no => ?_;obtain ⟨o,ho1,ho2,ho3⟩ := hPo;refine no ?_;refine ⟨"re.Pattern","re.Pattern.sub",m8,p9,E8,⟨_,ho1,ho2⟩,(fun a e => by (injection e with e;subst e);exact ⟨_,ho1,ho3⟩),?_⟩;refine callWith_of (P := fun _ => True) rfl (fun h _ => ⟨.machine,.inr (.inl rfl),.now⟩) ?_;refine Calls.evalArgs_plain (Calls.spliced_cons ?_);refine v5 O T B hq hcode hglob hdef hcl hq1 hqual aZ fun f pm c' ctv s₂ bQ bF hf hobj hrec => ?_;refine Calls.spliced_cons (wpAny_mono (he A ok E s₂ aQ H₁ ρ _ ((st.step aU aZ).step bF bQ) hw) (fun sv s₃ r => Calls.spliced_nil ⟨trivial,?_⟩) kE);refine bP fun no => ?_;obtain ⟨v,eQ,dM,⟨y,z,rfl,hsub,hp⟩,Hj,eN,cV⟩ := r;obtain ⟨t⟩ := Hj.str_inv;refine no ?_;have apf := cQ aZ hf;have o9 := cV.keep f _ hobj apf.1 apf.2.1 not_mem_nil;have Hq := Fd apf cV hobj;have hxl : y.length <= 100 := by
   unfold n7 at hsub;split at hsub
   · assumption
   · exact nS hsub
 refine wpAny_mono (Fc (P := P) eN hP o9 rfl hsub (fun D hD s' E' m tp pat a1 a2 a3 sta hda b e i' t' hm ht hbe hel => ?_) hp) (fun v bY q => ((q.trans cV).trans bF).trans aU) kE;have hfD : f ∉ [D] := fun z => by rw [mem_singleton.mp z,hD] at o9;exact nS o9
 refine v6 (x := x) O i'.base (t'.keep f _ o9 Hq.1 Hq.2.1 hfD) (pX eN t' (fun z hz => by rw [mem_singleton.mp hz];exact hD) (pX bQ cV (by exact fun _ h => absurd h not_mem_nil) hrec)) (by have := ok.2.1;skip;exact lt_of_le_of_lt (le_add_right _ _) ‹_›) (hbind _ _ _ _ _) hx hco hgen hk hcell fun L g7 hL kp hns E'' => ?_;refine yG (m := m) (tp := tp) (y := y) (t := t) hk hx hd' (hbase2 _) hline2 rfl hns (by simp) (le_trans hxl (by decide)) (by decide) (kp.keep _ _ hm) (kp.keep _ _ ht) hbe hel fun t' tk => ⟨⟨t',rfl⟩,kp.trans (Kp.tok tk)⟩
end
section
variable {M : Model} {A : Around} {R : GenEnd} {Y : Protocol} {n : Nat} {s₀ : Shared} {c : Code} {fs : List Frame} {s : Shared} {env : Env}
 {K : Flow -> Sem Fin} {H : Value -> Sem Fin} {gd : Bool -> Bool} {lv : List Value -> List Value}
theorem m9 {t : Expr} {a b : List Stmt} {pos : Pos} (h : wpAny M (A.over c fs) (isTrue t env (eval t env)) (fun q s' => Seg M A R Y n s₀ c ((if q then execs a env else execs b env).wrap K H gd lv) fs s') (fun x s' => Seg M A R Y n s₀ c (H x) fs s') s) : Seg M A R Y n s₀ c ((exec (.If t a b pos) env).wrap K H gd lv) fs s := by
 refine aJ (exec_If ..) ?_;exact seg_bind_wrap (wpAny_standAt (seg_bind_wrap h))
theorem Iv {target iter : Expr} {body orelse : List Stmt} {pos : Pos} (h : wpAny M (A.over c fs) (eval iter env) (fun x aO => wpAny M (A.over c fs) (pyIter x) (fun it s₂ => ∀ p,Seg M A R Y n s₀ (.forLoop target it body orelse env) (M.den (.forLoop target it body orelse env))
     (.ret (fun r => ((match r with | .ok f => (.pure f : Sem Flow) | .error e => .raise e).onRaise fun (x : Value) => do
       if (<- field x 1) == Value.none then unsupported "frame.own-activation:exception-without-traceback"
       setFlight x env.frame).wrap K H gd lv) none (gd false) (lv []) c p [] :: fs) s₂) (fun x s' => Seg M A R Y n s₀ c (H x) fs s') aO) (fun x s' => Seg M A R Y n s₀ c (H x) fs s') s)
   (hs : ∀ x,foldedSetIterable iter env x = pure x) :
   Seg M A R Y n s₀ c ((exec (.For target iter body orelse pos) env).wrap K H gd lv) fs s := by
 refine aJ (exec_For ..) ?_;refine seg_bind_wrap (wpAny_standAt (seg_bind_wrap (wpAny_mono h (fun x aO g7 => ?_) kE)));refine seg_bind_wrap (wpAny_of_eq (hs x) ?_);refine seg_bind_wrap (wpAny_standAt (seg_bind_wrap (wpAny_holding (wpAny_mono g7 (fun it s₂ sG => ?_) kE))));exact seg_call sG
end
section
variable {prog : Program} {w : World} {A : Around} {R : GenEnd} {Y : Protocol} {n : Nat} {s₀ : Shared} {fs : List Frame} {s : Shared} {env : Env}
noncomputable abbrev n8 (env : Env) : Value -> Sem Fin := fun e => (do noteFrame e env;theTreesLotGoes e : Sem Unit).wrap (fun _ => .raise e) .raise id id
theorem n9 {target : Expr} {it : Value} {body orelse : List Stmt} (h : wpAny (model prog w) (A.over (.forLoop target it body orelse env) fs) (pyNext it) (fun r aO => match r with
     | none => Seg (model prog w) A R Y n s₀ (.forLoop target it body orelse env) (.pure (.again (.block orelse env))) fs aO
     | some v => wpAny (model prog w) (A.over (.forLoop target it body orelse env) fs) (letOwnedTupleGo target it v) (fun _ s₂ => wpAny (model prog w) (A.over (.forLoop target it body orelse env) fs) (assign target env v) (fun _ s₃ =>
         Seg (model prog w) A R Y n s₀ (.forLoop target it body orelse env) ((execs body env).wrap (fun f => match f with
           | .next | .cont => .pure (.again (.forLoop target it body orelse env))
           | .brk => .pure (.done .next)
           | .ret v => .pure (.done (.ret v))) (n8 env) id id) fs s₃)
         (fun x s' => Seg (model prog w) A R Y n s₀ (.forLoop target it body orelse env) (n8 env x) fs s') s₂) (fun x s' => Seg (model prog w) A R Y n s₀ (.forLoop target it body orelse env) (n8 env x) fs s') aO)
     (fun x s' => Seg (model prog w) A R Y n s₀ (.forLoop target it body orelse env) (n8 env x) fs s') s) :
   Seg (model prog w) A R Y n s₀ (.forLoop target it body orelse env) ((model prog w).den (.forLoop target it body orelse env)) fs s := by
 show Seg _ A R Y n s₀ _ ((forTurn target it body orelse env).onRaise (fun x => do noteFrame x env;theTreesLotGoes x)) fs s;have eH : ∀ (x : Value) (s' : Shared),Seg (model prog w) A R Y n s₀ (.forLoop target it body orelse env) (n8 env x) fs s' ->
     Seg (model prog w) A R Y n s₀ (.forLoop target it body orelse env) ((do noteFrame x env;theTreesLotGoes x : Sem Unit).bind fun _ => .raise x) fs s' := fun x s' hx => by
   refine aJ (Sem.bind_eq_wrap ..) ?_;exact hx
 refine aJ (Sem.onRaise_eq_wrap ..) ?_
 skip
 refine seg_bind_wrap (wpAny_standAt ?_);refine seg_bind_wrap (wpAny_onRaise (wpAny_mono h (fun r aO g7 => ?_) fun x s' hx => wpAny_standAt (eH x s' hx)));cases r with
 | none => exact g7
 | some v =>
   refine seg_bind_wrap (wpAny_mono g7 (fun _ s₂ sG => ?_) fun x s' hx => eH x s' hx);refine seg_bind_wrap (wpAny_mono sG (fun _ s₃ vA => ?_) fun x s' hx => eH x s' hx);refine aJ (Sem.bind_eq_wrap' ..) (aJ (Sem.wrap_wrap ..) ?_);rw [Sem.wrap_congr (execs body env) _ _ (K' := fun f => match f with
           | .next | .cont => .pure (.again (.forLoop target it body orelse env))
           | .brk => .pure (.done .next)
           | .ret v => .pure (.done (.ret v))) (H' := n8 env)
       (fun f => by cases f <;> rfl)
       (fun e => by first | exact Sem.bind_eq_wrap _ _ | (show (do noteFrame e env;theTreesLotGoes e : Sem Unit).bind (fun _ => .raise e) = _;rw [Sem.bind_eq_wrap]))]
   exact vA
theorem rS {c : Code} (h : Seg (model prog w) A R Y n s₀ (.block [] env) (.pure (.done .next)) fs s) : Seg (model prog w) A R Y n s₀ c (.pure (.again (.block [] env))) fs s := by
 refine seg_again rfl ?_;show Seg _ A R Y n s₀ _ ((do return Fin.done (<- (execs [] env).onRaise (fun x => do noteFrame x env;theTreesLotGoes x)) : Sem Fin)) fs s;exact h
end
noncomputable def Lk : PC := fun a b _ => match a,b with
 | .none,.none => some true
 | .int _,.none => some false
 | _,_ => none
inductive P9 : MV -> MV -> Prop
 | n : P9 .none .none
 | i (x : Int) : P9 (.int x) .none
theorem Nf {a b : MV} {H : List MO} {c : Bool} (h : Lk a b H = some c) : P9 a b := by cases a <;> first | exact bJ h | (cases b <;> first | exact bJ h | exact .n | exact .i _)
theorem C.isN {G : Gl} : eG G .Is Lk := fun A ok E s α H a b a' b' c Q i ra rb hp hq => by
 cases Nf hp
 · obtain rfl := ra.none_inv;obtain rfl := rb.none_inv;(injection hp with hp;subst hp);exact is_none (hq _ .refl)
 · obtain ⟨_⟩ := ra.int_inv;obtain rfl := rb.none_inv;(injection hp with hp;subst hp);exact is_none (hq _ .refl)
noncomputable def gY : List Int -> Option Int -> Nat -> List Int
 | _,_,0 => []
 | [],_,_ + 1 => []
 | x :: xs,last,c + 1 => if x = 127 then [] else if x = 0 then (match last with | none => [] | some v => List.replicate (c + 1) v) else x :: gY xs (some x) c
theorem Fg {x : Int} {xs : List Int} {last : Option Int} {m : Nat} (h : x = 127) : gY (x :: xs) last m = [] := by
 cases m <;> simp [gY,h]
theorem Fh {last : Option Int} {m : Nat} : gY [] last m = [] := by cases m <;> rfl
noncomputable def Me (h : Heap) (l : Addr) (ns : List Int) : Prop := ∃ (vs : Array Value) (n : Nat),h.get? l = some { cls := .type "list",data := .seq vs n } /\ vs.size = ns.length /\ ∀ (k : Nat) (x : Int),ns[k]? = some x -> ∃ t,vs[k]? = some (.int x t)
inductive Iw (h : Heap) (ga : Addr) (g : Nat) : Prop
 | mk (o : Obj) (a b : Str) (t u : Tok) (ho : h.get? ga = some o) (r : o.cls = .type "generator" /\ o.data = .fields #[.int g 0,.str a t,.str b u] /\ o.slots = #[]) : Iw h ga g
structure Ll (N₀ : Nat) (C : Addr) (s₀ s : Shared) : Prop where
 keep : ∀ b o,(@LT.lt Nat _ b N₀ \/ (b ≠ C /\ ¬ kG o)) -> s₀.heap.get? b = some o -> s.heap.get? b = some o
 drawn : s.drawn = s₀.drawn
 os : s.os = s₀.os
 gens : ∀ (i : Nat) (g : GenState),s₀.gens[i]? = some g -> s.gens[i]? = some g
 bare : AllBare s.gens
 cns : ∃ m,s.heap.Ns C m
structure qD (G : Gl) (N₀ : Nat) (l : Addr) (ns : List Int) (s s'' : Shared) : Prop where
 up : ∀ b o,¬ @LT.lt Nat _ b N₀ -> s.heap.get? b = some o -> s''.heap.get? b = some o
 base : ∀ b o,G.h₀.get? b = some o -> s''.heap.get? b = some o
 list : Me s''.heap l ns
 bare : AllBare s''.gens
noncomputable def t7 (G : Gl) (N₀ : Nat) (C l : Addr) (ns : List Int) (n₀ : Nat) (outs : List Int) : Protocol := fun m s₀ v s kap =>
 (m < n₀ /\ ∃ x t,outs[n₀ - 1 - m]? = some x /\ v = .int x t) /\ Ll N₀ C s₀ s /\ (0 < m -> ∀ s'',qD G N₀ l ns s s'' -> kap (.send .none) s'')
noncomputable def Ix (N₀ : Nat) (C : Addr) (n₀ : Nat) (outs : List Int) : GenEnd := fun m s₀ r aO => r = .ok (.ret .none) /\ outs.length <= n₀ - m /\ Ll N₀ C s₀ aO
noncomputable abbrev cA : List Str := ["grouping","interval","last_interval"]
noncomputable def Fi : Option Int -> MV
 | none => .none
 | some v => .int v
noncomputable abbrev Gl.on (G : Gl) (hh : Heap) : Gl := { G with h₀ := hh,tabs := [] }
structure gM (G : Gl) (env : Env) (t1 t2 t3 elast eint eint2 egr e0 : Expr) (z3 p6 plast plast0 : Pos) : Prop where
 kind : env.scope.kind = .function
 co : env.scope.isCoroutine = false
 inter : interactive env = false
 cells : env.cells = []
 sgr : gK env "grouping"
 sint : gK env "interval"
 slast : gK env "last_interval"
 t1 : ∀ hh,(∀ b o,G.h₀.get? b = some o -> hh.get? b = some o) -> cO (G.on hh) env cA 0 t1 (aN dH (aE 1) (wK (.int 127)))
 t2 : ∀ hh,(∀ b o,G.h₀.get? b = some o -> hh.get? b = some o) -> cO (G.on hh) env cA 0 t2 (aN dH (aE 1) (wK (.int 0)))
 t3 : ∀ hh,(∀ b o,G.h₀.get? b = some o -> hh.get? b = some o) -> cO (G.on hh) env cA 0 t3 (aN Lk (aE 2) (wK .none))
 el : ∀ hh,(∀ b o,G.h₀.get? b = some o -> hh.get? b = some o) -> aP (G.on hh) env cA 0 elast (aE 2)
 ei : ∀ hh,(∀ b o,G.h₀.get? b = some o -> hh.get? b = some o) -> aP (G.on hh) env cA 0 eint (aE 1)
 eg : ∀ hh,(∀ b o,G.h₀.get? b = some o -> hh.get? b = some o) -> aP (G.on hh) env cA 0 egr (aE 0)
 sl : ∀ hh,(∀ b o,G.h₀.get? b = some o -> hh.get? b = some o) -> bN (G.on hh) env cA 0 (.Assign [.Name "last_interval" plast] eint2 z3) (aW 2 (aE 1))
 s0 : ∀ hh,(∀ b o,G.h₀.get? b = some o -> hh.get? b = some o) -> bN (G.on hh) env cA 0 (.Assign [.Name "last_interval" plast0] e0 p6) (aW 2 (wK .none))
section
variable {G : Gl} {env : Env} {hh : Heap} {s s' s₀ : Shared} {ρ : bI} {I l : Addr} {N₀ : Nat} {ns : List Int}
structure iP (G : Gl) (env : Env) (N₀ : Nat) (I l : Addr) (ns : List Int) (hh : Heap) (s₀ : Shared) (ρ : bI) (s : Shared) : Prop where
 base : ∀ b o,G.h₀.get? b = some o -> hh.get? b = some o
 st : St (G.on hh) env cA ρ [] [] s
 low : Ll N₀ env.locals s₀ s
 hlow : ∀ b o,(@LT.lt Nat _ b N₀ \/ (b ≠ env.locals /\ ¬ kG o)) -> s₀.heap.get? b = some o -> hh.get? b = some o
 hI : hh.get? I = none
 list : Me hh l ns
 hN : ¬ @LT.lt Nat _ env.locals N₀ /\ ¬ @LT.lt Nat _ I N₀ /\ I ≠ env.locals /\ @LT.lt Nat _ l N₀
theorem nA {G : Gl} {env : Env} {names : List Str} {ρ : bI} {α : List Addr} {s : Shared} (st : St G env names ρ α [] s) : α = [] := length_eq_zero_iff.mp (by refine aJ st.inv.len ?_;rfl)
theorem iP.step {ρ' : bI} {Z α' : List Addr} (x : iP G env N₀ I l ns hh s₀ ρ s) (st : St (G.on hh) env cA ρ' α' [] s') (t : a5 (G.on hh) Z [] s α' s') (hZ : Z = [] \/ Z = bV env) (hc : env.cells = []) : iP G env N₀ I l ns hh s₀ ρ' s' /\ (∀ k,s.heap.IsListIter I l k -> s'.heap.IsListIter I l k) := by
 have hα : α' = [] := nA st;subst hα;refine ⟨⟨x.base,st,⟨fun b o hb e => st.inv.base b o (x.hlow b o hb e),t.drawn.trans x.low.drawn,t.os.trans x.low.os,fun i g e => t.gens i g (x.low.gens i g e),st.inv.bare,st.ns⟩,x.hlow,x.hI,x.list,x.hN⟩,fun k hk => ?_⟩
 · obtain ⟨o,ho,r⟩ := hk;refine ⟨o,t.keep I o ho not_mem_nil not_mem_nil fun q => ?_,r⟩;rcases hZ with rfl | rfl
   · simp at q
   · unfold bV at q;rw [hc] at q;simp only [map_nil,mem_singleton] at q;exact x.hN.2.2.1 q
theorem fF {A : Around} (ok : Ok A 0) {t : Expr} {wt : WT} {E : cB} {Q : Bool -> Shared -> Prop} {c : Bool} {k : Nat} (x : iP G env N₀ I l ns hh s₀ ρ s) (hc : env.cells = []) (ht : cO (G.on hh) env cA 0 t wt) (hw : wt ρ [] fun b H => b = c /\ H = []) (hk : s.heap.IsListIter I l k) (h : ∀ s',iP G env N₀ I l ns hh s₀ ρ s' -> s'.heap.IsListIter I l k -> Q c s') : wpAny (model G.prog G.w) A (isTrue t env (eval t env)) Q E s := by
 refine Ia (ht A ok E s [] [] ρ _ x.st hw) fun H₁ aQ b aO q2 aZ aU => ?_;refine bP fun no => ?_;obtain ⟨rfl,rfl⟩ := q2;obtain ⟨oY,fV⟩ := x.step (x.st.step aU aZ) aU (.inl rfl) hc;refine no ?_;exact h _ oY (fV k hk)
theorem nB {A : Around} (ok : Ok A 0) {e : Expr} {w : WE} {E : cB} {Q : cB} {v : MV} {k : Nat} (x : iP G env N₀ I l ns hh s₀ ρ s) (hc : env.cells = []) (he : aP (G.on hh) env cA 0 e w) (hw : w ρ [] fun u H => u = v /\ H = []) (hk : s.heap.IsListIter I l k) (h : ∀ v' s',VR [] s'.heap v v' -> iP G env N₀ I l ns hh s₀ ρ s' -> s'.heap.IsListIter I l k -> Q v' s') : wpAny (model G.prog G.w) A (eval e env) Q E s := by
 refine fM (he A ok E s [] [] ρ _ x.st hw) fun u H₁ aQ b aO q3 bO aZ aU => ?_;obtain ⟨rfl,rfl⟩ := q3;have cK := x.st.step aU aZ;obtain rfl := nA cK;obtain ⟨oY,fV⟩ := x.step cK aU (.inl rfl) hc;exact h _ _ bO oY (fV k hk)
theorem Cw {A : Around} (ok : Ok A 0) {e : Stmt} {w : WS} {E : cB} {Q : Flow -> Shared -> Prop} {ρ' : bI} {k : Nat} (x : iP G env N₀ I l ns hh s₀ ρ s) (hc : env.cells = []) (he : bN (G.on hh) env cA 0 e w) (hw : w ρ [] fun f r H => f = .next /\ r = ρ' /\ H = []) (hk : s.heap.IsListIter I l k) (h : ∀ s',iP G env N₀ I l ns hh s₀ ρ' s' -> s'.heap.IsListIter I l k -> Q .next s') : wpAny (model G.prog G.w) A (exec e env) Q E s := by
 refine Hu (he A ok E s [] [] ρ _ x.st hw) fun fl aY H₁ aQ b aO q4 rf cK aU => ?_;obtain ⟨rfl,rfl,rfl⟩ := q4;cases (show b = .next from rf);obtain rfl := nA cK;obtain ⟨oY,fV⟩ := x.step cK aU (.inr rfl) hc;exact h _ oY (fV k hk)
theorem jV {h : Heap} {X : List Addr} {b : Addr} {o : Obj} (e : h.get? b = some o) (hb : b ∉ X) : (hideAll h X).get? b = some o := hideAll_get _ e hb
theorem iP.wake {k : Nat} {s'' : Shared} (x : iP G env N₀ I l ns hh s₀ ρ s) (hc : env.cells = []) (hk : s.heap.IsListIter I l k) (ag : qD G N₀ l ns s s'') (hv : ∀ i v,ρ i = some v -> v = .none \/ (∃ j,v = .int j) \/ ∃ w,v = .val w) (hd0 : ∀ b o,G.h₀.get? b = some o -> @LT.lt Nat _ b N₀) : iP G env N₀ I l ns (hideAll s''.heap [env.locals,I]) s'' ρ s'' /\ s''.heap.IsListIter I l k := by
 have hN := x.hN;have ne : ∀ b : Addr,@LT.lt Nat _ b N₀ -> b ∉ [env.locals,I] := fun b hb q => by
   rcases mem_cons.mp q with q | q
   · subst q;exact hN.1 hb
   · rw [mem_singleton.mp q] at hb;exact hN.2.1 hb
 refine bP fun no => ?_;obtain ⟨m,o,es,ep,ho,hd,r⟩ := x.st.ns;refine no ?_;have hoC := ag.up env.locals o hN.1 ho;have hk' : s''.heap.IsListIter I l k := by
   obtain ⟨o,ho,r⟩ := hk;exact ⟨o,ag.up I o hN.2.1 ho,r⟩
 refine ⟨⟨fun b o e => jV (ag.base b o e) (ne b (hd0 b o e)),⟨⟨fun b o e => of_hideAll _ e,rfl,nodup_nil,by simp,by simp,by intro q hq;simp at hq,ag.bare⟩,fun j n v hj hv' => ?_,⟨m,o,es,ep,hoC,hd,r⟩,fun n c hm => ?_,fun b hb => ?_,?_⟩,⟨fun b o _ e => e,rfl,rfl,fun i g e => e,ag.bare,⟨m,o,es,ep,hoC,hd,r⟩⟩,fun b o hb e => jV e fun q => ?_,hideAll_none _ (mem_cons_of_mem _ mem_cons_self),?_,hN⟩,hk'⟩
 · obtain ⟨v',lo,rv⟩ := x.st.var j n v hj hv';refine ⟨v',?_,?_⟩
   · rcases lo with ⟨hk,m',hn',hm'⟩ | ⟨hk,c,hcc,_⟩
     · obtain ⟨o',es',ep',ho',hd',r'⟩ := hn';exact .inl ⟨hk,m',⟨o',es',ep',ag.up _ o' hN.1 ho',hd',r'⟩,hm'⟩
     · rw [hc] at hcc;simp at hcc
   · rcases hv j v hv' with rfl | ⟨i,rfl⟩ | ⟨w,rfl⟩
     · exact rv
     · exact rv
     · exact rv
 · rw [hc] at hm;simp at hm
 · unfold bV at hb;rw [hc] at hb;simp only [map_nil,mem_singleton] at hb;subst hb;exact ⟨by simp,by simp,hideAll_none _ mem_cons_self⟩
 · unfold bV;rw [hc];simp
 · rcases hb with hb | ⟨hb,hb'⟩
   · exact ne b hb q
   · rcases mem_cons.mp q with q | q
     · exact hb q
     · rw [mem_singleton.mp q] at e;obtain ⟨o',ho',hc',hd'⟩ := hk';rw [e] at ho';(injection ho' with ho';subst ho');exact hb' (fO hc' hd' (by decide) (by decide) (by intro n t q;cases q))
 · obtain ⟨vs,n,e,r⟩ := ag.list;exact ⟨vs,n,jV e (ne l hN.2.2.2),r⟩
end
set_option backward.match.sparseCases true
noncomputable abbrev Q9 : Flow -> Sem Fin := fun f => .pure (.done (.ret (match f with | .ret v => v | _ => .none)))
noncomputable abbrev Qa (env : Env) : Value -> Sem Fin := fun e => (leaving env e).wrap (fun _ => .raise e) .raise id id
noncomputable abbrev Ra (env : Env) : Flow -> Sem Fin := fun f => match f with | .next => (execs [] env).wrap Q9 (Qa env) id id | f => Q9 f
set_option backward.match.sparseCases false
noncomputable abbrev Ng (env : Env) (K : Flow -> Sem Fin) (H : Value -> Sem Fin) : Result -> Sem Fin := fun r => ((match r with | .ok f => (.pure f : Sem Flow) | .error e => .raise e).onRaise fun (x : Value) => do
       if (<- field x 1) == Value.none then unsupported "frame.own-activation:exception-without-traceback"
       setFlight x env.frame).wrap K H id id
noncomputable abbrev Eo (env : Env) (body : List Stmt) (p : Pos) : Frame := .ret (Ng env (Ra env) (Qa env)) none false [] (.func body env) p []
section
variable {t1 t2 t3 elast eint eint2 egr e0 tt : Expr} {rz : List Stmt} {z1 z2 z3 y1 y2 p6 q1 q2 q3 q4 q5 plast plast0 pr pint : Pos}
noncomputable abbrev dK (t1 t2 t3 elast eint eint2 tt : Expr) (rz : List Stmt) (z1 z2 z3 y1 y2 q1 q2 q3 q4 plast pr : Pos) : List Stmt :=
 [.If t1 [.Return none pr] [] q1,.If t2 [.If t3 rz [] q2,.While tt [.Expr (.Yield (some elast) y1) z1] [] q3] [] q4,.Expr (.Yield (some eint) y2) z2,.Assign [.Name "last_interval" plast] eint2 z3]
variable {G : Gl} {env : Env} {N₀ : Nat} {I l : Addr} {ns : List Int} {A : Around} {n₀ : Nat} {outs : List Int} {body : List Stmt} {p : Pos}
theorem Rb {h : Heap} {x : Int} {v : Value} (r : VR [] h (.int x) v) : ∃ t,v = .int x t := by skip;exact r
theorem Fj {last : Option Int} {ρ : bI} (h : ∀ i v,ρ i = some v -> v = .none \/ (∃ j,v = .int j) \/ ∃ w,v = .val w) (i : Nat) (x : MV) (hx : x = .none \/ (∃ j,x = .int j) \/ ∃ w,x = .val w) : ∀ j v,upd ρ i x j = some v -> v = .none \/ (∃ j,v = .int j) \/ ∃ w,v = .val w := fun j v e => by
 unfold upd at e;split at e
 · (injection e with e;subst e);exact hx
 · exact h j v e
theorem Fk (P : gM G env t1 t2 t3 elast eint eint2 egr e0 z3 p6 plast plast0) (hd0 : ∀ b o,G.h₀.get? b = some o -> @LT.lt Nat _ b N₀) (htt : ∀ hh,(∀ b o,G.h₀.get? b = some o -> hh.get? b = some o) -> cO (G.on hh) env cA 0 tt (cD (wK (.bool true)))) (F2 F1 : Frame) (hF : splitAtGen [F2,F1] = none) (hg : [F2,F1].any Frame.guarded = false) (ok : Ok (A.over (.whileLoop tt [.Expr (.Yield (some elast) y1) z1] [] env) [F2,F1]) 0) {v : Int} : ∀ (m : Nat) (hh : Heap) (s₀ s : Shared) (ρ : bI) (k : Nat),0 < m -> m <= n₀ -> iP G env N₀ I l ns hh s₀ ρ s -> s.heap.IsListIter I l k -> ρ 2 = some (.int v) -> (∀ i v,ρ i = some v -> v = .none \/ (∃ j,v = .int j) \/ ∃ w,v = .val w) -> outs.drop (n₀ - m) = List.replicate m v -> Seg (model G.prog G.w) A (Ix N₀ env.locals n₀ outs) (t7 G N₀ env.locals l ns n₀ outs) m s₀ (.whileLoop tt [.Expr (.Yield (some elast) y1) z1] [] env) ((model G.prog G.w).den (.whileLoop tt [.Expr (.Yield (some elast) y1) z1] [] env)) [F2,F1] s := by
 intro m;induction m with
 | zero => intro _ _ _ _ _ h;exact absurd h (lt_irrefl _)
 | succ m ih =>
   intro hh s₀ s ρ k _ hm x hk hv hok ho;refine seg_whileLoop (fF ok (c := true) x P.cells (htt hh x.base) ⟨true,rfl,rfl,rfl⟩ hk fun Rz x hk => ?_);rw [if_pos rfl];refine seg_execs_cons ?_;refine seg_Expr_Yield hF rfl hg ?_ P.co P.inter;refine nB ok x P.cells (P.el hh x.base) ⟨_,hv,rfl,rfl⟩ hk fun u aO r oY fV kap hkap => ?_;obtain ⟨t,rfl⟩ := Rb r;have e1 : outs[n₀ - (m + 1)]? = some v := by
     have := congrArg (fun z => z[0]?) ho;simpa [getElem?_drop,replicate_succ] using this
   refine ⟨⟨by assumption,v,t,by rw [(by lia : n₀ - 1 - m = n₀ - (m + 1))];exact e1,rfl⟩,oY.low,fun h0 s'' ag => ?_⟩;obtain ⟨vC,Oe⟩ := oY.wake P.cells fV ag hok hd0;refine hkap .none s'' ?_;refine seg_execs_nil ?_;refine seg_again rfl ?_;refine ih _ _ _ ρ k h0 (le_of_lt ‹_›) vC Oe hv hok ?_;have := congrArg (List.drop 1) ho;rw [drop_drop] at this;rw [show n₀ - m = n₀ - (m + 1) + 1 by lia];exact this
variable (tt rz) in
theorem Cx (P : gM G env t1 t2 t3 elast eint eint2 egr e0 z3 p6 plast plast0) (hd0 : ∀ b o,G.h₀.get? b = some o -> @LT.lt Nat _ b N₀) (htt : ∀ hh,(∀ b o,G.h₀.get? b = some o -> hh.get? b = some o) -> cO (G.on hh) env cA 0 tt (cD (wK (.bool true)))) (ok1 : ∀ p,Ok (A.over (.forLoop (.Name "interval" pint) (.ref I) (dK t1 t2 t3 elast eint eint2 tt rz z1 z2 z3 y1 y2 q1 q2 q3 q4 plast pr) [] env) [Eo env body p]) 0) (ok2 : ∀ (c : Code) (F : Frame) p,F.where_.1 = .forLoop (.Name "interval" pint) (.ref I) (dK t1 t2 t3 elast eint eint2 tt rz z1 z2 z3 y1 y2 q1 q2 q3 q4 plast pr) [] env -> F.marks = (fun x => x) -> Ok (A.over (.whileLoop tt [.Expr (.Yield (some elast) y1) z1] [] env) [F,Eo env body p]) 0) : ∀ (m : Nat) (hh : Heap) (s₀ s : Shared) (ρ : bI) (k : Nat) (last : Option Int),0 < m -> m <= n₀ -> iP G env N₀ I l ns hh s₀ ρ s -> s.heap.IsListIter I l k -> ρ 2 = some (Fi last) -> (∀ i v,ρ i = some v -> v = .none \/ (∃ j,v = .int j) \/ ∃ w,v = .val w) -> (last = none -> (ns.drop k)[0]? ≠ some 0) -> outs.drop (n₀ - m) = gY (ns.drop k) last m -> Seg (model G.prog G.w) A (Ix N₀ env.locals n₀ outs) (t7 G N₀ env.locals l ns n₀ outs) m s₀ (.forLoop (.Name "interval" pint) (.ref I) (dK t1 t2 t3 elast eint eint2 tt rz z1 z2 z3 y1 y2 q1 q2 q3 q4 plast pr) [] env) ((model G.prog G.w).den (.forLoop (.Name "interval" pint) (.ref I) (dK t1 t2 t3 elast eint eint2 tt rz z1 z2 z3 y1 y2 q1 q2 q3 q4 plast pr) [] env)) [Eo env body p] s := by
 refine nV (dK t1 t2 t3 elast eint eint2 tt rz z1 z2 z3 y1 y2 q1 q2 q3 q4 plast pr) ?_;intro xG;intro m;induction m with
 | zero => intro _ _ _ _ _ _ h;exact absurd h (lt_irrefl _)
 | succ m ih =>
   intro hh s₀ s ρ k last _ hm x hk hv hok hz ho;have hlI : l ≠ I := fun e => x.hN.2.1 (e ▸ x.hN.2.2.2);refine bP fun no => ?_;obtain ⟨vs,nn,hl,hsz,hvs⟩ := x.list;refine no ?_;have hls : s.heap.IsList l vs := ⟨_,x.st.inv.base l _ hl,rfl,_,rfl⟩;have hlen : outs.length - (n₀ - (m + 1)) = (gY (ns.drop k) last (m + 1)).length := by rw [<- ho];simp
   refine n9 ?_;refine nQ ?_;intro bU;by_cases hkn : k < ns.length
   · -- the next number
     have hy : ns[k]? = some ns[k] := by simp [hkn]
     have hdk : ns.drop k = ns[k] :: ns.drop (k + 1) := (drop_eq_getElem_cons hkn);generalize hxk : ns[k] = y at *;obtain ⟨t,hvk⟩ := hvs k y hy;refine wpAny_pyNext_list_item hk hls (x := .int y t) hvk fun h' hk' hs' => ?_;have own : ∀ x ∈ [I],∀ o,s.heap.get? x = some o -> kG o := fun z hz' o' e => by
       obtain ⟨o,ho',hoc,hod⟩ := hk;rw [mem_singleton.mp hz',ho'] at e;(injection e with e;subst e);exact fO hoc hod (by decide) (by decide) (by intro n t q;cases q)
     have hkp : ∀ b o,b ∉ [I] -> s.heap.get? b = some o -> h'.get? b = some o := fun b o hb e => Heap.SameBut.keep' hs' hb e;have ap : Ap (G.on hh) [I] [] := fun z hz' => by rw [mem_singleton.mp hz'];exact ⟨by simp,by simp,x.hI⟩
     have aZ : cL (G.on hh) [] [] { s with heap := h' } := x.st.inv.but (s' := { s with heap := h' }) ap own hkp x.st.inv.bare;have cK : St (G.on hh) env cA ρ [] [] { s with heap := h' } := mU x.st aZ (X := [I]) ⟨hkp,rfl,rfl,rfl⟩ own fun z hz' q => by
       rw [mem_singleton.mp hz'] at q;unfold bV at q;rw [P.cells] at q;simp only [map_nil,mem_singleton] at q;exact x.hN.2.2.1 q
     refine wpAny_of_eq (rfl : letOwnedTupleGo (.Name "interval" pint) (.ref I) (.int y t) = pure ()) ?_;refine wpAny_assign_Name (dC (G := G.on hh) (names := cA) (i := 1) P.kind (by decide) rfl P.sint cK (VR.int (i := y) (t := t)) fun s₂ cN bF => ?_);obtain ⟨vC,Ar⟩ := (⟨x.base,cK,⟨fun b o hb e => aZ.base b o (x.hlow b o hb e),x.low.drawn,x.low.os,x.low.gens,x.low.bare,cK.ns⟩,x.hlow,x.hI,x.list,x.hN⟩ : iP G env N₀ I l ns hh s₀ ρ { s with heap := h' }).step cN bF (.inr rfl) P.cells;have As := Fj (last := last) hok 1 (.int y) (.inr (.inl ⟨y,rfl⟩));have Kt : upd ρ 1 (.int y) 2 = some (Fi last) := by assumption
     have rH : upd ρ 1 (.int y) 1 = some (.int y) := by rfl
     refine seg_execs_cons ?_;refine m9 (fF (ok1 p) (c := decide (y = 127)) vC P.cells (P.t1 hh x.base) ⟨_,rH,_,rfl,rfl,rfl⟩ (Ar (k + 1) hk') fun s₃ J2 Ho => ?_);by_cases h127 : y = 127
     · simp only [h127,decide_true,if_true];refine seg_execs_cons ?_;rw [exec_Return_none];refine seg_bind_wrap (wpAny_standAt ?_);refine seg_leaf (.ok (.ret .none)) ?_;refine seg_end (.ok (.ret .none)) ⟨rfl,?_,J2.low⟩;rw [hdk,Fg h127] at hlen;simp at hlen;lia
     · simp only [h127,decide_false,Bool.false_eq_true,if_false];refine seg_execs_nil ?_;refine seg_execs_cons ?_;refine m9 (fF (ok1 p) (c := decide (y = 0)) J2 P.cells (P.t2 hh x.base) ⟨_,rH,_,rfl,rfl,rfl⟩ Ho fun bY J3 oH => ?_);by_cases h0 : y = 0
       · simp only [h0,decide_true,if_true];cases last with
         | none =>
           exfalso
           refine hz rfl ?_;rw [hdk,h0];rfl
         | some v =>
           refine seg_execs_cons ?_;refine m9 (fF (ok1 p) (c := false) J3 P.cells (P.t3 hh x.base) ⟨_,Kt,_,rfl,rfl,rfl⟩ oH fun fT Em xJ => ?_);simp only [Bool.false_eq_true,if_false];refine seg_execs_nil ?_;refine seg_execs_cons ?_;refine seg_While fun pw => ?_;refine Fk P hd0 htt _ _ rfl rfl ?_ (m + 1) hh s₀ fT _ (k + 1) (succ_pos _) hm Em xJ Kt As ?_
           · exact ok2 default _ p rfl rfl
           · rw [ho,hdk];simp [gY,h0]
       · simp only [h0,decide_false,Bool.false_eq_true,if_false];refine seg_execs_nil ?_;refine seg_execs_cons ?_;refine seg_Expr_Yield rfl rfl rfl ?_ P.co P.inter;refine nB (ok1 p) J3 P.cells (P.ei hh x.base) ⟨_,rH,rfl,rfl⟩ oH fun u fT r Em xJ kap hkap => ?_;obtain ⟨t',rfl⟩ := Rb r;have ho' : outs.drop (n₀ - (m + 1)) = y :: gY (ns.drop (k + 1)) (some y) m := by rw [ho,hdk];simp [gY,h127,h0]
         have e1 : outs[n₀ - (m + 1)]? = some y := by
           have := congrArg (fun z => z[0]?) ho';simpa [getElem?_drop] using this
         refine ⟨⟨by assumption,y,t',by rw [(by lia : n₀ - 1 - m = n₀ - (m + 1))];exact e1,rfl⟩,Em.low,fun hm0 s'' ag => ?_⟩;obtain ⟨Og,Op⟩ := Em.wake P.cells xJ ag As hd0;refine hkap .none s'' ?_;refine seg_execs_cons ?_;refine seg_wrap (Cw (ok1 p) (ρ' := upd (upd ρ 1 (.int y)) 2 (.int y)) Og P.cells (P.sl _ Og.base) ⟨_,rH,rfl,rfl,rfl⟩ Op fun oX Qw Oa => ?_);refine seg_execs_nil ?_;refine seg_again rfl ?_;refine ih _ _ _ _ (k + 1) (some y) hm0 (le_of_lt ‹_›) Qw Oa (by rfl) (Fj (last := last) As 2 (.int y) (.inr (.inl ⟨y,rfl⟩))) (by simp) ?_;have := congrArg (List.drop 1) ho';rw [drop_drop] at this;rw [show n₀ - m = n₀ - (m + 1) + 1 by lia];exact this
   · -- the end
     refine wpAny_pyNext_list_end (ok1 p).1 hk hls (Array.getElem?_eq_none (by lia)) fun h' he' => ?_;have own : ∀ x ∈ [I],∀ o,s.heap.get? x = some o -> kG o := fun z hz' o' e => by
       obtain ⟨o,ho',hoc,hod⟩ := hk;rw [mem_singleton.mp hz',ho'] at e;(injection e with e;subst e);exact fO hoc hod (by decide) (by decide) (by intro n t q;cases q)
     have hkp : ∀ b o,b ∉ [I] -> s.heap.get? b = some o -> h'.get? b = some o := fun b o hb e => he' b o (fun z => hb (by simp [z])) e;refine rS ?_;refine seg_leaf (.ok .next) ?_;refine seg_end (.ok (.ret .none)) ⟨rfl,?_,?_⟩
     · rw [drop_eq_nil_of_le (not_lt.mp ‹_›),Fh] at hlen;simp at hlen;lia
     · have aZ : cL (G.on hh) [] [] { s with heap := h' } := x.st.inv.but (s' := { s with heap := h' }) (fun z hz' => by rw [mem_singleton.mp hz'];exact ⟨by simp,by simp,x.hI⟩) own hkp x.st.inv.bare;exact ⟨fun b o hb e => aZ.base b o (x.hlow b o hb e),x.low.drawn,x.low.os,x.low.gens,x.low.bare,by
         refine bP fun no => ?_;obtain ⟨m,o,es,ep,hoC,r⟩ := x.st.ns;refine no ?_;exact ⟨m,o,es,ep,hkp _ _ (fun q => x.hN.2.2.1 (mem_singleton.mp q).symm) hoC,r⟩⟩
end
section
variable {t1 t2 t3 elast eint eint2 egr e0 tt : Expr} {rz : List Stmt} {z1 z2 z3 y1 y2 p6 q1 q2 q3 q4 q5 plast plast0 pr pint : Pos}
variable {G : Gl} {env : Env} {N₀ : Nat} {l : Addr} {ns : List Int} {A : Around} {n₀ : Nat} {outs : List Int}
noncomputable abbrev eE (t1 t2 t3 elast eint eint2 egr e0 tt : Expr) (rz : List Stmt) (z1 z2 z3 y1 y2 p6 q1 q2 q3 q4 q5 plast plast0 pr pint : Pos) : List Stmt :=
 [.Assign [.Name "last_interval" plast0] e0 p6,.For (.Name "interval" pint) egr (dK t1 t2 t3 elast eint eint2 tt rz z1 z2 z3 y1 y2 q1 q2 q3 q4 plast pr) [] q5]
theorem wB {R : GenEnd} {Y : Protocol} (P : gM G env t1 t2 t3 elast eint eint2 egr e0 z3 p6 plast plast0) (hd0 : ∀ b o,G.h₀.get? b = some o -> @LT.lt Nat _ b N₀) (hfold : ∀ x,foldedSetIterable egr env x = pure x) (ok0 : Ok (A.over (.func (eE t1 t2 t3 elast eint eint2 egr e0 tt rz z1 z2 z3 y1 y2 p6 q1 q2 q3 q4 q5 plast plast0 pr pint) env) []) 0) {m : Nat} {s : Shared} (base : ∀ b o,G.h₀.get? b = some o -> s.heap.get? b = some o) (bare : AllBare s.gens) (hC : s.heap.Ns env.locals (fun y => if y = ("grouping" : Str) then some (.ref l) else none)) (hCN : ¬ @LT.lt Nat _ env.locals N₀) (hl : Me s.heap l ns) (hlN : @LT.lt Nat _ l N₀) (hgk : env.kindOf "grouping" = some .local) (hturn : ∀ (I : Addr) (hh : Heap) (p : Pos) (s₃ : Shared) (ρ : bI),iP G env N₀ I l ns hh s ρ s₃ -> s₃.heap.IsListIter I l 0 -> ρ 2 = some .none -> (∀ i v,ρ i = some v -> v = .none \/ (∃ j,v = .int j) \/ ∃ w,v = .val w) -> Seg (model G.prog G.w) A R Y m s (.forLoop (.Name "interval" pint) (.ref I) (dK t1 t2 t3 elast eint eint2 tt rz z1 z2 z3 y1 y2 q1 q2 q3 q4 plast pr) [] env) ((model G.prog G.w).den (.forLoop (.Name "interval" pint) (.ref I) (dK t1 t2 t3 elast eint eint2 tt rz z1 z2 z3 y1 y2 q1 q2 q3 q4 plast pr) [] env)) [Eo env (eE t1 t2 t3 elast eint eint2 egr e0 tt rz z1 z2 z3 y1 y2 p6 q1 q2 q3 q4 q5 plast plast0 pr pint) p] s₃) : Seg (model G.prog G.w) A R Y m s (.func (eE t1 t2 t3 elast eint eint2 egr e0 tt rz z1 z2 z3 y1 y2 p6 q1 q2 q3 q4 q5 plast plast0 pr pint) env) ((model G.prog G.w).den (.func (eE t1 t2 t3 elast eint eint2 egr e0 tt rz z1 z2 z3 y1 y2 p6 q1 q2 q3 q4 q5 plast plast0 pr pint) env)) [] s := by
 refine nV (eE t1 t2 t3 elast eint eint2 egr e0 tt rz z1 z2 z3 y1 y2 p6 q1 q2 q3 q4 q5 plast plast0 pr pint) ?_;intro xG;have hown : bV env = [env.locals] := by unfold bV;rw [P.cells];rfl
 generalize hh' : hideAll s.heap [env.locals] = hh;have neC : ∀ b : Addr,@LT.lt Nat _ b N₀ -> b ∉ [env.locals] := fun b hb q => hCN (by rw [mem_singleton.mp q] at hb;exact hb);have up : ∀ b o,b ∉ [env.locals] -> s.heap.get? b = some o -> hh.get? b = some o := fun b o hb e => by rw [<- hh'];exact jV e hb
 have hb : ∀ b o,G.h₀.get? b = some o -> hh.get? b = some o := fun b o e => up b o (neC b (hd0 b o e)) (base b o e);have st : St (G.on hh) env cA (fun i => if i = 0 then some (.val (.ref l)) else none) [] [] s := by
   refine ⟨⟨fun b o e => ?_,rfl,nodup_nil,by simp,by simp,by intro q hq;simp at hq,bare⟩,fun j n v hj hv => ?_,⟨_,hC⟩,fun n c hm => ?_,fun b hb => ?_,by rw [hown];simp⟩
   · have e' : hh.get? b = some o := e;rw [<- hh'] at e';exact of_hideAll _ e'
   · cases j with
     | zero =>
       (injection hj with hj;subst hj);(injection hv with hv;subst hv)
       exact ⟨.ref l,.inl ⟨hgk,_,hC,by rfl⟩,by skip;rfl⟩
     | succ j => exact nS hv
   · rw [P.cells] at hm;simp at hm
   · rw [hown] at hb;obtain rfl := mem_singleton.mp hb;refine ⟨by simp,by simp,?_⟩
     skip
     rw [<- hh'];exact hideAll_none _ ‹_›
 refine seg_func ?_;refine seg_execs_cons ?_;refine seg_wrap (Hu (P.s0 hh hb _ ok0 _ s [] [] _ (fun f r H => f = .next /\ r = upd (fun i => if i = 0 then some (.val (.ref l)) else none) 2 .none /\ H = []) st ⟨rfl,rfl,rfl⟩) fun fl aY H₁ aQ f aO q4 rf cK Qp => ?_);refine bP fun no => ?_;obtain ⟨rfl,rfl,rfl⟩ := q4;refine no ?_;cases (show f = .next from rf);refine bP fun no => ?_;obtain rfl := nA cK;refine no ?_;refine seg_execs_cons ?_;refine Iv (hs := hfold) (fM (P.eg hh hb _ ok0 _ aO [] [] _ (fun v H => v = .val (.ref l) /\ H = []) cK ⟨.val (.ref l),by rfl,rfl,rfl⟩) fun v bH bL v' s₂ q3 dW bQ Oi => ?_);refine nQ ?_;intro bU;refine bP fun no => ?_;obtain ⟨rfl,rfl⟩ := q3;refine no ?_
 skip;subst dW
 have cN := cK.step Oi bQ;refine bP fun no => ?_;obtain rfl := nA cN;refine no ?_;have hlh : Me hh l ns := by
   refine bP fun no => ?_;obtain ⟨vs,n,e,r⟩ := hl;refine no ?_;exact ⟨vs,n,up l _ (neC l hlN) e,r⟩
 refine bP fun no => ?_;obtain ⟨vs,n,hle,hsz,hvs⟩ := id hlh;refine no ?_;refine wpAny_pyIter_list ⟨_,(bQ.base l _ hle),rfl,_,rfl⟩ fun p => ?_;generalize hI : s₂.heap.objs.size = I;have hIf : s₂.heap.get? I = none := a9 (le_of_eq hI);generalize oJ : ({ s₂ with heap := s₂.heap.push { cls := .type "list_iterator",data := .fields #[.ref l,.int 0 0] } } : Shared) = s₃;have En : Kp s₂ s₃ := by rw [<- oJ];exact Kp.push _
 have gI : s₃.heap.IsListIter I l 0 := by rw [<- oJ,<- hI];exact ⟨_,get?_push_size _ rfl,rfl,rfl⟩
 have cG := cN.step En.step (bQ.kp En);refine bP fun no => ?_;obtain ⟨mC,oC',esC,epC,hoC,_⟩ := cN.ns;refine no ?_;have hIN : ¬ @LT.lt Nat _ I N₀ := fun q => by
   have h1 : @LT.lt Nat _ env.locals s₂.heap.objs.size := lt_size hoC;have h2 : @LT.lt Nat _ I N₀ := q;have h3 : ¬ @LT.lt Nat _ env.locals N₀ := hCN;have h4 : @Eq Nat s₂.heap.objs.size I := hI
   lia
 have low : Ll N₀ env.locals s s₃ := by
   have T := (Qp.trans (Oi.weak (Y := bV env) (by exact fun _ h => absurd h not_mem_nil))).trans (En.step (G := G.on hh) (X := bV env) (α := []));refine ⟨fun b o hb' e => cG.inv.base b o (up b o ?_ e),T.drawn,T.os,T.gens,cG.inv.bare,cG.ns⟩;rcases hb' with h | h
   · exact neC b h
   · exact fun q => h.1 (mem_singleton.mp q)
 have x : iP G env N₀ I l ns hh s (upd (fun i => if i = 0 then some (.val (.ref l)) else none) 2 .none) s₃ := by
   refine ⟨hb,cG,low,fun b o hb' e => up b o ?_ e,?_,hlh,hCN,hIN,fun e => ?_,hlN⟩
   · rcases hb' with h | h
     · exact neC b h
     · exact fun q => h.1 (mem_singleton.mp q)
   · cases e : hh.get? I with
     | none => rfl
     | some o => have := bQ.base I o e;rw [hIf] at this;exact nS this
   · rw [e,hoC] at hIf;exact sN hIf
 exact hturn I hh p s₃ _ x gI (by rfl) (fun i v e => by
   unfold upd at e;split at e
   · (injection e with e;subst e);exact .inl rfl
   · by_cases hi : i = 0
     · simp [hi] at e;subst e;exact .inr (.inr ⟨_,rfl⟩)
     · simp [hi] at e)
theorem yJ (P : gM G env t1 t2 t3 elast eint eint2 egr e0 z3 p6 plast plast0) (hd0 : ∀ b o,G.h₀.get? b = some o -> @LT.lt Nat _ b N₀) (htt : ∀ hh,(∀ b o,G.h₀.get? b = some o -> hh.get? b = some o) -> cO (G.on hh) env cA 0 tt (cD (wK (.bool true)))) (hfold : ∀ x,foldedSetIterable egr env x = pure x) (ok0 : Ok (A.over (.func (eE t1 t2 t3 elast eint eint2 egr e0 tt rz z1 z2 z3 y1 y2 p6 q1 q2 q3 q4 q5 plast plast0 pr pint) env) []) 0) (ok1 : ∀ I p,Ok (A.over (.forLoop (.Name "interval" pint) (.ref I) (dK t1 t2 t3 elast eint eint2 tt rz z1 z2 z3 y1 y2 q1 q2 q3 q4 plast pr) [] env) [Eo env (eE t1 t2 t3 elast eint eint2 egr e0 tt rz z1 z2 z3 y1 y2 p6 q1 q2 q3 q4 q5 plast plast0 pr pint) p]) 0) (ok2 : ∀ I (c : Code) (F : Frame) p,F.where_.1 = (.forLoop (.Name "interval" pint) (.ref I) (dK t1 t2 t3 elast eint eint2 tt rz z1 z2 z3 y1 y2 q1 q2 q3 q4 plast pr) [] env) -> F.marks = (fun x => x) -> Ok (A.over (.whileLoop tt [.Expr (.Yield (some elast) y1) z1] [] env) [F,Eo env (eE t1 t2 t3 elast eint eint2 egr e0 tt rz z1 z2 z3 y1 y2 p6 q1 q2 q3 q4 q5 plast plast0 pr pint) p]) 0) {m : Nat} (h0 : 0 < m) (hm : m <= n₀) {s : Shared} (base : ∀ b o,G.h₀.get? b = some o -> s.heap.get? b = some o) (bare : AllBare s.gens) (hC : s.heap.Ns env.locals (fun y => if y = ("grouping" : Str) then some (.ref l) else none)) (hCN : ¬ @LT.lt Nat _ env.locals N₀) (hl : Me s.heap l ns) (hlN : @LT.lt Nat _ l N₀) (hgk : env.kindOf "grouping" = some .local) (hz : ns[0]? ≠ some 0) (ho : outs.drop (n₀ - m) = gY ns none m) : Seg (model G.prog G.w) A (Ix N₀ env.locals n₀ outs) (t7 G N₀ env.locals l ns n₀ outs) m s (.func (eE t1 t2 t3 elast eint eint2 egr e0 tt rz z1 z2 z3 y1 y2 p6 q1 q2 q3 q4 q5 plast plast0 pr pint) env) ((model G.prog G.w).den (.func (eE t1 t2 t3 elast eint eint2 egr e0 tt rz z1 z2 z3 y1 y2 p6 q1 q2 q3 q4 q5 plast plast0 pr pint) env)) [] s :=
 wB P hd0 hfold ok0 base bare hC hCN hl hlN hgk fun I hh p s₃ ρ x gI h2 hv => Cx tt rz P hd0 htt (ok1 I) (ok2 I) m hh s s₃ ρ 0 none h0 hm x gI h2 hv (fun _ => by exact hz) (by exact ho)
end
section
variable {prog : Program} {w : World} {A : Around} {E : cB} {s : Shared}
theorem Fl {ga e : Addr} {g : Nat} {nm qn : Value} {o oe : Obj} {T : String} {β : Type} {Q : β -> Shared -> Prop} (ho : s.heap.get? ga = some o) (hd : o.data = .fields #[.int g 0,nm,qn]) (hsl : o.slots = #[]) (he : s.heap.get? e = some oe) (hc : oe.cls = .type T) (hT : isSubtype (.type T) (.type "StopIteration") = pure false) (h : E (.ref e) s) : wpAny (model prog w) A (Builtin.Generator.genLeft (.ref ga) (.ref e) : Sem β) Q E s := by
 have ht : s.TypeIs (.ref e) T := ⟨_,he,hc⟩
 skip
 refine wpAny_bind (wpAny_bind (wpAny_load ho ?_));refine aJ hd ?_;refine wpAny_pure ?_;refine wpAny_bind (wpAny_isInstance (T := T) (b := false) ht hT ?_);simp only [Bool.and_false,Bool.false_eq_true,if_false];refine wpAny_bind (wpAny_isInstance (T := T) (b := false) ht hT ?_);simp only [Bool.not_false,if_true];exact wpAny_bind (wpAny_throw h)
theorem wC {a : Addr} {g n : Nat} {gs : GenState} {R : GenEnd} {Y : Protocol} {Q : Option Value -> Shared -> Prop} (hh : A.handled = none) (hl : s.heap.NoLimit) (hroom : A.depth < recursionLimit) (hg : s.heap.IsGen a g) (hgs : s.gens[g]? = some gs) (hgo : gs.Goes (model prog w) A.in1 R Y n (.send .none) (s.setGen g .running)) (hY : ∀ v aO gs',gs'.bare = true -> Y (n - 1) (s.setGen g .running) v aO (fun r' s'' => match n with
       | 0 => False
       | m + 1 => gs'.Goes (model prog w) A.in1 R Y m r' s'') -> Q (some v) (aO.setGen g gs'))
   (hR : ∀ x aO,R n (s.setGen g .running) x aO -> (x = .ok (.ret .none) /\ ∀ h',(∀ b o,aO.heap.get? b = some o -> h'.get? b = some o) -> Q none { aO.setGen g .finished with heap := h' }) \/
     ∃ e oe T,x = .error (.ref e) /\ aO.heap.IsGen a g /\ aO.heap.get? e = some oe /\ oe.cls = .type T /\ isSubtype (.type T) (.type "StopIteration") = pure false /\ E (.ref e) (aO.setGen g .finished)) :
   wpAny (model prog w) A (pyNext (.ref a)) Q E s := by
 skip
 refine wpAny_bind (wpAny_attempt (wpAny_callSpecial?_slot (name := ofString "__next__") hg.typeIs slot_gen_next
   (wpAny_call_entry slot_gen_next hg.typeIs entry_gen_next ?_ (args_gen_next _))))
 show wpAny _ A.in1 (Builtin.Generator.genWake (.ref a) (.send .none)) _ _ s;refine nQ ?_;intro bU;refine nE ?_;intro Jv
 skip
 refine wpAny_bind (wpAny_holding (wpAny_genNumber hg (wpAny_bind (wpAny_genState hgs ?_))));cases gs with
 | running => exact hgo.elim
 | finished => exact hgo.elim
 | _ =>
   refine wpAny_bind (wpAny_roomToWake hl hroom ?_);show wpAny _ A.in1 (.resume g (.send .none) [] _) _ _ s;refine wpAny_resumeQ hgs hgo (fun x aO hx => ?_) (fun v aO gs' hb hv => wpAny_pure ⟨v,rfl,wpAny_pure (hY v aO gs' hb hv)⟩);rcases hR x aO hx with ⟨rfl,hq⟩ | ⟨e,oe,T,rfl,⟨o,nm,qn,ho,_,hd,hsl⟩,he,hc,hT,hE⟩
   · show wpAny _ A.in1 (newExc (.type "StopIteration") [] >>= _) _ _ _;refine wpAny_bind ?_;dsimp only [newExc,newTuple];refine wpAny_bind (wpAny_newObj_type ?_ (by size_fits));refine wpAny_bind (m := firstArgMember _ _) (wpAny_of_eq (a := Value.none) (by first | rfl | (simp only [firstArgMember];rfl)) ?_);refine wpAny_newObj_type ?_ (by size_fits);dsimp only [raiseNew];refine wpAny_bind (wpAny_bind (wpAny_handled ?_));first | refine aJ (show A.in1.handled = none from hh) ?_ | rw [hh]
     refine wpAny_throw ?_;refine wpAny_bind (wpAny_isInstance (T := "StopIteration") (b := true) ⟨_,get?_push_size _ rfl,rfl⟩ isSubtype_stop ?_);exact wpAny_pure (hq _ fun b o hb => get?_push_of_some _ (get?_push_of_some _ hb))
   · show wpAny _ A.in1 (Builtin.Generator.genLeft (.ref a) (.ref e) : Sem Fin) _ _ _;refine Fl (s := aO.setGen g .finished) ho hd hsl he hc hT ?_;refine wpAny_bind (wpAny_isInstance (T := T) (b := false) ⟨_,he,hc⟩ hT ?_);exact wpAny_throw hE
end
section
variable {M : Model} {A : Around} {E : cB} {s : Shared}
theorem Fm {B : Heap} {env : Env} {outer : List Env} {L e : Addr} {oe : Obj} {vs : Array Value} {a0 : Value} {Q : Unit -> Shared -> Prop} (hfr : A.frames = some (env :: outer)) (hl : s.heap.FunFrames B (env :: outer)) (hf : env.frame = some L) (he : s.heap.get? e = some oe) (hkb : B.StaysIn s.heap) (hen : B.get? e = none) (hd : oe.data = .fields vs) (h1 : vs[1]? = some .none) (h0 : vs[0]? = some a0) (hQ : ∀ h',Heap.HeldW B (env :: outer) e oe.cls a0 L h' -> s.heap.UpToSlots h' -> Q () { s with heap := h' }) : wpAny M A (noteFrame (.ref e) env) Q E s := by
 unfold noteFrame;simp only [hf];refine wpAny_bind (wpAny_field he hd h1 ?_);refine aJ (if_neg (by decide)) ?_;refine wpAny_entryW hfr hl hf he hkb hen hd (Array.getElem?_eq_some_iff.mp h1).1 h0 fun h' hN => ?_;refine bP fun no => ?_;obtain ⟨k1,k2,k3,k4⟩ := hN;refine no ?_;exact hQ h' ⟨k1,hen,k2,k3⟩ k4
theorem wD {B : Heap} {l : List Env} {env : Env} {L e : Addr} {cls a0 : Value} {Q : Unit -> Shared -> Prop} (hf : env.frame = some L) (hh : Heap.HeldW B l e cls a0 L s.heap) (hQ : ∀ h',Heap.HeldW B l e cls a0 L h' -> s.heap.UpToSlots h' -> Q () { s with heap := h' }) :
   wpAny M A (do
     if (<- field (.ref e) 1) == Value.none then unsupported "frame.own-activation:exception-without-traceback"
     setFlight (.ref e) env.frame) Q E s := by
 refine bP fun no => ?_;obtain ⟨hkb,hen,hl,oe,vs,T,oT,ts,he,hcls,hd,h1,hnT,hTe,hT,hdT,h3⟩ := hh;refine no ?_;refine wpAny_bind (wpAny_field he hd h1 ?_);refine aJ (if_neg (show ¬ ((Value.ref T == Value.none) = true) from by exact Bool.false_ne_true)) ?_;have hsz3 : 3 < ts.size := (Array.getElem?_eq_some_iff.mp h3).1;have other : ∀ b,b ≠ T -> (s.heap.update T (Obj.mapFields (·.setIfInBounds 3 ((some L).elim .none fun f => rawInt f)))).get? b = s.heap.get? b :=
   fun b hb => Heap.get?_update_other _ _ (Ne.symm hb)
 have noRecord : ∀ b o,s.heap.get? b = some o -> (∀ vs,o.data ≠ .fields vs) -> b ≠ T := fun b o hb hnf q => by
   replace hb := hT ▸ q ▸ hb;injection hb with hb;subst hb;exact hnf ts hdT
 skip
 refine wpAny_bind (wpAny_field he hd h1 ?_);refine aJ (if_pos (show (Value.ref T != Value.none) = true from by rfl)) (aJ hf ?_);refine wpAny_setField hT hdT hsz3 (hQ _ ⟨fun b o hbo => (other b fun q => by replace hbo := hnT ▸ q ▸ hbo;exact nS hbo).trans (hkb b o hbo),hen,
   hl.of_keeps fun b o hb hnf => ⟨o,(other b (noRecord b o hb hnf)).trans hb,rfl⟩,?_⟩ fun b o hb hnf => ⟨o.slots,(other b (noRecord b o hb hnf)).trans hb⟩)
 exact ⟨oe,vs,T,_,_,(other e (Ne.symm hTe)).trans he,hcls,hd,h1,hnT,hTe,get?_update_self _ hT (Obj.isFreed_of_fields (Obj.data_mapFields hdT _)),Obj.data_mapFields hdT _,by simp [hsz3]⟩
end
noncomputable abbrev vE (l : List Env) : List Addr := l.filterMap (·.frame)
theorem t8 {h B : Heap} : ∀ {l : List Env},(∀ env ∈ l,env.scope.kind ≠ .module /\ ∃ L o,env.frame = some L /\ B.get? L = none /\ h.get? L = some o /\ ∀ vs,o.data ≠ .fields vs) -> h.FunFrames B l := by
 intro l;induction l with
 | nil =>
   intro _;exact trivial
 | cons env r ih =>
   intro hl;exact ⟨(hl env mem_cons_self).1,(hl env mem_cons_self).2,ih fun e he => hl e (mem_cons_of_mem _ he)⟩
noncomputable def wE (outer : List Env) (N₀ : Nat) (h : Heap) : Prop := ∀ env ∈ outer,env.scope.kind ≠ .module /\ ∃ L o,env.frame = some L /\ @LT.lt Nat _ L N₀ /\ h.get? L = some o /\ ∀ vs,o.data ≠ .fields vs
theorem Cy {M : Model} {A : Around} {E : cB} {s : Shared} {B : Heap} {env : Env} {outer : List Env} {L e : Addr} {cls a0 : Value} {Q : Unit -> Shared -> Prop} (hf : env.frame = some L) (hh : Heap.HeldW B (env :: outer) e cls a0 L s.heap) (hQ : ∀ h',Heap.FlyingW B outer e cls a0 h' -> s.heap.UpToSlots h' -> Q () { s with heap := h' }) : wpAny M A (leaving env (.ref e)) Q E s := by
 skip
 refine wpAny_bind (wpAny_noteFrame_againW hf hh.2.2.2 ?_);refine wpAny_landsW hh fun h' hfl u => ?_;obtain ⟨k1,k2,⟨_,_,k3⟩,k4⟩ := hfl;exact hQ h' ⟨k1,k2,k3,k4⟩ u
inductive yK (N₀ : Nat) (C : Addr) (outer : List Env) (n : Nat) (s₀ : Shared) (r : Result) (aO : Shared) : Prop
 | mk (e : Addr) (B : Heap) (a0 : Value) (sr : Shared) (q : r = .error (.ref e)) (lw : Ll N₀ C s₀ sr) (k : ∀ b o,b ∉ C :: vE outer -> sr.heap.get? b = some o -> B.get? b = some o) (f : Heap.FlyingW B outer e (.type "ValueError") a0 aO.heap) (u : sr.heap.UpToSlots aO.heap) (g : aO.gens = sr.gens) (d : aO.drawn = sr.drawn) (z : aO.os = sr.os) : yK N₀ C outer n s₀ r aO
noncomputable def nF : Protocol := fun _ _ _ _ _ => False
section
variable {t1 t2 t3 elast eint eint2 egr e0 tt : Expr} {z1 z2 z3 y1 y2 p6 q1 q2 q3 q4 q5 plast plast0 pr pint : Pos}
variable {G : Gl} {env : Env} {N₀ : Nat} {I l : Addr} {ns : List Int} {A : Around} {n₀ : Nat} {outs : List Int} {body : List Stmt} {p : Pos} {np cpos rp : Pos} {xv : Str} {ea : Expr} {msg : Str}
theorem Cz {K : Flow -> Sem Fin} {m : Nat} {hh : Heap} {s₀ s : Shared} {ρ : bI} {k : Nat} {outer : List Env} {c : Code} (hfrC : c.isFrame = false) (hcells : env.cells = []) (hname : aP (G.on hh) env cA 0 (.Name xv np) (wK (.val (.type "ValueError")))) (hargs : d9 (G.on hh) env cA 0 [ea] (aH (wK (.str msg)) aL)) (hsa : starEach [ea] env = (false,eval ea env) :: starEach [] env) (ok : Ok (A.over c [Eo env body p]) 0) (hkind : env.scope.kind = .function) (hframe : env.frame = some env.locals) (hout : A.frames = some outer) (x : iP G env N₀ I l ns hh s₀ ρ s) (hk : s.heap.IsListIter I l k) (ho : wE outer N₀ s₀.heap) : Seg (model G.prog G.w) A (yK N₀ env.locals outer) nF m s₀ c ((exec (.Raise (some (.Call (.Name xv np) [ea] [] cpos)) none rp) env).wrap K (n8 env) id id) [Eo env body p] s := by
 refine seg_wrap (wpAny_Raise_call PySem.F.excCall_ValueError PySem.F.excRaise_ValueError ok.1 (by refine aJ hsa ?_;rfl) (nB ok x hcells hname ⟨rfl,rfl⟩ hk fun v' aO r oY fV => ?_))
 skip
 refine ⟨r,?_⟩;have key := hargs _ ok (fun x s' => Seg (model G.prog G.w) A (yK N₀ env.locals outer) nF m s₀ c (n8 env x) [Eo env body p] s') aO [] [] ρ (fun vs H => vs = [.str msg] /\ H = []) cpos oY.st ⟨rfl,rfl⟩;refine nQ ?_;intro bU;rw [hsa] at key ⊢;refine Calls.evalArgs_plain (wpAny_mono key (fun vs s₂ q => ?_) kE);refine bP fun no => ?_;obtain ⟨xs,H',α',⟨rfl,rfl⟩,rv,bQ,bF⟩ := q;have cN := oY.st.step bF bQ;obtain rfl := nA cN;obtain ⟨vC,_⟩ := oY.step cN bF (.inl rfl) hcells;refine no ?_;have hlen : vs.length <= sizeLine := by
   have := rv.length;simp only [length_cons,length_nil] at this;refine cE this ?_;decide
 refine ⟨rfl,hlen,fun h' e hm => ?_⟩;refine bP fun no => ?_;obtain ⟨t,he,htn,htup⟩ := hm.there;refine no ?_;generalize hB : hideAll s₂.heap (env.locals :: vE outer) = B;have outs : wE outer N₀ s₂.heap := fun e' he' => by
   refine bP fun no => ?_;obtain ⟨h1,L,o,h2,h3,h4,h5⟩ := ho e' he';refine no ?_;exact ⟨h1,L,o,h2,h3,vC.st.inv.base L o (x.hlow L o (.inl h3) h4),h5⟩
 have hBn : ∀ b,s₂.heap.get? b = none -> B.get? b = none := fun b hb => by
   cases q : B.get? b with
   | none => rfl
   | some o => replace q := hB.symm ▸ q;replace hb := (of_hideAll _ q) ▸ hb;exact sN hb
 have hBf : ∀ L ∈ env.locals :: vE outer,B.get? L = none := fun L hL => by refine cE hB ?_;exact hideAll_none _ hL
 refine bP fun no => ?_;obtain ⟨mC,oC,esC,epC,hoC,hdC,_⟩ := vC.st.ns;refine no ?_;have ff : h'.FunFrames B (env :: outer) := t8 fun e' he' => by
   rcases mem_cons.mp he' with q | he'
   · refine aJ q ?_;exact ⟨by refine aJ hkind ?_;decide,env.locals,oC,hframe,hBf _ mem_cons_self,hm.keeps _ _ hoC,fun vs q => by replace q := hdC ▸ q;cases q⟩
   · obtain ⟨h1,L,o,h2,h3,h4,h5⟩ := outs e' he';exact ⟨h1,L,o,h2,hBf L (mem_cons_of_mem _ (mem_filterMap.mpr ⟨e',he',h2⟩)),hm.keeps _ _ h4,h5⟩
 have hfr1 : (A.over c [Eo env body p]).frames = some (env :: outer) := by
   show pushEnvs c.envs (pushEnvs (envsOf [(.func body env,p)]) A.frames) = _;refine aJ hout ?_;have : c.envs = [] := by unfold Code.envs;refine aJ hfrC ?_;rfl
   refine aJ this ?_;rfl
 have hfr0 : (A.over (.func body env) []).frames = some (env :: outer) := by
   show pushEnvs (Code.envs (.func body env)) (pushEnvs (envsOf []) A.frames) = _;refine aJ hout ?_;rfl
 skip
 refine seg_bind_wrap (Fm hfr1 ff hframe he (fun b o e' => hm.keeps b o (by replace e' := hB.symm ▸ e';exact of_hideAll _ e') : B.StaysIn h') (hBn e hm.new) rfl rfl rfl fun g7 Om Q0 => ?_);refine seg_wrap (wpAny_theTreesLotGoes ?_);refine seg_leaf (.error (.ref e)) ?_;show Seg (model G.prog G.w) A (yK N₀ env.locals outer) nF m s₀ (.func body env) (((do
     if (<- field (.ref e) 1) == Value.none then unsupported "frame.own-activation:exception-without-traceback"
     setFlight (.ref e) env.frame : Sem Unit) >>= fun _ => (Sem.raise (.ref e) : Sem Flow)).wrap (Ra env) (Qa env) id id) [] _
 refine seg_bind_wrap (wD hframe Om fun sG Od Qz => ?_);show Seg (model G.prog G.w) A (yK N₀ env.locals outer) nF m s₀ (.func body env) ((leaving env (.ref e)).wrap (fun _ => .raise (.ref e)) .raise id id) [] _;refine seg_wrap (Cy hframe Od fun vA hfl Qr => ?_);refine seg_end (.error (.ref e)) ⟨e,B,_,s₂,rfl,vC.low,fun b o hb e' => by refine cE hB ?_;exact jV e' hb,hfl,(((Heap.UpToSlots.of_keeps hm.keeps).trans Q0).trans Qz).trans Qr,rfl,rfl,rfl⟩
end
section
variable {t1 t2 t3 elast eint eint2 egr e0 tt : Expr} {z1 z2 z3 y1 y2 p6 q1 q2 q3 q4 q5 plast plast0 pr pint : Pos}
variable {G : Gl} {env : Env} {N₀ : Nat} {I l : Addr} {ns : List Int} {A : Around} {body : List Stmt} {p : Pos} {np cpos rp : Pos} {xv : Str} {ea : Expr} {msg : Str}
noncomputable abbrev lE (xv : Str) (np cpos rp : Pos) (ea : Expr) : List Stmt := [.Raise (some (.Call (.Name xv np) [ea] [] cpos)) none rp]
theorem C0 {m : Nat} {hh : Heap} {s₀ s : Shared} {ρ : bI} {outer : List Env} (P : gM G env t1 t2 t3 elast eint eint2 egr e0 z3 p6 plast plast0) (hname : ∀ hh,(∀ b o,G.h₀.get? b = some o -> hh.get? b = some o) -> aP (G.on hh) env cA 0 (.Name xv np) (wK (.val (.type "ValueError")))) (hargs : ∀ hh,(∀ b o,G.h₀.get? b = some o -> hh.get? b = some o) -> d9 (G.on hh) env cA 0 [ea] (aH (wK (.str msg)) aL)) (hsa : starEach [ea] env = (false,eval ea env) :: starEach [] env) (ok1 : Ok (A.over (.forLoop (.Name "interval" pint) (.ref I) (dK t1 t2 t3 elast eint eint2 tt (lE xv np cpos rp ea) z1 z2 z3 y1 y2 q1 q2 q3 q4 plast pr) [] env) [Eo env body p]) 0) (hframe : env.frame = some env.locals) (hout : A.frames = some outer) (ho : wE outer N₀ s₀.heap) (x : iP G env N₀ I l ns hh s₀ ρ s) (hk : s.heap.IsListIter I l 0) (hv : ρ 2 = some .none) (hz : ns[0]? = some 0) : Seg (model G.prog G.w) A (yK N₀ env.locals outer) nF m s₀ (.forLoop (.Name "interval" pint) (.ref I) (dK t1 t2 t3 elast eint eint2 tt (lE xv np cpos rp ea) z1 z2 z3 y1 y2 q1 q2 q3 q4 plast pr) [] env) ((model G.prog G.w).den (.forLoop (.Name "interval" pint) (.ref I) (dK t1 t2 t3 elast eint eint2 tt (lE xv np cpos rp ea) z1 z2 z3 y1 y2 q1 q2 q3 q4 plast pr) [] env)) [Eo env body p] s := by
 refine nV (dK t1 t2 t3 elast eint eint2 tt (lE xv np cpos rp ea) z1 z2 z3 y1 y2 q1 q2 q3 q4 plast pr) ?_;intro xG;have hlI : l ≠ I := fun e => x.hN.2.1 (e ▸ x.hN.2.2.2);refine bP fun no => ?_;obtain ⟨vs,nn,hl,hsz,hvs⟩ := x.list;refine no ?_;refine n9 ?_;refine nQ ?_;intro bU;refine bP fun no => ?_;obtain ⟨t,hvk⟩ := hvs 0 0 hz;refine no ?_;refine wpAny_pyNext_list_item hk (⟨_,x.st.inv.base l _ hl,rfl,_,rfl⟩ : s.heap.IsList l vs) (x := .int 0 t) hvk fun h' hk' hs' => ?_;have own : ∀ x ∈ [I],∀ o,s.heap.get? x = some o -> kG o := fun z hz' o' e => by
   obtain ⟨o,ho',hoc,hod⟩ := hk;rw [mem_singleton.mp hz',ho'] at e;(injection e with e;subst e);exact fO hoc hod (by decide) (by decide) (by intro n t q;cases q)
 have hkp : ∀ b o,b ∉ [I] -> s.heap.get? b = some o -> h'.get? b = some o := fun b o hb e => Heap.SameBut.keep' hs' hb e;have ap : Ap (G.on hh) [I] [] := fun z hz' => by rw [mem_singleton.mp hz'];exact ⟨by simp,by simp,x.hI⟩
 have aZ : cL (G.on hh) [] [] { s with heap := h' } := x.st.inv.but (s' := { s with heap := h' }) ap own hkp x.st.inv.bare;have cK : St (G.on hh) env cA ρ [] [] { s with heap := h' } := mU x.st aZ (X := [I]) ⟨hkp,rfl,rfl,rfl⟩ own fun z hz' q => by
   rw [mem_singleton.mp hz'] at q;unfold bV at q;rw [P.cells] at q;simp only [map_nil,mem_singleton] at q;exact x.hN.2.2.1 q
 refine wpAny_of_eq (rfl : letOwnedTupleGo (.Name "interval" pint) (.ref I) (.int 0 t) = pure ()) ?_;refine wpAny_assign_Name (dC (G := G.on hh) (names := cA) (i := 1) P.kind (by decide) rfl P.sint cK (VR.int (i := 0) (t := t)) fun s₂ cN bF => ?_);obtain ⟨vC,Ar⟩ := (⟨x.base,cK,⟨fun b o hb e => aZ.base b o (x.hlow b o hb e),x.low.drawn,x.low.os,x.low.gens,x.low.bare,cK.ns⟩,x.hlow,x.hI,x.list,x.hN⟩ : iP G env N₀ I l ns hh s₀ ρ { s with heap := h' }).step cN bF (.inr rfl) P.cells;have rH : upd ρ 1 (.int 0) 1 = some (.int 0) := by rfl
 refine seg_execs_cons ?_;refine m9 (fF ok1 (c := false) vC P.cells (P.t1 hh x.base) ⟨_,rH,_,rfl,rfl,rfl⟩ (Ar 1 hk') fun s₃ J2 Ho => ?_);simp only [Bool.false_eq_true,if_false];refine seg_execs_nil ?_;refine seg_execs_cons ?_;refine m9 (fF ok1 (c := true) J2 P.cells (P.t2 hh x.base) ⟨_,rH,_,rfl,rfl,rfl⟩ Ho fun bY J3 oH => ?_);simp only [if_true];refine seg_execs_cons ?_;refine m9 (fF ok1 (c := true) J3 P.cells (P.t3 hh x.base) ⟨_,(by assumption : upd ρ 1 (.int 0) 2 = some .none),_,rfl,rfl,rfl⟩ oH fun fT Em xJ => ?_);simp only [if_true];refine seg_execs_cons ?_;exact Cz rfl P.cells (hname hh x.base) (hargs hh x.base) hsa ok1 P.kind hframe hout Em xJ ho
structure R7 (G : Gl) (A : Around) (N₀ : Nat) (C l : Addr) (ns : List Int) (ga : Addr) (g : Nat) (s : Shared) : Prop where
 gen : Iw s.heap ga g
 cns : ∃ m,s.heap.Ns C m
 go : ∃ gs,s.gens[g]? = some gs /\ ∀ outer s'',A.frames = some outer -> wE outer N₀ s''.heap -> qD G N₀ l ns s s'' -> gs.Goes (model G.prog G.w) A.in1 (yK N₀ C outer) nF 1 (.send .none) s''
end
section
variable {G : Gl} {env : Env} {names : List Str} {n : Nat} {α : List Addr} {H : List MO} {s s' s₀ aO : Shared} {N₀ : Nat} {C l ga : Addr} {ns : List Int} {n₀ g j : Nat} {outs : List Int} {A : Around}
open Classical in
theorem Nh (lw : Ll N₀ C s₀ aO) (hC : ∃ m,s₀.heap.Ns C m) : ∃ X : List Addr,(∀ b o,b ∉ X -> s₀.heap.get? b = some o -> aO.heap.get? b = some o) /\ ∀ x ∈ X,¬ @LT.lt Nat _ x N₀ /\ ∀ o,s₀.heap.get? x = some o -> kG o := by
 refine ⟨(List.range s₀.heap.objs.size).filter (fun b => decide (∃ o,s₀.heap.get? b = some o /\ aO.heap.get? b ≠ some o)),fun b o hb e => ?_,fun x hx => ?_⟩
 · refine Classical.byContradiction fun q => hb ?_;rw [mem_filter];exact ⟨mem_range.mpr (lt_size e),by simpa using ⟨o,e,q⟩⟩
 · rw [mem_filter] at hx;obtain ⟨_,hx⟩ := hx;obtain ⟨o,e,q⟩ : ∃ o,s₀.heap.get? x = some o /\ aO.heap.get? x ≠ some o := by simpa using hx
   refine ⟨fun h => q (lw.keep x o (.inl h) e),fun o' e' => ?_⟩;rw [e] at e';(injection e' with e';subst e');by_cases hc : x = C
   · subst hc;obtain ⟨m,o2,es,ep,ho2,hd,_⟩ := hC
     replace ho2 := e ▸ ho2;cases ho2
     refine ⟨fun im => ?_,fun vs hv => ?_⟩
     · rcases im with ⟨_,_,rfl⟩ | ⟨_,rfl⟩ <;> cases hd
     · rw [hd] at hv;cases hv
   · exact Classical.byContradiction fun ho => q (lw.keep x o (.inr ⟨hc,ho⟩) e)
structure Kg (G : Gl) (A : Around) (N₀ : Nat) (C l : Addr) (ns : List Int) (n₀ : Nat) (outs : List Int) (ga : Addr) (g j : Nat) (s : Shared) : Prop where
 gen : Iw s.heap ga g
 cns : ∃ m,s.heap.Ns C m
 go : ∃ gs,s.gens[g]? = some gs /\ ∀ s'',qD G N₀ l ns s s'' -> gs.Goes (model G.prog G.w) A.in1 (Ix N₀ C n₀ outs) (t7 G N₀ C l ns n₀ outs) (n₀ - j) (.send .none) s''
theorem Kg.keep (x : Kg G A N₀ C l ns n₀ outs ga g j s) (up : ∀ b o,¬ @LT.lt Nat _ b N₀ -> s.heap.get? b = some o -> s'.heap.get? b = some o) (hg : ∀ (i : Nat) g,s.gens[i]? = some g -> s'.gens[i]? = some g) (hgC : ¬ @LT.lt Nat _ C N₀ /\ ¬ @LT.lt Nat _ ga N₀) : Kg G A N₀ C l ns n₀ outs ga g j s' := by
 obtain ⟨⟨o,a,b,t,u,ho,r⟩,⟨m,o2,es,ep,ho2,r2⟩,gs,hgs,hgo⟩ := x;refine ⟨⟨o,a,b,t,u,up _ _ hgC.2 ho,r⟩,⟨m,o2,es,ep,up _ _ hgC.1 ho2,r2⟩,gs,hg _ _ hgs,fun s'' ag => hgo s'' ⟨fun b o hb e => ag.up b o hb (up b o hb e),ag.base,ag.list,ag.bare⟩⟩
structure yL (G : Gl) (env : Env) (α : List Addr) (N₀ : Nat) (C ga : Addr) : Prop where
 al : ∀ a ∈ α,@LT.lt Nat _ a N₀
 h0 : ∀ b o,G.h₀.get? b = some o -> @LT.lt Nat _ b N₀
 tb : ∀ a ∈ G.tb,@LT.lt Nat _ a N₀
 own : ∀ a ∈ bV env,@LT.lt Nat _ a N₀
 cg : ¬ @LT.lt Nat _ C N₀ /\ ¬ @LT.lt Nat _ ga N₀
theorem Fo (i : cL G α H s) {r : Nat} (hr : α[r]? = some l) (h : H[r]? = some (.list (ns.map MV.int))) : Me s.heap l ns := by
 obtain ⟨vs,m,g1,r1⟩ := i.lst hr h;refine ⟨vs,m,g1,by simpa using r1.length.symm,fun k x hk => ?_⟩;obtain ⟨v,hv,rv⟩ := r1.get (i := k) (x := MV.int x) (by refine aJ getElem?_map (aJ hk ?_);rfl);obtain ⟨t⟩ := rv.int_inv;exact ⟨t,by simpa using hv⟩
theorem l7 {gens : Array GenState} {g : Nat} {x : GenState} {s : Shared} (h : AllBare s.gens) (hx : x.bare = true) : AllBare (s.setGen g x).gens := fun y hy => by
 unfold Shared.setGen at hy;rcases Array.mem_or_eq_of_mem_setIfInBounds hy with h1 | h1
 · exact h y h1
 · refine aJ h1 ?_;exact hx
theorem C1 (O : sK G) (ok : Ok A 0) {E : cB} {ρ : bI} {Q : Option Value -> Shared -> Prop} {r : Nat} (B : yL G env α N₀ C ga) (st : St G env names ρ α H s) (x : Kg G A N₀ C l ns n₀ outs ga g j s) (hr : α[r]? = some l) (hH : H[r]? = some (.list (ns.map MV.int))) (hj : j < n₀) (hjo : j <= outs.length) (hq : ∀ v s',(∃ y t,outs[j]? = some y /\ v = .int y t) -> St G env names ρ α H s' -> (j + 1 < n₀ -> Kg G A N₀ C l ns n₀ outs ga g (j + 1) s') -> (∀ b o,@LT.lt Nat _ b N₀ -> s.heap.get? b = some o -> s'.heap.get? b = some o) -> tI s.heap s'.heap -> s'.drawn = s.drawn -> s'.os = s.os -> (∀ (i : Nat) x,i ≠ g -> s.gens[i]? = some x -> s'.gens[i]? = some x) -> Q (some v) s') (hn : outs.length = j -> ∀ s',St G env names ρ α H s' -> (∀ b o,@LT.lt Nat _ b N₀ -> s.heap.get? b = some o -> s'.heap.get? b = some o) -> tI s.heap s'.heap -> s'.drawn = s.drawn -> s'.os = s.os -> (∀ (i : Nat) x,i ≠ g -> s.gens[i]? = some x -> s'.gens[i]? = some x) -> Q none s') : wpAny (model G.prog G.w) A (pyNext (.ref ga)) Q E s := by
 refine bP fun no => ?_;obtain ⟨gs,hgs,hgo⟩ := x.go;refine no ?_;have ag0 : qD G N₀ l ns s (s.setGen g .running) := ⟨fun b o _ e => e,fun b o e => st.inv.base b o e,Fo (s := s) st.inv hr hH,l7 (gens := s.gens) st.inv.bare rfl⟩;have after : ∀ (aO : Shared) (h' : Heap) (gs' : GenState),gs'.bare = true -> Ll N₀ C (s.setGen g .running) aO -> (∀ b o,aO.heap.get? b = some o -> h'.get? b = some o) ->
     St G env names ρ α H { aO.setGen g gs' with heap := h' } /\ (∀ b o,@LT.lt Nat _ b N₀ -> s.heap.get? b = some o -> h'.get? b = some o) /\ tI s.heap h' /\ aO.drawn = s.drawn /\ aO.os = s.os /\ (∀ (i : Nat) x,i ≠ g -> s.gens[i]? = some x -> (aO.setGen g gs').gens[i]? = some x) := by
   intro aO h' gs' hb lw hk';refine bP fun no => ?_;obtain ⟨X,hX1,hX2⟩ := Nh lw x.cns;refine no ?_;have hk : ∀ b o,b ∉ X -> s.heap.get? b = some o -> h'.get? b = some o := fun b o hb e => hk' b o (hX1 b o hb e);have own : ∀ x ∈ X,∀ o,s.heap.get? x = some o -> kG o := fun x hx => (hX2 x hx).2;have ap : Ap G X α := fun y hy => ⟨fun q => (hX2 y hy).1 (B.al y q),fun q => (hX2 y hy).1 (B.tb y q),by
     cases e : G.h₀.get? y with
     | none => rfl
     | some o => exact absurd (B.h0 y o e) (hX2 y hy).1⟩
   have i' : cL G α H { aO.setGen g gs' with heap := h' } := st.inv.but ap own hk (l7 (gens := aO.gens) lw.bare hb);have imm : tI s.heap h' := lU (s' := { aO.setGen g gs' with heap := h' }) own hk;refine ⟨j3 st i' ⟨[],by simp,by exact fun _ h => absurd h not_mem_nil⟩ imm fun b hb o e => hk b o (fun q => (hX2 b q).1 (B.own b hb)) e,fun b o hb e => hk b o (fun q => (hX2 b q).1 hb) e,imm,lw.drawn,lw.os,fun i y hi e => ?_⟩;have e1 : (s.setGen g .running).gens[i]? = some y := by
     skip
     refine aJ (getElem?_setIfInBounds_ne (Ne.symm hi)) ?_;exact e
   have e2 := lw.gens i y e1
   skip
   refine aJ (getElem?_setIfInBounds_ne (Ne.symm hi)) ?_;exact e2
 obtain ⟨m,hm⟩ : ∃ m,n₀ - j = m + 1 := ⟨n₀ - j - 1,P7 hj⟩;refine bP fun no => ?_;obtain ⟨o,a,b,t0,u0,ho,hc,hd,hs⟩ := x.gen;refine no ?_;have hgo0 := hgo _ ag0;refine wC (n := n₀ - j) ok.1 (O.lim.keeps st.inv.base) (by have := ok.2.1;assumption) ⟨o,_,_,ho,hc,hd,hs⟩ hgs hgo0 (fun v aO gs' hb hv => ?_) (fun y aO hy => .inl ?_)
 · obtain ⟨⟨hlt,y,t,hy,rfl⟩,lw,hkap⟩ := hv;obtain ⟨st',low',imm',d',o',g'⟩ := after aO aO.heap gs' hb lw fun _ _ e => e;have e1 : n₀ - 1 - (n₀ - j - 1) = j := P6 (P7 hj)
   replace hy := e1 ▸ hy
   refine hq _ (aO.setGen g gs') ⟨y,t,hy,rfl⟩ st' (fun hj1 => ?_) low' imm' d' o' g';refine bP fun no => ?_;obtain ⟨mC,oC,es,ep,hoC,rC⟩ := x.cns;refine no ?_;have hgac : ga ≠ C := fun e => by
     replace ho := hoC ▸ e ▸ ho;(injection ho with ho;subst ho)
     replace hd := rC.1 ▸ hd;cases hd
   have hgaO : ¬ kG o := fun q => q.2 _ hd a t0 rfl;refine ⟨⟨o,a,b,t0,u0,lw.keep ga o (.inr ⟨hgac,hgaO⟩) ho,hc,hd,hs⟩,lw.cns,gs',?_,fun s'' ag => ?_⟩
   · exact setGen_self (gs := .running) (lw.gens g _ (setGen_self hgs))
   · have h0 : 0 < n₀ - j - 1 := (Nat.sub_pos_of_lt hj1 : 0 < n₀ - (j + 1));have := hkap h0 s'' ⟨ag.up,ag.base,ag.list,ag.bare⟩
     replace this := hm ▸ this
     dsimp only at this;have e3 : n₀ - (j + 1) = m := P8 hm;refine aJ e3 ?_;exact this
 · obtain ⟨rfl,hlen,lw⟩ := hy;refine ⟨rfl,fun h' hk' => ?_⟩;refine bP fun no => ?_;obtain ⟨st',low',imm',d',o',g'⟩ := after aO h' .finished rfl lw hk';refine no ?_;exact hn (by lia) { aO.setGen g .finished with heap := h' } st' low' imm' d' o' g'
end
section
variable {G : Gl} {env : Env} {names : List Str} {n : Nat} {α : List Addr} {H : List MO} {s s' s₀ aO : Shared} {N₀ : Nat} {C l ga : Addr} {ns : List Int} {n₀ g j : Nat} {outs : List Int} {A : Around}
noncomputable def Ni (i : Nat) (b : WS) (chk : List MO -> Prop) (full : Prop) (len : Nat) (P : d5) : List Int -> bI -> List MO -> Prop
 | [],ρ,H => ¬ full /\ chk H /\ P .next ρ H
 | x :: xs,ρ,H => chk H /\ b (upd ρ i (.int x)) H fun fl ρ'' H'' => H''.length = len /\ match fl with
     | .next => Ni i b chk full len P xs ρ'' H''
     | .cont => Ni i b chk full len P xs ρ'' H''
     | .brk => P .next ρ'' H''
     | .ret v => P (.ret v) ρ'' H''
inductive Kh (i : Nat) (b : WS) (ρ : bI) (P : d5) (v : MV) (H' : List MO) : Prop
 | mk (r : Nat) (ns : List Int) (c : Nat) (e : v = .ref r) (h : H'[r]? = some (.list (ns.map MV.int))) (z : ns[0]? ≠ some 0) (l : 0 < c) (p : Ni i b (fun H => H[r]? = some (.list (ns.map MV.int))) ((gY ns none c).length = c) H'.length P (gY ns none c) ρ H') : Kh i b ρ P v H'
noncomputable def wF (i : Nat) (wr : WE) (b : WS) : WS := fun ρ H P => wr ρ H (Kh i b ρ P)
inductive Lm (G : Gl) (env : Env) (A : Around) (α : List Addr) (s : Shared) (P : cM) (x : Value) (aO : Shared) : Prop
 | mk (r : Nat) (ns : List Int) (l : Addr) (H₁ : List MO) (aQ : List Addr) (N₀ : Nat) (C ga : Addr) (g : Nat) (p : P (.ref r) H₁) (e : x = .ref ga) (h : H₁[r]? = some (.list (ns.map MV.int))) (a : aQ[r]? = some l) (i : cL G aQ H₁ aO) (t : a5 G [] α s aQ aO)
   (b : yL G env aQ N₀ C ga) (lo : ∀ b o,s.heap.get? b = some o -> @LT.lt Nat _ b N₀) (z : s.gens.size <= g) (hh : (∀ n₀ outs,0 < n₀ -> outs = gY ns none n₀ -> ns[0]? ≠ some 0 -> Kg G A N₀ C l ns n₀ outs ga g 0 aO) /\ (ns[0]? = some 0 -> R7 G A N₀ C l ns ga g aO)) : Lm G env A α s P x aO
noncomputable def t9 (G : Gl) (env : Env) (names : List Str) (n : Nat) (e : Expr) (w : WE) : Prop :=
 ∀ (A : Around),Ok A n -> ∀ (E : cB) (s : Shared) (α : List Addr) (H : List MO) (ρ : bI) (P : cM),St G env names ρ α H s -> w ρ H P ->
   (∀ v H',P v H' -> ∃ (r : Nat) (ns : List Int),v = .ref r /\ H'[r]? = some (.list (ns.map MV.int))) ->
   wpAny (model G.prog G.w) A (eval e env) (Lm G env A α s P) E s
theorem wG : ∀ {c : Nat} {ns : List Int} {last : Option Int},(gY ns last c).length <= c := by
 intro c;induction c with
 | zero =>
   intro ns last;simp [gY]
 | succ c ih =>
   intro cs0;cases cs0 with
   | nil =>
     intro last;exact zero_le _
   | cons x xs =>
     intro last;rw [show gY (x :: xs) last (c + 1) = if x = 127 then [] else if x = 0 then (match last with | none => [] | some v => List.replicate (c + 1) v) else x :: gY xs (some x) c from rfl];split
     · exact zero_le _
     · split
       · cases last <;> simp
       · simpa using ih
theorem sR {X aQ : List Addr} {s'' : Shared} (T : a5 G X α s aQ s') (hb : ∀ b o,s.heap.get? b = some o -> @LT.lt Nat _ b N₀) (hg : s.gens.size <= g) (low : ∀ b o,@LT.lt Nat _ b N₀ -> s'.heap.get? b = some o -> s''.heap.get? b = some o) (imm : tI s'.heap s''.heap) (d : s''.drawn = s'.drawn) (o : s''.os = s'.os) (gs : ∀ (i : Nat) x,i ≠ g -> s'.gens[i]? = some x -> s''.gens[i]? = some x) : a5 G X α s aQ s'' :=
 ⟨T.ext,fun b ob e h1 h2 h3 => low b ob (hb b ob e) (T.keep b ob e h1 h2 h3),fun b ob e q => imm b ob (T.imm b ob e q) q,d.trans T.drawn,o.trans T.os,fun i x e => gs i x (by have := (Array.getElem?_eq_some_iff.mp e).1;lia) (T.gens i x e),fun b ob e => (by obtain ⟨o',e'⟩ := T.there b ob e;exact ⟨o',low b o' (hb b ob e) e'⟩)⟩
inductive Ki (G : Gl) (env : Env) (names : List Str) (N₀ : Nat) (C l : Addr) (ns : List Int) (c : Nat) (outs : List Int) (ga : Addr) (g : Nat) (A : Around) (aQ : List Addr) (L : Nat) (α : List Addr) (s : Shared) (W : List Int -> bI -> List MO -> Prop) (m : Nat) (s' : Shared) : Prop
 | mk (ρ' : bI) (H' : List MO) (j : Nat) (st : St G env names ρ' aQ H' s') (t : a5 G (bV env) α s aQ s') (T : j < c -> Kg G A N₀ C l ns c outs ga g j s') (hl : H'.length = L) (hj : j <= outs.length) (e : m = outs.length - j + 1) (w : W (outs.drop j) ρ' H') : Ki G env names N₀ C l ns c outs ga g A aQ L α s W m s'
theorem S.forTold (O : sK G) {x : Str} {px pos : Pos} {iter : Expr} {body : List Stmt} {i : Nat} {wr : WE} {b : WS} (hk : env.scope.kind = .function) (hnd : names.Nodup) (hx : names[i]? = some x) (hsx : gK env x) (hi : t9 G env names n iter wr) (hb : dY G env names n body b) (hs : ∀ x,foldedSetIterable iter env x = pure x) : bN G env names n (.For (.Name x px) iter body [] pos) (wF i wr b) := by
 intro A ok E s α H ρ P st hw;refine wpAny_For (wpAny_mono (hi A ok E s α H ρ _ st hw fun v H' ⟨r,ns,c,h1,h2,_,_,_⟩ => ⟨r,ns,h1,h2⟩) (fun x' aO q => ?_) kE) hs;refine nQ ?_;intro B3;obtain ⟨r,ns,l,H₁,aQ,N₀,C,ga,g,⟨r',ns',c,hrr,hns',hz,hc,hgo⟩,rfl,hH,hr,aZ,aU,B,hlow,hg,hT,_⟩ := q
 (injection hrr with hrr;subst hrr)
 have hnn : ns' = ns := by
   rw [hH] at hns';have := MO.list.inj (si hns');exact List.map_inj_right (fun a b h => MV.int.inj h) |>.mp this.symm
 refine bP fun no => ?_;subst hnn;refine no ?_;generalize hou : gY ns' none c = outs at hgo;have hol : outs.length <= c := by rw [<- hou];exact wG
 have T0 := hT c outs hc hou.symm hz;refine wpAny_pyIter_gen (by obtain ⟨o,a,b,t,u,ho,hc,hd,hs⟩ := T0.gen;exact ⟨o,_,_,ho,hc,hd,hs⟩) ?_;refine nC ?_;intro mO;refine codeAny_forLoop_any (Ki G env names N₀ C l ns' c outs ga g A aQ H₁.length α s (Ni i b (fun H => H[r]? = some (.list (ns'.map MV.int))) (outs.length = c) H₁.length P)) (fun m s₃ I' => ?_) (outs.length + 1) ⟨ρ,H₁,0,(st.step aU aZ),aU.nil,fun _ => T0,rfl,zero_le _,by rfl,by exact hgo⟩;refine nQ ?_;intro iC;obtain ⟨mN,eQ,j,cG,cV,Qu,Rw,hj,rfl,dL⟩ := I';have hchk : eQ[r]? = some (.list (ns'.map MV.int)) := by
   cases hd : outs.drop j with
   | nil => rw [hd] at dL;exact dL.2.1
   | cons y ys => rw [hd] at dL;exact dL.1
 have hjc : j < c := by
   rcases Nat.lt_or_ge j outs.length with h | h
   · solve_by_elim (maxDepth := 4) [le_trans,le_of_lt,lt_of_lt_of_le,lt_of_le_of_lt,le_add_right,lt_succ_self]
   · rw [drop_eq_nil_of_le h] at dL;have := dL.1
     lia
 refine C1 O ok.zero B cG (Qu hjc) hr hchk hjc hj (fun v bY hv jL Qm Ao Am Ma L1 L4 => ?_) (fun hoj bY jL Ao Am Ma L1 L4 => ?_)
 · obtain ⟨y,t,hy,rfl⟩ := hv;have hjl : j < outs.length := (List.getElem?_eq_some_iff.mp hy).1;have hdr : outs.drop j = y :: outs.drop (j + 1) := by
     rw [drop_eq_getElem_cons hjl];congr 1;rw [getElem?_eq_getElem hjl] at hy;exact si hy
   rw [hdr] at dL;obtain ⟨_,dL⟩ := dL;refine wpAny_of_eq (rfl : letOwnedTupleGo (.Name x px) (.ref ga) (.int y t) = pure ()) ?_;refine wpAny_assign_Name (dC hk hnd hx hsx jL (VR.int (i := y) (t := t)) fun fT oI nW => ?_);refine nQ ?_;intro bU;refine Hu (hb A ok _ fT aQ eQ _ _ oI dL) fun fl Bx Jt xF f fG q4 rf jM nU => ?_;refine bP fun no => ?_;obtain ⟨Kr,hP⟩ := q4;refine no ?_;have hα : xF = aQ := by
     obtain ⟨β,rfl,_⟩ := nU.ext;have h1 := jM.inv.len;have h2 := jL.inv.len;rw [length_append] at h1;have : β = [] := length_eq_zero_iff.mp (by lia);rw [this];exact append_nil _
   subst hα;have TT : a5 G (bV env) α s xF fG := ((sR cV hlow hg Ao Am Ma L1 L4).trans nW).trans nU;have up : ∀ b o,¬ @LT.lt Nat _ b N₀ -> bY.heap.get? b = some o -> fG.heap.get? b = some o := fun b o hb e =>
     nU.keep b o (nW.keep b o e (fun q => hb (B.al b q)) (fun q => hb (B.tb b q)) (fun q => hb (B.own b q))) (fun q => hb (B.al b q)) (fun q => hb (B.tb b q)) (fun q => hb (B.own b q))
   have Os : j + 1 < c -> Kg G A N₀ C l ns' c outs ga g (j + 1) fG := fun h => (Qm h).keep up (fun i x e => nU.gens i x (nW.gens i x e)) B.cg;cases fl with
   | next => cases (show f = .next from rf);exact ⟨outs.length - (j + 1) + 1,by lia,Bx,Jt,j + 1,jM,TT,Os,Kr,by assumption,rfl,hP⟩
   | cont => cases (show f = .cont from rf);exact ⟨outs.length - (j + 1) + 1,by lia,Bx,Jt,j + 1,jM,TT,Os,Kr,by assumption,rfl,hP⟩
   | brk => cases (show f = .brk from rf);exact ⟨.next,Bx,Jt,xF,hP,rfl,jM,TT⟩
   | ret v =>
     obtain ⟨v',rfl,rv⟩ := (show ∃ v',f = .ret v' /\ VR xF fG.heap v v' from rf);exact ⟨.ret v,Bx,Jt,xF,hP,⟨v',rfl,rv⟩,jM,TT⟩
 · rw [drop_eq_nil_of_le (le_of_eq ‹_›)] at dL;exact wpAny_execs_nil ⟨.next,mN,eQ,aQ,dL.2.2,rfl,jL,sR cV hlow hg Ao Am Ma L1 L4⟩
end
section
variable {t1 t2 t3 elast eint eint2 egr e0 tt : Expr} {z1 z2 z3 y1 y2 p6 q1 q2 q3 q4 q5 plast plast0 pr pint np' cpos rp : Pos} {xv : Str} {ea : Expr} {msg : Str}
variable {G : Gl} {env : Env} {names : List Str} {n : Nat} {A : Around}
theorem Ba {c : Code} (h : Ok A 4) (h1 : c.weight <= 1) (h2 : c.cUnits <= 3) : Ok (A.in1.over c []) 0 := by
 refine ⟨h.1,?_,?_⟩
 · have := h.2.1;show A.depth + frameCount [] + c.weight + 0 < _;simp only [frameCount,map_nil,sum_nil];lia
 · have := h.2.2;show A.units + 1 + unitsOf [] + c.cUnits + 8 * 0 + 128 < _;refine aJ unitsOf_nil ?_;lia
theorem Bb {c nY : Code} {k : Result -> Sem Fin} {p : Pos} (h : Ok A 4) (h1 : c.weight = 0) (h2 : c.cUnits = 0) (h3 : nY.weight <= 1) (h4 : nY.cUnits <= 3) : Ok (A.in1.over c [.ret k none false [] nY p []]) 0 := by
 refine ⟨h.1,?_,?_⟩
 · have := h.2.1;show A.depth + frameCount [(nY,p)] + c.weight + 0 < _;refine aJ (frameCount_cons ..) ?_;simp only [frameCount,map_nil,sum_nil];lia
 · have := h.2.2;show A.units + 1 + unitsOf [(nY,p)] + c.cUnits + 8 * 0 + 128 < _;refine aJ (unitsOf_cons ..) (aJ (unitsOf_nil ..) ?_);lia
theorem Fp {c nY : Code} {F : Frame} {k : Result -> Sem Fin} {p : Pos} (h : Ok A 4) (h1 : c.weight = 0) (h2 : c.cUnits = 0) (h3 : nY.weight <= 1) (h4 : nY.cUnits <= 3) (hm : F.marks = fun x => x) (hw : F.where_.1.weight = 0) (hu : F.where_.1.cUnits = 0) : Ok (A.in1.over c [F,.ret k none false [] nY p []]) 0 := by
 refine ⟨?_,?_,?_⟩
 · show (marksOver [F,.ret k none false [] nY p []] (A.handled,A.handled)).1 = none;unfold marksOver;refine aJ List.foldr_cons (aJ hm ?_);exact h.1
 · have := h.2.1;show A.depth + frameCount [F.where_,(nY,p)] + c.weight + 0 < _;rw [(rfl : F.where_ = (F.where_.1,F.where_.2)),frameCount_cons,frameCount_cons];simp only [frameCount,map_nil,sum_nil];lia
 · have := h.2.2;show A.units + 1 + unitsOf [F.where_,(nY,p)] + c.cUnits + 8 * 0 + 128 < _;rw [(rfl : F.where_ = (F.where_.1,F.where_.2)),unitsOf_cons,unitsOf_cons,unitsOf_nil];lia
structure R8 (G : Gl) (a : Addr) (fd : FuncData) (body : List Stmt) : Prop where
 obj : ∃ o,G.h₀.get? a = some o /\ o.data = .func fd
 code : G.h₀.CodeRec fd.code fd.qualname
 body : fd.body = .stmts body
 clo : fd.closure = []
 bind : ∀ v : Value,bindArgs fd ⟨[v],[]⟩ = pure [(("grouping" : Str),v)]
 gr : fd.scope.names.lookup ("grouping" : Str) = some NameKind.local
 co : fd.scope.isCoroutine = false
 gen : fd.scope.isGenerator = true
 kind : fd.scope.kind = .function
theorem GC.call (O : sK G) {a : Addr} {fd : FuncData} {x : Str} {np pos : Pos} {e : Expr} {w : WE} (hn : aP G env names n (.Name x np) (wK (.val (.ref a)))) (hcal : bC G (.ref a)) (F : R8 G a fd (eE t1 t2 t3 elast eint eint2 egr e0 tt (lE xv np' cpos rp ea) z1 z2 z3 y1 y2 p6 q1 q2 q3 q4 q5 plast plast0 pr pint)) (P : ∀ L,gM G (callEnvC fd L a) t1 t2 t3 elast eint eint2 egr e0 z3 p6 plast plast0) (htt : ∀ L hh,(∀ b o,G.h₀.get? b = some o -> hh.get? b = some o) -> cO (G.on hh) (callEnvC fd L a) cA 0 tt (cD (wK (.bool true)))) (hfold : ∀ L x,foldedSetIterable egr (callEnvC fd L a) x = pure x) (hname : ∀ L hh,(∀ b o,G.h₀.get? b = some o -> hh.get? b = some o) -> aP (G.on hh) (callEnvC fd L a) cA 0 (.Name xv np') (wK (.val (.type "ValueError")))) (hargs : ∀ L hh,(∀ b o,G.h₀.get? b = some o -> hh.get? b = some o) -> d9 (G.on hh) (callEnvC fd L a) cA 0 [ea] (aH (wK (.str msg)) aL)) (hsa : ∀ L,starEach [ea] (callEnvC fd L a) = (false,eval ea (callEnvC fd L a)) :: starEach [] (callEnvC fd L a)) (he : aP G env names n e w) (hn4 : 4 <= n) (hs : starEach [e] env = (false,eval e env) :: starEach [] env) (hp : (backTo pos (starEach [] env)).any (·.1) = false)
   (ht : eval (.Call (.Name x np) [e] [] pos) env = (do callWith pos (<- eval (.Name x np) env) [] (backTo pos (starEach [e] env)) (backToKw pos (keywordEach [] env)))) :
   t9 G env names n (.Call (.Name x np) [e] [] pos) w := by
 intro A ok E s α H ρ P' st hw hP';refine Call_ (fM (hn A ok E s α H ρ (fun v H' => v = .val (.ref a) /\ H' = H) st ⟨rfl,rfl⟩) fun v H₁ aQ f' aO q3 bO aZ aU => ?_) ht;refine bP fun no => ?_;obtain ⟨rfl,rfl⟩ := q3;refine no ?_
 skip;subst bO
 refine fD (P := fun xs H' => match xs with | [v] => P' v H' | _ => False) hcal (L.cons he L.nil hs : d9 G env names n [e] (aH w aL)) ok (st.step aU aZ) hw hs hp fun xs vs s₂ bH bL hP dW bQ bF => ?_;match xs,hP with
 | [v],hP =>
 refine bP fun no => ?_;obtain ⟨r,ns,rfl,hH⟩ := hP' v bH hP;refine no ?_;refine nQ ?_;intro bU
 skip
 obtain ⟨v',rest,rfl,rv,rr⟩ := dW
 skip;subst rr
 obtain ⟨l,hr,rfl⟩ := (show ∃ l,bL[r]? = some l /\ v' = .ref l from rv);obtain ⟨o,ho,hd⟩ := F.obj;generalize hN : s₂.heap.objs.size = N₀;have hlt : ∀ b o,s₂.heap.get? b = some o -> @LT.lt Nat _ b N₀ := fun b o e => by refine cE hN ?_;exact lt_size e
 skip
 refine wpAny_call (codeAny_call_generator (by have := ok.2.1;exact lt_of_le_of_lt (le_add_right _ _) ‹_›) (bQ.base _ _ ho) hd F.co F.gen F.body (F.code.keeps bQ.base) ?_);refine aJ (F.bind ..) (aJ (F.clo ..) ?_);refine wpAny_pure (wpAny_newFunctionEnv_cells F.kind (fun y hy => ?_) fun env' he' s₃ x => ?_)
 · refine aJ (mem_singleton.mp hy) ?_;exact .inl F.gr
 · have he : env' = callEnvC fd s₂.heap.objs.size a := he';clear he';refine bP fun no => ?_;obtain ⟨h',tk,rfl,hk⟩ := x.done;refine no ?_;have hC : env'.locals = N₀ := by refine aJ he ?_;exact hN
   refine ⟨O.lim.keeps fun b o e => hk b o (bQ.base b o e),?_⟩
   suffices key : ∀ bY : Shared,bY.heap = h'.push { cls := .type "generator",data := .fields #[.int s₂.gens.size 0,.str fd.name tk,.str fd.qualname (tk + 1)] } ->
       bY.gens = s₂.gens.push (.fresh (.func (eE t1 t2 t3 elast eint eint2 egr e0 tt (lE xv np' cpos rp ea) z1 z2 z3 y1 y2 p6 q1 q2 q3 q4 q5 plast plast0 pr pint) env')) -> bY.drawn = s₂.drawn -> bY.os = s₂.os ->
       Lm G env A α s P' (.ref h'.objs.size) bY from key _ rfl rfl rfl rfl
   intro bY hh4 hg4 hd4 ho4;have up : ∀ b o,s₂.heap.get? b = some o -> bY.heap.get? b = some o := fun b o e => by refine aJ hh4 ?_;exact (fun b o e => get?_push_of_some _ (hk b o e) : ∀ b o,s₂.heap.get? b = some o -> (h'.push { cls := .type "generator",data := .fields #[.int s₂.gens.size 0,.str fd.name tk,.str fd.qualname (tk + 1)] }).get? b = some o) b o e
   have hg4k : ∀ (i : Nat) y,s₂.gens[i]? = some y -> bY.gens[i]? = some y := fun i y e => by
     have hi : i < s₂.gens.size := (Array.getElem?_eq_some_iff.mp e).1;refine aJ hg4 (aJ getElem?_push (aJ (if_neg (ne_of_lt ‹_›)) ?_));exact e
   have bare4 : AllBare bY.gens := by refine aJ hg4 ?_;exact bQ.bare.push rfl
   have hgaN : ¬ @LT.lt Nat _ h'.objs.size N₀ := fun q => by
     obtain ⟨o0,es,ep,h0,_⟩ := x.toInCall.ns;have h1 : @LT.lt Nat _ env'.locals h'.objs.size := lt_size h0;have h2 : @Eq Nat env'.locals N₀ := hC;have h3 : @LT.lt Nat _ h'.objs.size N₀ := q
     lia
   have B : yL G env bL N₀ env'.locals h'.objs.size := ⟨fun b hb => by obtain ⟨o,e⟩ := bQ.has hb;exact hlt b o e,fun b o e => hlt b o (bQ.base b o e),fun b hb => by
       obtain ⟨p,hp',rfl⟩ := mem_map.mp hb;obtain ⟨ps,e,_⟩ := bQ.tabs p hp';exact hlt _ _ e,fun b hb => by obtain ⟨o,e⟩ := i6 ((st.step aU aZ).step bF bQ) hb;exact hlt b o e,fun q => by replace q := hC ▸ q;exact lt_irrefl _ q,hgaN⟩
   have hP1 : gM G env' t1 t2 t3 elast eint eint2 egr e0 z3 p6 plast plast0 := by refine aJ he ?_;exact P _
   have htt1 : ∀ hh,(∀ b o,G.h₀.get? b = some o -> hh.get? b = some o) -> cO (G.on hh) env' cA 0 tt (cD (wK (.bool true))) := by refine aJ he ?_;exact htt _
   have hf1 : ∀ y,foldedSetIterable egr env' y = pure y := by refine aJ he ?_;exact hfold _
   have hgk : env'.kindOf "grouping" = some .local := by refine aJ he ?_;exact F.gr
   have hNs : h'.Ns env'.locals (fun y => if y = ("grouping" : Str) then some (.ref l) else none) := by
     have e1 : bindL env'.kindOf [(("grouping" : Str),.ref l)] (fun _ => none) = (fun y => if y = ("grouping" : Str) then some (.ref l) else none) := by
       funext y;unfold bindL;refine aJ (if_pos hgk) ?_;rfl
     refine cE e1 ?_;exact x.toInCall.ns
   refine ⟨r,ns,l,bH,bL,N₀,env'.locals,h'.objs.size,s₂.gens.size,hP,rfl,hH,hr,(bQ.but (X := []) (by intro y hy;simp at hy) (by intro y hy;simp at hy) (fun b o _ e => up b o e) bare4 : cL G bL bH bY),(aU.trans bF).trans (⟨⟨[],by simp,by exact fun _ h => absurd h not_mem_nil⟩,fun b o e _ _ _ => up b o e,fun b o e _ => up b o e,hd4,ho4,hg4k,fun b o e => ⟨o,up b o e⟩⟩ : a5 G [] bL s₂ bL bY),B,fun b o e => ?_,?_,?_⟩
   · obtain ⟨o',e'⟩ := (aU.trans bF).there b o e;exact hlt b o' e'
   · rcases Nat.lt_or_ge s₂.gens.size s.gens.size with h | h
     · have e1 : s.gens[s₂.gens.size]? = some s.gens[s₂.gens.size] := by simp [h]
       have := (Array.getElem?_eq_some_iff.mp ((aU.trans bF).gens _ _ e1)).1
       solve_by_elim (maxDepth := 3) [lt_irrefl,lt_of_lt_of_le]
     · exact h
   have bodyC : ∀ s'',qD G N₀ l ns bY s'' -> s''.heap.Ns env'.locals (fun y => if y = ("grouping" : Str) then some (.ref l) else none) := fun s'' ag => by
     obtain ⟨o,es,ep,ho',r'⟩ := hNs.push { cls := .type "generator",data := .fields #[.int s₂.gens.size 0,.str fd.name tk,.str fd.qualname (tk + 1)] };exact ⟨o,es,ep,ag.up _ o B.cg.1 (by refine aJ hh4 ?_;exact ho'),r'⟩
   have gen4 : Iw bY.heap h'.objs.size s₂.gens.size := ⟨_,_,_,_,_,by refine aJ hh4 ?_;exact get?_push_size _ rfl,rfl,rfl,rfl⟩;have hgs4 : bY.gens[s₂.gens.size]? = some (.fresh (.func (eE t1 t2 t3 elast eint eint2 egr e0 tt (lE xv np' cpos rp ea) z1 z2 z3 y1 y2 p6 q1 q2 q3 q4 q5 plast plast0 pr pint) env')) := by refine aJ hg4 ?_;simp
   have hlN : @LT.lt Nat _ l N₀ := B.al l (mem_of_getElem? hr);refine ⟨fun n₀ outs Ry houts hz => ?_,fun hz => ?_⟩
   · refine ⟨gen4,⟨_,by refine aJ hh4 ?_;exact hNs.push _⟩,_,hgs4,fun s'' ag => ⟨rfl,?_⟩⟩;exact yJ hP1 B.h0 htt1 hf1 (Ba (ok.le hn4) (le_refl _) (le_refl _)) (fun I p => Bb (ok.le hn4) rfl rfl (le_refl _) (le_refl _)) (fun I c Fr p hw hm => Fp (ok.le hn4) rfl rfl (le_refl _) (le_refl _) hm (by refine aJ hw ?_;rfl) (by refine aJ hw ?_;rfl)) ‹_› (le_refl _) ag.base ag.bare (bodyC s'' ag) B.cg.1 ag.list hlN hgk hz (by refine aJ houts ?_;simp)
   · refine ⟨gen4,⟨_,by refine aJ hh4 ?_;exact hNs.push _⟩,_,hgs4,fun outer s'' hout hoo ag => ⟨rfl,?_⟩⟩;refine wB hP1 B.h0 hf1 (Ba (ok.le hn4) (le_refl _) (le_refl _)) ag.base ag.bare (bodyC s'' ag) B.cg.1 ag.list hlN hgk fun I hh p s₃ ρ x gI h2 hv => ?_;have hnm : ∀ hh,(∀ b o,G.h₀.get? b = some o -> hh.get? b = some o) -> aP (G.on hh) env' cA 0 (.Name xv np') (wK (.val (.type "ValueError"))) := by refine aJ he ?_;exact hname _
     have har : ∀ hh,(∀ b o,G.h₀.get? b = some o -> hh.get? b = some o) -> d9 (G.on hh) env' cA 0 [ea] (aH (wK (.str msg)) aL) := by refine aJ he ?_;exact hargs _
     have hst : starEach [ea] env' = (false,eval ea env') :: starEach [] env' := by refine aJ he ?_;exact hsa _
     exact C0 hP1 hnm har hst (Bb (ok.le hn4) rfl rfl (le_refl _) (le_refl _)) (by refine aJ he ?_;rfl) hout hoo x gI h2 hz
end
noncomputable def cH (i : Nat) : Option DefRec := (recsOf Challenge.rw_in0270_01.row.prog)[i]?
noncomputable def jW : List Nat := [40,41,91,93,123,125,63,42,43,45,124,94,36,92,46,38,126,35,32,9,10,13,11,12]
noncomputable def Fq (c : Nat) : Str := if jW.contains c then ⟨#[92,c]⟩ else ⟨#[c]⟩
noncomputable def Nj : List (Nat × Nat × Str) := [(81,39,"_translate.<locals>.<lambda>"),(80,37,"_translate.<locals>.<genexpr>"),(298,45,"law.<locals>.<lambda>")]
noncomputable def jA (p : Pos) : Option Str := (Nj.find? fun r => (r.1 : Int) == p.line && (r.2.1 : Int) == p.col).map (·.2.2)
theorem C2 {p p' : Pos} (h1 : p.line = p'.line) (h2 : p.col = p'.col) : jA p' = jA p := by unfold jA;exact aJ h1 (aJ h2 rfl)
theorem rU {p : List Value -> Prop} (h : ∀ a,p [a]) (vs : List Value) (e : vs.length = 1) : p vs := by
 obtain ⟨a,rfl⟩ := List.length_eq_one_iff.mp e;exact h a
theorem qE {p : List Value -> Prop} (h : ∀ a b,p [a,b]) (vs : List Value) (e : vs.length = 2) : p vs := by
 cases vs with
 | nil => cases e
 | cons a r => exact rU (p := fun r => p (a :: r)) (h a) r (Nat.succ.inj e)
theorem Ft {p : List Value -> Prop} (h : ∀ a b c,p [a,b,c]) (vs : List Value) (e : vs.length = 3) : p vs := by
 cases vs with
 | nil => cases e
 | cons a r => exact qE (p := fun r => p (a :: r)) (h a) r (Nat.succ.inj e)
inductive Nk (G : Gl) (d : DefRec) : Prop
 | mk (a : Addr) (o : Obj) (pm code doc : Value) (h1 : G.mg d.name = some (.ref a)) (h2 : G.h₀.get? a = some o) (h3 : o.data = .func (Calls.docDef d.name d.params d.body d.scope pm code doc)) (h4 : G.h₀.CodeRec code d.name) : Nk G d
structure Tp (G : Gl) : Prop where
 O : sK G
 fn : ∀ i d,cH i = some d -> Nk G d
 no : ∀ x : Str,x ∈ (["len","range","object","isinstance","str","bool","sum","zip","reversed","sorted","list","ValueError","chr"] : List Str) -> G.mg x = none
 boot : ∀ x : Str,x ≠ "__name__" -> G.mb x = bootBuiltins x
 tw : pW G
 bf : tX G
 qual : G.qual = jA
 tabs : G.tabs = [(82,78),(198,196)]
 cd : ∀ d a o pm code doc,cH 5 = some d -> G.mg d.name = some (.ref a) -> G.h₀.get? a = some o -> o.data = .func (Calls.docDef d.name d.params d.body d.scope pm code doc) -> code = .ref 82
 cdl : ∀ d a o pm code doc,cH 23 = some d -> G.mg d.name = some (.ref a) -> G.h₀.get? a = some o -> o.data = .func (Calls.docDef d.name d.params d.body d.scope pm code doc) -> code = .ref 198
 chm : ∃ t,G.mg "CHAR_MAX" = some (.int 127 t)
 pat : G.mg "_twin_re_1" = some (.ref 57) /\ l5 G.h₀ 57
 map : G.mg "_special_chars_map" = some (.ref 66) /\ ∃ f,G.h₀.MapOf (intKind G.prog G.w) 66 f /\ ∀ c : Nat,(jW.contains c = true /\ ∃ t,f c = some (.str ⟨#[92,c]⟩ t)) \/ (jW.contains c = false /\ f c = none)
inductive bS (G : Gl) (n : Nat) (x : Str) (C : gF) : Prop
 | mk (a : Addr) (m : G.mg x = some (.ref a)) (l : bC G (.ref a)) (k : dT G n (.ref a) C) : bS G n x C
section
variable {G : Gl}
theorem b7 (T : Tp G) {n : Nat} {a : Addr} {o : Obj} {pm code doc : Value} {d : DefRec} {names : List Str} {k : Nat} {w : WS} (h1 : G.mg d.name = some (.ref a)) (h2 : G.h₀.get? a = some o) (h3 : o.data = .func (Calls.docDef d.name d.params d.body d.scope pm code doc)) (h4 : G.h₀.CodeRec code d.name) (bind : ∀ vs : List Value,vs.length = k -> bindArgs (Calls.docDef d.name d.params d.body d.scope pm code doc) ⟨vs,[]⟩ = pure ((names.take k).zip vs)) (kinds : ∀ x ∈ names.take k,d.scope.names.lookup x = some .local \/ d.scope.names.lookup x = some .cell) (nodupc : ((cellsFrom 0 d.scope.names []).map (·.1)).Nodup) (nodup : names.Nodup) (co : d.scope.isCoroutine = false) (gen : d.scope.isGenerator = false) (kind : d.scope.kind = .function) (hb : ∀ L,dY G (callEnvC (Calls.docDef d.name d.params d.body d.scope pm code doc) L a) names n d.body w) : bS G (n + 1) d.name (eV k w) :=
 ⟨a,h1,bC.fn h2 h3,dT.of T.O ⟨⟨o,h2,h3⟩,h4,rfl,rfl,bind,kinds,nodupc,nodup,co,gen,kind⟩ hb⟩
theorem dT.le {n m : Nat} {f : Value} {C : gF} (h : dT G n f C) (l : n <= m) : dT G m f C := fun A ok => h A (ok.le l)
theorem dT.mono {n : Nat} {f : Value} {C C' : gF} (h : dT G n f C) (l : ∀ xs H P,C' xs H P -> C xs H P) : dT G n f C' := fun A ok E s α H P xs vs i r c => h A ok E s α H P xs vs i r (l _ _ _ c)
theorem bS.le {n m : Nat} {x : Str} {C : gF} (h : bS G n x C) (l : n <= m) : bS G m x C := (by obtain ⟨a,b,c,d⟩ := h;exact ⟨a,b,c,d.le l⟩)
theorem E.bi (T : Tp G) {env : Env} {names : List Str} {n : Nat} {x : Str} {v : Value} {pos : Pos} (hm : x ∈ (["len","range","object","isinstance","str","bool","sum","zip","reversed","sorted","list","ValueError","chr"] : List Str) := by decide) (hv : bootBuiltins x = some v := by rfl) (hne : x ≠ "__name__" := by decide) (hk : env.scope.kind = .function := by rfl) (hg : env.globals = mainGlobals := by rfl) (hb : env.builtins = builtinsNs := by rfl) (hx : env.kindOf x = some .globalImplicit := by rfl) (hd : (x == ("__debug__" : Str)) = false := by rfl) : aP G env names n (.Name x pos) (wK (.val v)) :=
 E.builtin T.O hk hg hb hx (T.no x hm) ((T.boot x hne).trans hv) hd
theorem E.gl (T : Tp G) {env : Env} {names : List Str} {n : Nat} {x : Str} {v : Value} {pos : Pos} (hm : G.mg x = some v) (hk : env.scope.kind = .function := by rfl) (hg : env.globals = mainGlobals := by rfl) (hx : env.kindOf x = some .globalImplicit := by rfl) (hd : (x == ("__debug__" : Str)) = false := by rfl) : aP G env names n (.Name x pos) (wK (.val v)) :=
 E.glob T.O hk hg hx hm (fun _ _ => VR.val) hd
theorem fc {α : Type} {p : α -> Prop} {a : α} {l : List α} (h : p a) (t : ∀ x ∈ l,p x) : ∀ x ∈ a :: l,p x := List.forall_mem_cons.mpr ⟨h,t⟩
theorem fz {α : Type} {p : α -> Prop} : ∀ x ∈ ([] : List α),p x := fun _ h => nomatch h
noncomputable def Ln : gF := fun xs H P => match xs with
 | [.str x,v] => v = .val (.ref 66) /\ ∃ c,x = ⟨#[c]⟩ /\ c < 128 /\ P (.str (Fq c)) H
 | _ => False
theorem Nl {xs : List MV} {H : List MO} {P : cM} (h : Ln xs H P) : S2 xs := by
 rcases xs with _ | ⟨a,r⟩ <;> first | exact False.elim h | (cases a <;> first | exact False.elim h | (rcases r with _ | ⟨v,r⟩ <;> first | exact False.elim h | (rcases r with _ | _ <;> first | exact False.elim h | exact .mk _ _)))
theorem K.esc (T : Tp G) {n : Nat} : dT G n (.builtin "str.translate") Ln := by
 refine bP fun no => ?_;obtain ⟨_,f,hm,hf⟩ := T.map;refine no ?_;refine dT.mono (K.translate (by decide) hm fun c => ?_) fun xs H P h => ?_
 · rcases hf c with ⟨_,t,e⟩ | ⟨_,e⟩
   · exact .inr ⟨_,t,e,rfl⟩
   · exact .inl e
 · cases Nl h;obtain ⟨rfl,c,rfl,hc,hP⟩ := h;refine ⟨rfl,c,rfl,hc,?_⟩;have : i8 f c = Fq c := by
     unfold i8 Fq;rcases hf c with ⟨h1,t,e⟩ | ⟨h1,e⟩
     · exact aJ e (aJ (if_pos h1) rfl)
     · exact aJ e (aJ (if_neg (by rw [h1];decide)) rfl)
   refine aJ this ?_;exact hP
end
section
variable {G : Gl} {env : Env} {names : List Str} {n : Nat}
theorem sS (scope : Scope) (env : Env) (h : scope.names.all (fun x => x.2 != .free) = true) : closureFor scope env = pure [] := by
 rw [all_eq_true] at h;have h0 : ∀ x ∈ scope.names,x.2 = .free -> (env.cells.lookup x.1).isSome = true := fun x hx hf => by have := h x hx;replace this := hf ▸ this;cases this
 refine aJ (A4 scope env h0) ?_;have : scope.names.filter (·.2 == .free) = [] := filter_eq_nil_iff.mpr fun x hx q => by have := h x hx;replace q := eq_of_beq q;replace this := q ▸ this;cases this
 unfold jT;refine aJ this ?_;rfl
theorem nG (T : Tp G) {p : Pos} {q : Str} (h : jA p = some q) : ∀ pos' : Pos,p.line = pos'.line -> p.col = pos'.col -> ∀ n,G.qual pos' = some n -> n = q := fun pos' h1 h2 n hn => by
 rw [T.qual,C2 h1 h2,h] at hn;exact (Option.some.inj hn).symm
theorem Bc (T : Tp G) {p : Pos} {q : Str} (h : jA p = some q) : G.qual p = some q := by refine aJ T.qual ?_;exact h
end
theorem sK.on {G : Gl} (O : sK G) {hh : Heap} (b : ∀ b o,G.h₀.get? b = some o -> hh.get? b = some o) : sK (G.on hh) := ⟨O.g.keeps b,O.b.keeps b,O.lim.keeps b⟩
noncomputable def Nm (G : Gl) (n : Nat) (f : Value) : Prop := ∀ {env : Env} {names : List Str} {x : Str} {np pos : Pos} {e : Expr} {w : WE},aP G env names n (.Name x np) (wK (.val f)) -> aP G env names n e w ->
 starEach [e] env = (false,eval e env) :: starEach [] env -> (backTo pos (starEach [] env)).any (·.1) = false ->
 eval (.Call (.Name x np) [e] [] pos) env = (do callWith pos (<- eval (.Name x np) env) [] (backTo pos (starEach [e] env)) (backToKw pos (keywordEach [] env))) -> t9 G env names n (.Call (.Name x np) [e] [] pos) w
inductive wH (G : Gl) (n : Nat) : Prop
 | mk (a : Addr) (m : G.mg "_grouping_intervals" = some (.ref a)) (k : Nm G n (.ref a)) : wH G n
theorem sT {G : Gl} (Tt : Tp G) {n : Nat} (hn : 4 <= n) : wH G n := by
 have Ff := Tt.fn 2;conv at Ff => pattern cH 2;whnf
 obtain ⟨a,o,pm,code,doc,h1,h2,h3,h4⟩ := Ff _ rfl;obtain ⟨tc,hch⟩ := Tt.chm;have nd : cA.Nodup := aT (by decide +kernel);refine ⟨a,h1,fun hnm he hs hp ht => ?_⟩;refine GC.call Tt.O hnm (bC.fn h2 h3) ⟨⟨o,h2,h3⟩,h4,rfl,rfl,fun v => rfl,rfl,rfl,rfl,rfl⟩ (fun L => ⟨rfl,rfl,rfl,rfl,.inl rfl,.inl rfl,.inl rfl,
   fun hh b => T.cmp E.loc (E.glob (Tt.O.on b) rfl rfl rfl hch (fun _ _ => VR.int) rfl) C.eq rfl,
   fun hh b => T.cmp E.loc E.kInt C.eq rfl,
   fun hh b => T.cmp E.loc E.kNone C.isN rfl,
   fun hh b => E.loc rfl rfl rfl rfl,fun hh b => E.loc rfl rfl rfl rfl,fun hh b => E.loc rfl rfl rfl rfl,
   fun hh b => S.set rfl nd rfl (.inl rfl) E.loc rfl,fun hh b => S.set rfl nd rfl (.inl rfl) E.kNone rfl⟩)
   (fun L hh b => T.val E.kBool (fun _ => rfl)) (fun L x => rfl)
   (fun L hh b => E.builtin (Tt.O.on b) rfl rfl rfl rfl (Tt.no _ (by decide)) ((Tt.boot _ (by decide)).trans rfl) rfl) (fun _ hh b => L.cons (E.kStr (by decide)) L.nil rfl) (fun L => rfl) he hn hs hp ht
section
variable {G : Gl} {env : Env} {names : List Str} {n : Nat}
theorem S.try0 {body : List Stmt} {h₀ : ExceptHandler} {hs : List ExceptHandler} {pos : Pos} {w : WS} (h : dY G env names n body w) : bN G env names n (.Try body (h₀ :: hs) [] [] pos) w := by
 intro A ok E s α H ρ P st hw;refine wpAny_Try_except (wpAny_mono (h A ok _ s α H ρ P st hw) (fun f aO r => ?_) kE);cases f with
 | next => exact wpAny_execs_nil r
 | brk => exact r
 | cont => exact r
 | ret v => exact r
end
noncomputable def yM : WS := (aI (aW 2 (bW aL))
 (aI (aI (wF 3 (aE 0) (aI (a6 (bG "list" bA (aE 2) (aH (aE 3) aL)))
 (aI (bB (aN dH (aV cZ (aH (aE 2) aL)) (aE 1)) (aI oK
 aK) aK)
 aK)))
 aK)
 (aI (dG (aE 2))
 aK)))
noncomputable def gN : gF := eV 2 yM
theorem qF {G : Gl} (Tt : Tp G) {n : Nat} (hn4 : 4 <= n) : bS G (n + 1) "_law_told" gN := by
 obtain ⟨a_gen,m_gen,k_gen⟩ := sT Tt hn4;have Ff := Tt.fn 19;conv at Ff => pattern cH 19;whnf
 obtain ⟨a,o,pm,code,doc,h1,h2,h3,h4⟩ := Ff _ rfl;have nd : (["row","count","told","size"] : List Str).Nodup := aT (by decide +kernel);refine b7 Tt h1 h2 h3 h4 (names := ["row","count","told","size"]) (k := 2) (qE fun _ _ => rfl) ?_ (aT rfl) nd rfl rfl rfl fun Lx => ?_
 · exact fc (.inl rfl) (fc (.inl rfl) fz)
 · exact (Ss.cons (S.st nd (E.list L.nil))
 (Ss.cons (S.try0 (Ss.cons (S.forTold Tt.O rfl nd rfl (Or.inl rfl) (k_gen (E.gl Tt m_gen) E.loc rfl rfl rfl) (Ss.cons (S.expr (E.meth cF K.append E.loc (L.cons E.loc L.nil) rfl rfl rfl rfl rfl) rfl rfl)
 (Ss.cons (S.ifS (T.cmp (E.call (E.bi Tt) bC.builtin K.len (L.cons E.loc L.nil)) E.loc C.eq) (Ss.cons S.brk
 Ss.nil) Ss.nil)
 Ss.nil)) (fun _ => rfl))
 Ss.nil))
 (Ss.cons (S.ret E.loc)
 Ss.nil)))
inductive Nn (G : Gl) (env : Env) (α : List Addr) (h : Heap) : Prop
 | mk (L : Addr) (o : Obj) (f : env.frame = some L) (g : h.get? L = some o) (d : ∃ es ep,o.data = .dict es ep) (a : L ∉ α /\ L ∉ G.tb /\ G.h₀.get? L = none) : Nn G env α h
noncomputable def Iy (G : Gl) (outer : List Env) (α : List Addr) (h : Heap) : Prop := ∀ env ∈ outer,env.scope.kind ≠ .module /\ Nn G env α h
theorem wI {G : Gl} {outer : List Env} {α : List Addr} {h : Heap} (x : Iy G outer α h) {b : Addr} (hb : b ∈ vE outer) : (∃ o,h.get? b = some o /\ ∃ es ep,o.data = .dict es ep) /\ b ∉ α /\ b ∉ G.tb /\ G.h₀.get? b = none := by
 obtain ⟨env,he,hf⟩ := mem_filterMap.mp hb;obtain ⟨_,L,o,h2,h3,h4,h5,h6,h7⟩ := x env he;rw [h2] at hf;(injection hf with hf;subst hf);exact ⟨⟨o,h3,h4⟩,h5,h6,h7⟩
section
variable {G : Gl} {n : Nat}
structure Bd (G : Gl) (outer : List Env) (α : List Addr) (H : List MO) (s s' : Shared) (α' : List Addr) : Prop where
 inv : cL G α' (H ++ [.list []]) s'
 step : a5 G (vE outer) α s α' s'
 ns : ∀ L ∈ vE outer,∀ m,s.heap.Ns L m -> s'.heap.Ns L m
theorem Fu (O : sK G) {a : Addr} {fd : FuncData} {names : List Str} {pt p1 px fp kc pc rp hp tp : _} {xl : Str} {el iter hexp : Expr} {fb : List Stmt} {last : Stmt} {told : Str} (F : Fn G a fd [.Assign [.Name told pt] el p1,.Try [.For (.Name xl px) iter fb [] fp] [.ExceptHandler (some hexp) none [.Return (some (.Constant .none kc pc)) rp] hp] [] [] tp,last] names 2) (hset : ∀ L,bN G (callEnvC fd L a) names n (.Assign [.Name told pt] el p1) (aW 2 (bW aL))) (hi : ∀ L,t9 G (callEnvC fd L a) names n iter (aE 0)) (hs : ∀ L x,foldedSetIterable iter (callEnvC fd L a) x = pure x) (hname : ∀ L (A : Around) (E : cB) (s : Shared) (Q : cB),(∀ b o,G.h₀.get? b = some o -> s.heap.get? b = some o) -> Q (.type "ValueError") s -> wpAny (model G.prog G.w) A (eval hexp (callEnvC fd L a)) Q E s) {A : Around} (ok : Ok A (n + 1)) {outer : List Env} (hout : A.frames = some outer) {E : cB} {s : Shared} {α : List Addr} {H : List MO} {r : Nat} {c : Int} {ns : List Int} {vs : List Value} (i : cL G α H s) (rv : c8 α s.heap [.ref r,.int c] vs) (hH : H[r]? = some (.list (ns.map MV.int))) (hz : ns[0]? = some 0) (ho : Iy G outer α s.heap) : wpAny (model G.prog G.w) A (call (.ref a) vs []) (fun v s' => v = .none /\ ∃ α',Bd G outer α H s s' α') E s := by
 refine nQ ?_;intro O5;refine bP fun no => ?_;obtain ⟨o,ho',hd⟩ := F.obj;refine no ?_;have lv : vs.length = 2 := by refine cE rv.length ?_;rfl
 refine wpAny_call (codeAny_call_cells (by have := ok.2.1;exact lt_of_le_of_lt (le_add_right _ _) ‹_›) (i.base _ _ ho') hd (O.lim.keeps i.base) (F.code.keeps i.base) F.body (F.bind vs lv) F.clo (fun x hx => ?_) (fun aO x => ?_) F.co F.gen F.kind)
 · have hx' : x.1 ∈ names.take 2 := (of_mem_zip (a := x.1) (b := x.2) hx).1;rcases F.kinds x.1 hx' with q | q
   · exact .inl q
   · exact .inr ⟨q,cellsFrom_some fd.scope.names _ [] (.inl q)⟩
 obtain ⟨st,kp⟩ := pK F i rv rfl x;refine nQ ?_;intro B3;refine nE ?_;intro O6;have okd : Ok (A.deeper (callEnvC fd s.heap.objs.size a)) n := ok.deeper;have hL : (callEnvC fd s.heap.objs.size a).locals = s.heap.objs.size := rfl;have hfrL : (callEnvC fd s.heap.objs.size a).frame = some s.heap.objs.size := rfl;have hset := hset s.heap.objs.size;have hi := hi s.heap.objs.size;have hs := hs s.heap.objs.size;have hname := hname s.heap.objs.size;have hkin : (callEnvC fd s.heap.objs.size a).scope.kind = .function := F.kind;have hfr : (A.deeper (callEnvC fd s.heap.objs.size a)).frames = some (callEnvC fd s.heap.objs.size a :: outer) := Around.frames_deeper hout;have ownNew : ∀ b ∈ bV (callEnvC fd s.heap.objs.size a),s.heap.get? b = none := fun b hb => by
   rcases mem_cons.mp hb with q | q
   · refine aJ q ?_;exact a9 (le_refl _)
   · obtain ⟨p,hp,rfl⟩ := mem_map.mp q;exact a9 (le_of_lt (x.above p.1 p.2 hp))
 generalize callEnvC fd s.heap.objs.size a = te at *;refine wpAny_execs_cons (Hu (hset _ okd _ aO α H _ (fun f ρ' H' => f = .next /\ ρ' = upd (fun i => [MV.ref r,.int c][i]?) 2 (.ref H.length) /\ H' = H ++ [.list []]) st ⟨by decide,rfl,rfl,rfl⟩) fun fl tG bH bL f s₂ q4 rf cN bF => ?_);refine bP fun no => ?_;obtain ⟨rfl,rfl,rfl⟩ := q4;refine no ?_;cases (show f = .next from rf);refine wpAny_execs_cons (wpAny_Try_except (wpAny_execs_cons (wpAny_For (wpAny_mono (hi _ okd _ s₂ bL _ _ (fun v H' => v = .ref r /\ H' = H ++ [.list []]) cN ⟨.ref r,by rfl,rfl,rfl⟩ ?_) (fun gv s₃ q => ?_) kE) hs)))
 · rintro v H' ⟨rfl,rfl⟩
   exact ⟨r,ns,rfl,by refine aJ (getElem?_append_left (List.getElem?_eq_some_iff.mp hH).1) ?_;exact hH⟩
 refine bP fun no => ?_;rcases q with ⟨r',ns',l,eQ,dM,N₀,C,ga,g,⟨hrr,rfl⟩,rfl,hH',hr,eN,cV,B0,hlow,hg,_,hE⟩;refine no ?_
 (injection hrr with hrr;subst hrr)
 have hnn : ns' = ns := by
   replace hH' := hH ▸ (getElem?_append_left (List.getElem?_eq_some_iff.mp hH).1) ▸ hH'
   have := MO.list.inj (si hH');exact (List.map_inj_right (fun a b h => MV.int.inj h) |>.mp this).symm
 refine bP fun no => ?_;subst hnn;refine no ?_;refine nQ ?_;intro mO;refine bP fun no => ?_;rcases hE hz with ⟨⟨oga,ka,kb,kt,ku,hga,hgc,hgd,hgs⟩,⟨mC,oC,esC,epC,hoC,hdC,rC⟩,gs,hgs',hgo⟩;refine no ?_;refine nE ?_;intro J5;have cG := cN.step cV eN;have T2 : a5 G (bV te) α s bL s₂ := (kp.step (G := G) (X := bV te) (α := α)).trans bF;have T : a5 G [] α s dM s₃ := a5.drop (X := bV te) ((T2.trans cV.nil).weak (by simp)) ownNew;have lowS : ∀ b o,s.heap.get? b = some o -> @LT.lt Nat _ b N₀ := fun b o e => by
   obtain ⟨o',e'⟩ := T2.there b o e;exact hlow b o' e'
 have out3 : ∀ b ∈ vE outer,(∃ o,s₃.heap.get? b = some o /\ ∃ es ep,o.data = .dict es ep) /\ b ∉ dM /\ b ∉ G.tb /\ G.h₀.get? b = none /\ @LT.lt Nat _ b N₀ := fun b hb => by
   refine bP fun no => ?_;rcases wI ho hb with ⟨⟨o1,h1,h2⟩,h3,h4,h5⟩;refine no ?_;exact ⟨⟨o1,T.keep b o1 h1 h3 h4 not_mem_nil,h2⟩,tJ T h1 h3,h4,h5,lowS b o1 h1⟩
 refine bP fun no => ?_;rcases cG.ns with ⟨mT,oT,esT,epT,hoT,hdT,rT⟩;refine no ?_;refine wpAny_pyIter_gen ⟨oga,_,_,hga,hgc,hgd,hgs⟩ ?_;refine nC ?_;intro iC;refine codeAny_forLoop_any (fun _ s' => s' = s₃) (fun m s' hs' => ?_) 0 rfl;subst hs';have hoo : wE (te :: outer) N₀ (s'.setGen g .running).heap := fun e' he' => by
   rcases mem_cons.mp he' with q | he'
   · refine aJ q ?_;exact ⟨by refine aJ hkin ?_;decide,te.locals,oT,hfrL.trans (aJ hL rfl),(B0.own _ mem_cons_self : @LT.lt Nat _ te.locals N₀),hoT,fun vs q => by replace q := hdT ▸ q;cases q⟩
   · obtain ⟨h1,L,o1,h2,h3,⟨es,ep,h4⟩,h5,h6,h7⟩ := ho e' he';exact ⟨h1,L,o1,h2,lowS L o1 h3,T.keep L o1 h3 h5 h6 not_mem_nil,fun vs q => by replace q := h4 ▸ q;cases q⟩
 have hfrT : te.frame = some te.locals := hfrL.trans (aJ hL rfl);refine wC (n := 1) okd.1 (O.lim.keeps eN.base) (by have := okd.2.1;exact lt_of_le_of_lt (le_add_right _ _) ‹_›) ⟨oga,_,_,hga,hgc,hgd,hgs⟩ hgs' (hgo _ _ hfr hoo (⟨fun b o _ e => e,fun b o e => eN.base b o e,Fo (s := s') eN hr hH',l7 (gens := s'.gens) eN.bare rfl⟩ : qD G N₀ l ns' s' (s'.setGen g .running))) (fun v aO gs' hb hv => hv.elim) (fun y bY hy => .inr ?_);refine bP fun no => ?_;rcases hy with ⟨e,B,a0,sr,rfl,lw,hcov,hfl,upto,hg4,hd4,ho4⟩;refine no ?_;have hgaC : ga ≠ C := fun q => by
   replace hga := hoC ▸ q ▸ hga;(injection hga with hga;subst hga)
   replace hgd := hdC ▸ hgd;cases hgd
 have hgaF : ga ∉ C :: vE (te :: outer) := fun q => by
   rcases mem_cons.mp q with q | q
   · exact hgaC q
   · obtain ⟨e',he',hf'⟩ := mem_filterMap.mp q;obtain ⟨_,L,o1,h2,h3,_⟩ := hoo e' he'
     replace hf' := h2 ▸ hf';(injection hf' with hf';subst hf')
     exact B0.cg.2 h3
 obtain ⟨oe,hoe,hce⟩ := hfl.there;refine ⟨e,oe,"ValueError",rfl,⟨oga,_,_,hfl.1 ga oga (hcov ga oga hgaF (lw.keep ga oga (.inr ⟨hgaC,fun q => q.2 _ hgd ka kt rfl⟩) hga)),hgc,hgd,hgs⟩,hoe,hce,by refine aJ (isSubtype_type ..) ?_;kernel_rfl,?_⟩
 skip
 refine wpAny_looks_onW (s := bY.setGen g .finished) hfr hfrT hfl fun sJ Oh Qy => ?_;show wpAny (model G.prog G.w) _ (do
     if (<- field (.ref e) 1) == Value.none then unsupported "frame.own-activation:exception-without-traceback"
     setFlight (.ref e) te.frame) _ _ _
 refine wD hfrT Oh fun S3 Kv Qq => ?_;refine wpAny_noteFrame_againW hfrT Kv.2.2.2 ?_;refine wpAny_landsW Kv fun J0 rF Qn => ?_;refine nQ ?_;intro bU;have keepB : ∀ b o,(@LT.lt Nat _ b N₀ \/ (b ≠ C /\ ¬ kG o)) -> b ∉ C :: vE (te :: outer) -> s'.heap.get? b = some o -> B.get? b = some o := fun b o h1 h2 e' => hcov b o h2 (lw.keep b o h1 e');have baseB : ∀ b o,G.h₀.get? b = some o -> B.get? b = some o := fun b o e' => keepB b o (.inl (B0.h0 b o e')) (fun q => by
   rcases mem_cons.mp q with q | q
   · exact B0.cg.1 (q ▸ B0.h0 b o e')
   · obtain ⟨e2,he2,hf2⟩ := mem_filterMap.mp q;rcases mem_cons.mp he2 with q2 | he2
     · replace hf2 := hfrT ▸ q2 ▸ hf2;(injection hf2 with hf2;subst hf2)
       have := (cG.apart te.locals mem_cons_self).2.2
       replace e' := this ▸ e';exact nS e'
     · have := (out3 b (mem_filterMap.mpr ⟨e2,he2,hf2⟩)).2.2.2.1
       replace e' := this ▸ e';exact nS e') (eN.base b o e')
 refine bP fun no => ?_;obtain ⟨oe7,hoe7,hce7⟩ := rF.there;refine no ?_;refine wpAny_handleBy_builtin (X := "ValueError") (T := "ValueError") (b := true) (by refine aJ (isSubtype_type ..) ?_;kernel_rfl) (by refine aJ (isSubtype_type ..) ?_;kernel_rfl) (by refine aJ (isSubtype_type ..) ?_;kernel_rfl) (hname _ _ _ _ (fun b o e' => rF.1 b o (baseB b o e')) ⟨rfl,⟨oe7,hoe7,hce7⟩,?_⟩);refine aJ (if_pos rfl) ?_;refine wpAny_setFlight_noneW rF.1 rF.2.2.1 rF.2.2.2.at fun lL k1 k2 k3 k4 => ?_;refine wpAny_execs_cons (wpAny_Return_some (wpAny_Constant_none ?_));refine ⟨rfl,dM,?_⟩;have keep8 : ∀ b o,(@LT.lt Nat _ b N₀ \/ (b ≠ C /\ ¬ kG o)) -> b ∉ C :: vE (te :: outer) -> s'.heap.get? b = some o -> lL.get? b = some o := fun b o h1 h2 e' => k1 b o (keepB b o h1 h2 e');have fte : ∀ b ∈ vE (te :: outer),b = te.locals \/ b ∈ vE outer := fun b hb => by
   obtain ⟨e',he',hf'⟩ := mem_filterMap.mp hb;rcases mem_cons.mp he' with q | he'
   · replace hf' := hfrT ▸ q ▸ hf';(injection hf' with hf';subst hf');exact .inl rfl
   · exact .inr (mem_filterMap.mpr ⟨e',he',hf'⟩)
 have ownD : ∀ (o : Obj),(∃ es ep,o.data = .dict es ep) -> kG o := fun o ⟨es,ep,hd'⟩ => by
   refine ⟨fun im => ?_,fun vs hv => ?_⟩
   · rcases im with ⟨_,_,rfl⟩ | ⟨_,rfl⟩ <;> cases hd'
   · replace hv := hd' ▸ hv;cases hv
 have changed : ∀ b o,s'.heap.get? b = some o -> lL.get? b ≠ some o -> (b ∉ dM /\ b ∉ G.tb /\ G.h₀.get? b = none) /\ kG o := fun b o e' hne => by
   by_cases h2 : b ∈ C :: vE (te :: outer)
   · rcases mem_cons.mp h2 with q | q
     · subst q
       replace e' := hoC ▸ e';(injection e' with e';subst e')
       refine ⟨⟨fun q => B0.cg.1 (B0.al _ q),fun q => B0.cg.1 (B0.tb _ q),?_⟩,ownD _ ⟨_,_,hdC⟩⟩;cases z : G.h₀.get? b with
       | none => rfl
       | some o' => exact absurd (B0.h0 b o' z) B0.cg.1
     · rcases fte b q with q | q
       · subst q
         replace e' := hoT ▸ e';(injection e' with e';subst e')
         exact ⟨cG.apart _ mem_cons_self,ownD _ ⟨_,_,hdT⟩⟩
       · obtain ⟨⟨o1,z1,z2⟩,z3,z4,z5,_⟩ := out3 b q
         replace z1 := e' ▸ z1;(injection z1 with z1;subst z1)
         exact ⟨⟨z3,z4,z5⟩,ownD _ z2⟩
   · have hN : ¬ @LT.lt Nat _ b N₀ := fun q => hne (keep8 b o (.inl q) h2 e');refine ⟨⟨fun q => hN (B0.al _ q),fun q => hN (B0.tb _ q),?_⟩,Classical.byContradiction fun q => hne (keep8 b o (.inr ⟨(fun q => h2 (by refine aJ q ?_;exact mem_cons_self) : b ≠ C),q⟩) h2 e')⟩;cases z : G.h₀.get? b with
     | none => rfl
     | some o' => exact absurd (B0.h0 b o' z) hN
 have upAll : ∀ b o,@LT.lt Nat _ b N₀ -> s'.heap.get? b = some o -> (∀ vs,o.data ≠ .fields vs) -> ∃ sl,lL.get? b = some { o with slots := sl } := fun b o hb e' hn => by
   exact (upto.trans (((Qy.trans Qq).trans Qn).trans fun b o e' hn => ⟨o.slots,k4 b o e' hn⟩ : bY.heap.UpToSlots lL)) b o (lw.keep b o (.inl hb) e') hn
 obtain ⟨X,hX1,hX2⟩ : ∃ X : List Addr,(∀ b o,b ∉ X -> s'.heap.get? b = some o -> lL.get? b = some o) /\ ∀ b ∈ X,∃ o,s'.heap.get? b = some o /\ lL.get? b ≠ some o := by
   classical
   refine ⟨(List.range s'.heap.objs.size).filter (fun b => decide (∃ o,s'.heap.get? b = some o /\ lL.get? b ≠ some o)),fun b o hb e' => ?_,fun b hb => ?_⟩
   · refine Classical.byContradiction fun q => hb ?_;rw [mem_filter];exact ⟨mem_range.mpr (lt_size e'),by simpa using ⟨o,e',q⟩⟩
   · rw [mem_filter] at hb;simpa using hb.2
 have inv8 : cL G dM (H ++ [.list []]) { bY.setGen g .finished with heap := lL } := eN.but (X := X) (fun b hb => by
   obtain ⟨o1,z1,z2⟩ := hX2 b hb;exact (changed b o1 z1 z2).1) (fun b hb o1 e' => by
   obtain ⟨o2,z1,z2⟩ := hX2 b hb
   replace z1 := e' ▸ z1;(injection z1 with z1;subst z1)
   exact (changed b o1 e' z2).2) hX1 (l7 (gens := bY.gens) (by refine aJ hg4 ?_;exact lw.bare) rfl : AllBare (bY.setGen g .finished).gens)
 have neF : ∀ b o,s.heap.get? b = some o -> b ∉ vE outer -> b ∉ C :: vE (te :: outer) := fun b o e' hb q => by
   rcases mem_cons.mp q with q | q
   · exact B0.cg.1 (q ▸ lowS b o e')
   · rcases fte b q with q | q
     · have := ownNew te.locals mem_cons_self
       replace this := e' ▸ q.symm ▸ this;exact sN this
     · exact hb q
 refine ⟨inv8,⟨T.ext,fun b o e' h1 h2 h3 => ?_,fun b o e' im => ?_,?_,?_,fun j y e' => ?_,fun b o e' => ?_⟩,fun L hL m hm => ?_⟩
 · exact keep8 b o (.inl (lowS b o e')) (neF b o e' h3) (T.keep b o e' h1 h2 not_mem_nil)
 · have e3 := T.imm b o e' im;exact Classical.byContradiction fun q => ((changed b o e3 q).2).1 im
 · exact (hd4.trans lw.drawn).trans T.drawn
 · exact (ho4.trans lw.os).trans T.os
 · have hj : j < s₂.gens.size := (Array.getElem?_eq_some_iff.mp (T2.gens j y e')).1;have hjg : j ≠ g := by lia
   have e4 : (s'.setGen g .running).gens[j]? = some y := by
     skip
     refine aJ (getElem?_setIfInBounds_ne (Ne.symm hjg)) ?_;exact (T.gens j y e')
   skip
   skip
   refine aJ (getElem?_setIfInBounds_ne (Ne.symm hjg)) (aJ hg4 ?_);exact (lw.gens j y e4)
 · obtain ⟨o',e3⟩ := T.there b o e';by_cases hb : b ∈ vE outer
   · obtain ⟨⟨o1,z1,⟨es,ep,z2⟩⟩,_,_,_,z6⟩ := out3 b hb;obtain ⟨sl,z⟩ := upAll b o1 z6 z1 fun vs q => by replace q := z2 ▸ q;cases q
     exact ⟨_,z⟩
   · exact ⟨o',keep8 b o' (.inl (lowS b o e')) (neF b o e' hb) e3⟩
 · obtain ⟨o1,es,ep,z1,z2,z3⟩ := hm;refine bP fun no => ?_;rcases wI ho hL with ⟨⟨o2,y1,y2⟩,y3,y4,y5⟩;refine no ?_;refine bP fun no => ?_;obtain ⟨sl,z⟩ := upAll L o1 (lowS L o1 z1) (T.keep L o1 z1 y3 y4 not_mem_nil) fun vs q => by replace q := z2 ▸ q;cases q
   refine no ?_;exact ⟨_,es,ep,z,z2,z3⟩
end
noncomputable def Be (G : Gl) (n : Nat) (f : Value) : Prop := ∀ {A : Around},Ok A (n + 1) -> ∀ {outer : List Env},A.frames = some outer -> ∀ {E : cB} {s : Shared} {α : List Addr} {H : List MO} {r : Nat} {c : Int} {ns : List Int} {vs : List Value},
 cL G α H s -> c8 α s.heap [.ref r,.int c] vs -> H[r]? = some (.list (ns.map MV.int)) -> ns[0]? = some 0 -> Iy G outer α s.heap ->
   wpAny (model G.prog G.w) A (call f vs []) (fun v s' => v = .none /\ ∃ α',Bd G outer α H s s' α') E s
inductive Np (G : Gl) (n : Nat) : Prop
 | mk (a : Addr) (m : G.mg "_law_told" = some (.ref a)) (l : bC G (.ref a)) (k : Be G n (.ref a)) : Np G n
theorem uA {G : Gl} (Tt : Tp G) {n : Nat} (hn4 : 4 <= n) : Np G n := by
 obtain ⟨a_gen,m_gen,k_gen⟩ := sT Tt hn4;have Ff := Tt.fn 19;conv at Ff => pattern cH 19;whnf
 obtain ⟨a,o,pm,code,doc,h1,h2,h3,h4⟩ := Ff _ rfl;have nd : (["row","count","told","size"] : List Str).Nodup := aT (by decide +kernel);refine ⟨a,h1,bC.fn h2 h3,fun ok outer hout E' s α H r c ns vs i rv hH hz ho => ?_⟩;refine Fu Tt.O (names := ["row","count","told","size"]) ⟨⟨o,h2,h3⟩,h4,rfl,rfl,(qE fun _ _ => rfl),?_,(aT rfl),nd,rfl,rfl,rfl⟩ (fun _ => S.set rfl nd rfl (Or.inl rfl) (E.list L.nil) rfl) (fun _ => k_gen (E.gl Tt m_gen) E.loc rfl rfl rfl) (fun _ _ => rfl)
   (fun L A E s Q b hq => Calls.Name_function_global rfl rfl (Calls.loadGlobal_builtin (mg := G.mg) (mb := G.mb) (Tt.O.g.keeps b) (Tt.no _ (by decide)) (Tt.O.b.keeps b) ((Tt.boot _ (by decide)).trans rfl) hq) rfl) ok hout i rv hH hz ho
 intro x hx;simp only [take_succ_cons,List.take_zero,mem_cons,not_mem_nil,or_false] at hx;rcases hx with rfl | rfl
 · exact .inl rfl
 · exact .inl rfl
section
variable {G : Gl} {env : Env} {names : List Str} {n : Nat} {A : Around}
noncomputable def Nq (A : Around) (G : Gl) (env : Env) (names : List Str) (e : Stmt) (w : WS) : Prop :=
 ∀ (E : cB) (s : Shared) (α : List Addr) (H : List MO) (ρ : bI) (P : d5),St G env names ρ α H s -> w ρ H P -> wpAny (model G.prog G.w) A (exec e env) (mR G env names α s P) E s
noncomputable def fQ (A : Around) (G : Gl) (env : Env) (names : List Str) (e : List Stmt) (w : WS) : Prop :=
 ∀ (E : cB) (s : Shared) (α : List Addr) (H : List MO) (ρ : bI) (P : d5),St G env names ρ α H s -> w ρ H P -> wpAny (model G.prog G.w) A (execs e env) (mR G env names α s P) E s
theorem bN.at {e : Stmt} {w : WS} (h : bN G env names n e w) (ok : Ok A n) : Nq A G env names e w := h A ok
theorem fQ.cons {e : Stmt} {es : List Stmt} {a b : WS} (ha : Nq A G env names e a) (hb : fQ A G env names es b) : fQ A G env names (e :: es) (aI a b) := by
 intro E s α H ρ P st hw;refine wpAny_execs_cons (Hu (ha E s α H ρ _ st hw) fun fl aY H₁ aQ f aO cX q cK aU => ?_);cases fl with
 | next =>
   cases (show f = .next from q);exact wpAny_mono (hb E aO aQ H₁ aY P cK cX) (fun f s₂ r => r.trans aU) kE
 | brk => cases (show f = .brk from q);exact ⟨.brk,aY,H₁,aQ,cX,rfl,cK,aU⟩
 | cont => cases (show f = .cont from q);exact ⟨.cont,aY,H₁,aQ,cX,rfl,cK,aU⟩
 | ret v =>
   obtain ⟨v',rfl,rv⟩ := (show ∃ v',f = .ret v' /\ VR aQ aO.heap v v' from q);exact ⟨.ret v,aY,H₁,aQ,cX,⟨v',rfl,rv⟩,cK,aU⟩
theorem fQ.nil : fQ A G env names [] aK := fun E s α H ρ P st hw => wpAny_execs_nil ⟨.next,ρ,H,α,hw,rfl,st,.refl⟩
theorem Fv {ρ : bI} {α α' : List Addr} {H H' : List MO} {s s' : Shared} (x : St G env names ρ α H s) (i : cL G α' H' s') (he : ∃ β,α' = α ++ β /\ ∀ a ∈ β,s.heap.get? a = none) (imm : tI s.heap s'.heap) (hns : ∀ m,s.heap.Ns env.locals m -> s'.heap.Ns env.locals m) (h : ∀ b ∈ env.cells.map (·.2),∀ o,s.heap.get? b = some o -> s'.heap.get? b = some o) : St G env names ρ α' H' s' := by
 obtain ⟨β,rfl,hβ⟩ := he;refine ⟨i,fun j n v hj hv => ?_,?_,fun n c hc => ?_,fun b hb => ⟨?_,(x.apart b hb).2⟩,x.nodup⟩
 · obtain ⟨v',l,r⟩ := x.var j n v hj hv;refine ⟨v',?_,VR.mono β imm r⟩;rcases l with ⟨hk,m,hn,hm⟩ | ⟨hk,c,hc,o,e,hd⟩
   · exact .inl ⟨hk,m,hns m hn,hm⟩
   · exact .inr ⟨hk,c,hc,o,h _ (mem_map_of_mem (cI hc)) _ e,hd⟩
 · obtain ⟨m,hn⟩ := x.ns;exact ⟨m,hns m hn⟩
 · obtain ⟨v,o,e,hd⟩ := x.cell n c hc;exact ⟨v,o,h _ (mem_map_of_mem hc) _ e,hd⟩
 · intro q;rcases mem_append.mp q with q | q
   · exact (x.apart b hb).1 q
   · obtain ⟨o,e⟩ := i6 x hb;rw [hβ b q] at e;exact nS e
noncomputable def Fw (t1 : WT) (wl : WL) : WS := fun ρ H P => t1 ρ H fun b H₁ => b = false /\ wl ρ H₁ fun xs bH => ∃ (r : Nat) (c : Int) (ns : List Int),xs = [.ref r,.int c] /\ bH[r]? = some (.list (ns.map MV.int)) /\ ns[0]? = some 0 /\ P .next ρ (bH ++ [.list []])
theorem Nq.lawIf {t : Expr} {x : Str} {np cp pc pcmp pb pif : Pos} {e : Expr} {es : List Expr} {kc : _} {body : List Stmt} {wt : WT} {wl : WL} {f : Value} (ok : Ok A (n + 1)) (hkind : env.scope.kind = .function) (hframe : env.frame = some env.locals) (hfr : A.frames = some [env]) (ht : cO G env names (n + 1) t wt) (hn : aP G env names (n + 1) (.Name x np) (wK (.val f))) (hc : bC G f) (hf : Be G n f) (hl : d9 G env names (n + 1) (e :: es) wl) (hs : starEach (e :: es) env = (false,eval e env) :: starEach es env) (hp : (backTo cp (starEach es env)).any (·.1) = false)
   (hcall : eval (.Call (.Name x np) (e :: es) [] cp) env = (do callWith cp (<- eval (.Name x np) env) [] (backTo cp (starEach (e :: es) env)) (backToKw cp (keywordEach [] env))))
   (hm : behindInMarks .IsNot (.Constant .none kc pc) = false) :
   Nq A G env names (.If (.BoolOp .Or [t,.Compare (.Call (.Name x np) (e :: es) [] cp) [.IsNot] [.Constant .none kc pc] pcmp] pb) body [] pif) (Fw wt wl) := by
 intro E s α H ρ P st hw;refine wpAny_If (wpAny_isTrue_BoolOp (wpAny_allTrue_Or_cons (Ia (ht A ok E s α H ρ _ st hw) fun H₁ aQ c aO q2 aZ aU => ?_)));obtain ⟨rfl,hw⟩ := q2;have cK := st.step aU aZ;refine wpAny_allTrue_Or_cons (wpAny_isTrue_Compare1 (Call_ (fM (hn A ok E aO aQ H₁ ρ (fun v H' => v = .val f /\ H' = H₁) cK ⟨rfl,rfl⟩) fun v bH bL f' s₂ q3 dW bQ bF => ?_) hcall) hm);refine nQ ?_;intro bU;refine bP fun no => ?_;obtain ⟨rfl,rfl⟩ := q3;refine no ?_
 skip;subst dW
 have cN := cK.step bF bQ;refine fD hc hl ok cN hw hs hp fun xs vs s₃ eQ dM hP Hj eN cV => ?_;refine bP fun no => ?_;obtain ⟨r,c,ns,rfl,hH,hz,hP⟩ := hP;have cG := cN.step cV eN;obtain ⟨m,o,es',ep,ho,hd,_⟩ := cG.ns;refine no ?_;have hX : Iy G [env] dM s₃.heap := fun e' he' => by
   refine aJ (mem_singleton.mp he') ?_;exact ⟨by refine aJ hkind ?_;decide,env.locals,o,hframe,ho,⟨es',ep,hd⟩,cG.apart env.locals mem_cons_self⟩
 refine wpAny_mono (hf ok hfr eN Hj hH hz hX) (fun v bY q => ?_) kE;obtain ⟨rfl,kW,R⟩ := q;refine wpAny_Constant_none (isNot_none (wpAny_truthy_bool (wpAny_allTrue_Or_nil ?_)));have hfe : vE [env] = [env.locals] := by simp [vE,hframe]
 have jL : St G env names ρ kW (eQ ++ [.list []]) bY := Fv cG R.inv R.step.ext R.step.imm (R.ns env.locals (by refine aJ hfe ?_;exact mem_cons_self)) fun b hb o e => R.step.keep b o e (cG.apart b (mem_cons_of_mem _ hb)).1 (cG.apart b (mem_cons_of_mem _ hb)).2.1 (by
   refine aJ hfe ?_;intro q
   replace hb := (mem_singleton.mp q) ▸ hb
   exact (nodup_cons.mp st.nodup).1 hb)
 exact wpAny_execs_nil ⟨.next,ρ,_,kW,hP,rfl,jL,((((aU.trans bF).trans cV).nil).trans (R.step.weak (by refine aJ hfe ?_;intro x hx;refine aJ (mem_singleton.mp hx) ?_;exact mem_cons_self)) : a5 G (bV env) α s kW bY)⟩
theorem Iz (O : sK G) {a : Addr} {fd : FuncData} {body : List Stmt} {k : Nat} {w : WS} (F : Fn G a fd body names k) {A : Around} (ok : Ok A (n + 1)) (hb : ∀ L,fQ (A.deeper (callEnvC fd L a)) G (callEnvC fd L a) names body w) {E : cB} {s : Shared} {α : List Addr} {H : List MO} {P : cM} {xs : List MV} {vs : List Value} (i : cL G α H s) (r : c8 α s.heap xs vs) (hw : eV k w xs H P) : wpAny (model G.prog G.w) A (call (.ref a) vs []) (d2 G α s P) E s := by
 refine bP fun no => ?_;obtain ⟨hl,hw⟩ := hw;obtain ⟨o,ho,hd⟩ := F.obj;refine no ?_;have lv : vs.length = k := by refine cE r.length ?_;exact hl
 refine wpAny_call (codeAny_call_cells (by have := ok.2.1;exact lt_of_le_of_lt (le_add_right _ _) ‹_›) (i.base _ _ ho) hd (O.lim.keeps i.base) (F.code.keeps i.base) F.body (F.bind vs lv) F.clo (fun x hx => ?_) (fun aO x => ?_) F.co F.gen F.kind)
 · have hx' : x.1 ∈ names.take k := (of_mem_zip (a := x.1) (b := x.2) hx).1;rcases F.kinds x.1 hx' with q | q
   · exact .inl q
   · exact .inr ⟨q,cellsFrom_some fd.scope.names _ [] (.inl q)⟩
 · obtain ⟨st,kp⟩ := pK F i r hl x;refine nQ ?_;intro bU;refine Hu (hb s.heap.objs.size _ aO α H _ _ st hw) fun fl ρ' H' α' f s₂ hP rf st' t => ?_;have ownNew : ∀ b ∈ bV (callEnvC fd s.heap.objs.size a),s.heap.get? b = none := fun b hb => by
     rcases mem_cons.mp hb with q | q
     · refine aJ q ?_;exact a9 (le_refl _)
     · obtain ⟨p,hp,rfl⟩ := mem_map.mp q;exact a9 (le_of_lt (x.above p.1 p.2 hp))
   have t' : a5 G [] α s α' s₂ := a5.drop (X := bV (callEnvC fd s.heap.objs.size a)) (((kp.step (G := G) (α := α)).trans t).weak (by simp)) ownNew;cases fl with
   | ret v =>
     obtain ⟨v',rfl,rv⟩ := (show ∃ v',f = .ret v' /\ VR α' s₂.heap v v' from rf);exact ⟨v,H',α',hP,rv,st'.inv,t'⟩
   | next => cases (show f = .next from rf);exact ⟨.none,H',α',hP,by skip;rfl,st'.inv,t'⟩
   | brk => cases (show f = .brk from rf);exact ⟨.none,H',α',hP,by skip;rfl,st'.inv,t'⟩
   | cont => cases (show f = .cont from rf);exact ⟨.none,H',α',hP,by skip;rfl,st'.inv,t'⟩
end
noncomputable def yN : WS := (aI (aW 3 (a7 (aE 0) (aE 2)))
 (aI (cP (aN rL (aE 2) (aE 1)) (aI (aW 4 (aX Hx (aX fN (aE 2) (wK (.int 1))) (wK (.int 1))))
 (aI (aW 5 (a7 (aE 0) (aE 4)))
 (aI (bB (aN fW (aE 3) (aE 5)) (aI (tM (aE 5) (aE 0) (aE 2))
 (aI (aW 2 (aE 4))
 (aI Et
 aK))) aK)
 (aI oK
 aK)))))
 (aI (tM (aE 3) (aE 0) (aE 2))
 aK)))
noncomputable def jB : gF := eV 3 yN
theorem qG {G : Gl} (Tt : Tp G) {n : Nat} : bS G (n + 1) "_siftdown" jB := by
 have Ff := Tt.fn 9;conv at Ff => pattern cH 9;whnf
 obtain ⟨a,o,pm,code,doc,h1,h2,h3,h4⟩ := Ff _ rfl;have nd : (["heap","startpos","pos","newitem","parentpos","parent"] : List Str).Nodup := aT (by decide +kernel);refine b7 Tt h1 h2 h3 h4 (names := ["heap","startpos","pos","newitem","parentpos","parent"]) (k := 3) (Ft fun _ _ _ => rfl) ?_ (aT rfl) nd rfl rfl rfl fun Lx => ?_
 · exact fc (.inl rfl) (fc (.inl rfl) (fc (.inl rfl) fz))
 · exact (Ss.cons (S.st nd (E.get E.loc E.loc))
 (Ss.cons (S.while (T.cmp E.loc E.loc C.gt) (Ss.cons (S.st nd (E.bin (E.bin E.loc E.kInt B.sub) E.kInt B.shr))
 (Ss.cons (S.st nd (E.get E.loc E.loc))
 (Ss.cons (S.ifS (T.cmp E.loc E.loc C.lt) (Ss.cons (S.put E.loc E.loc E.loc rfl)
 (Ss.cons (S.st nd E.loc)
 (Ss.cons S.cont
 Ss.nil))) Ss.nil)
 (Ss.cons S.brk
 Ss.nil)))))
 (Ss.cons (S.put E.loc E.loc E.loc rfl)
 Ss.nil)))
noncomputable def Fx : WS := (aI (aW 2 (aV cZ (aH (aE 0) aL)))
 (aI (aW 3 (aE 1))
 (aI (aW 4 (a7 (aE 0) (aE 1)))
 (aI (aW 5 (aX bD (aX rJ (wK (.int 2)) (aE 1)) (wK (.int 1))))
 (aI (cP (aN fW (aE 5) (aE 2)) (aI (aW 6 (aX bD (aE 5) (wK (.int 1))))
 (aI (bB (dF (aN fW (aE 6) (aE 2)) (eR (aN fW (a7 (aE 0) (aE 5)) (a7 (aE 0) (aE 6))))) (aI (aW 5 (aE 6))
 aK) aK)
 (aI (tM (a7 (aE 0) (aE 5)) (aE 0) (aE 1))
 (aI (aW 1 (aE 5))
 (aI (aW 5 (aX bD (aX rJ (wK (.int 2)) (aE 1)) (wK (.int 1))))
 aK))))))
 (aI (tM (aE 4) (aE 0) (aE 1))
 (aI (a6 (aV jB (aH (aE 0) (aH (aE 3) (aH (aE 1) aL)))))
 aK)))))))
noncomputable def gO : gF := eV 2 Fx
theorem uB {G : Gl} (Tt : Tp G) {n : Nat} (h_siftdown : bS G n "_siftdown" jB) : bS G (n + 1) "_siftup" gO := by
 obtain ⟨a_siftdown,m_siftdown,l_siftdown,k_siftdown⟩ := h_siftdown;have Ff := Tt.fn 10;conv at Ff => pattern cH 10;whnf
 obtain ⟨a,o,pm,code,doc,h1,h2,h3,h4⟩ := Ff _ rfl;have nd : (["heap","pos","endpos","startpos","newitem","childpos","rightpos"] : List Str).Nodup := aT (by decide +kernel);refine b7 Tt h1 h2 h3 h4 (names := ["heap","pos","endpos","startpos","newitem","childpos","rightpos"]) (k := 2) (qE fun _ _ => rfl) ?_ (aT rfl) nd rfl rfl rfl fun Lx => ?_
 · exact fc (.inl rfl) (fc (.inl rfl) fz)
 · exact (Ss.cons (S.st nd (E.call (E.bi Tt) bC.builtin K.len (L.cons E.loc L.nil)))
 (Ss.cons (S.st nd E.loc)
 (Ss.cons (S.st nd (E.get E.loc E.loc))
 (Ss.cons (S.st nd (E.bin (E.bin E.kInt E.loc B.mul) E.kInt B.add))
 (Ss.cons (S.while (T.cmp E.loc E.loc C.lt) (Ss.cons (S.st nd (E.bin E.loc E.kInt B.add))
 (Ss.cons (S.ifS (T.and (T.cmp E.loc E.loc C.lt) (T.not (T.cmp (E.get E.loc E.loc) (E.get E.loc E.loc) C.lt))) (Ss.cons (S.st nd E.loc)
 Ss.nil) Ss.nil)
 (Ss.cons (S.put (E.get E.loc E.loc) E.loc E.loc rfl)
 (Ss.cons (S.st nd E.loc)
 (Ss.cons (S.st nd (E.bin (E.bin E.kInt E.loc B.mul) E.kInt B.add))
 Ss.nil))))))
 (Ss.cons (S.put E.loc E.loc E.loc rfl)
 (Ss.cons (S.expr (E.call (E.gl Tt m_siftdown) l_siftdown k_siftdown (L.cons E.loc (L.cons E.loc (L.cons E.loc L.nil)))) rfl rfl)
 Ss.nil)))))))
noncomputable def C3 : WS := (aI (aW 1 (bG "list" E0 (aE 0) aL))
 (aI (bB (cD (aE 0)) (aI (aW 2 (a7 (aE 0) (wK (.int 0))))
 (aI (tM (aE 1) (aE 0) (wK (.int 0)))
 (aI (a6 (aV gO (aH (aE 0) (aH (wK (.int 0)) aL))))
 (aI (dG (aE 2))
 aK)))) aK)
 (aI (dG (aE 1))
 aK)))
noncomputable def iQ : gF := eV 1 C3
theorem rV {G : Gl} (Tt : Tp G) {n : Nat} (h_siftup : bS G n "_siftup" gO) : bS G (n + 1) "heappop" iQ := by
 obtain ⟨a_siftup,m_siftup,l_siftup,k_siftup⟩ := h_siftup;have Ff := Tt.fn 7;conv at Ff => pattern cH 7;whnf
 obtain ⟨a,o,pm,code,doc,h1,h2,h3,h4⟩ := Ff _ rfl;have nd : (["heap","lastelt","returnitem"] : List Str).Nodup := aT (by decide +kernel);refine b7 Tt h1 h2 h3 h4 (names := ["heap","lastelt","returnitem"]) (k := 1) (rU fun _ => rfl) ?_ (aT rfl) nd rfl rfl rfl fun Lx => ?_
 · exact fc (.inl rfl) fz
 · exact (Ss.cons (S.st nd (E.meth0 Ka K.pop E.loc rfl rfl))
 (Ss.cons (S.ifS (T.val E.loc (fun _ => rfl)) (Ss.cons (S.st nd (E.get E.loc E.kInt))
 (Ss.cons (S.put E.loc E.loc E.kInt rfl)
 (Ss.cons (S.expr (E.call (E.gl Tt m_siftup) l_siftup k_siftup (L.cons E.loc (L.cons E.kInt L.nil))) rfl rfl)
 (Ss.cons (S.ret E.loc)
 Ss.nil)))) Ss.nil)
 (Ss.cons (S.ret E.loc)
 Ss.nil)))
noncomputable def C4 : WS := (aI (aW 1 (aV cZ (aH (aE 0) aL)))
 (aI (kI (.nm 2) (Kc (dZ (aH (aX rK (aE 1) (wK (.int 2))) aL))) (aI (a6 (aV gO (aH (aE 0) (aH (aE 2) aL))))
 aK))
 aK))
noncomputable def j5 : gF := eV 1 C4
theorem rW {G : Gl} (Tt : Tp G) {n : Nat} (h_siftup : bS G n "_siftup" gO) : bS G (n + 1) "heapify" j5 := by
 obtain ⟨a_siftup,m_siftup,l_siftup,k_siftup⟩ := h_siftup;have Ff := Tt.fn 8;conv at Ff => pattern cH 8;whnf
 obtain ⟨a,o,pm,code,doc,h1,h2,h3,h4⟩ := Ff _ rfl;have nd : (["x","n","i"] : List Str).Nodup := aT (by decide +kernel);refine b7 Tt h1 h2 h3 h4 (names := ["x","n","i"]) (k := 1) (rU fun _ => rfl) ?_ (aT rfl) nd rfl rfl rfl fun Lx => ?_
 · exact fc (.inl rfl) fz
 · exact (Ss.cons (S.st nd (E.call (E.bi Tt) bC.builtin K.len (L.cons E.loc L.nil)))
 (Ss.cons (S.for (t := (.nm 2)) (tgt := fun _ => True) rfl nd (.nm rfl (Or.inl rfl)) trivial (I.rev (E.bi Tt) (R.call Tt.O (E.bi Tt) (L.cons (E.bin E.loc E.kInt B.div) L.nil) rfl rfl rfl) rfl rfl) (Ss.cons (S.expr (E.call (E.gl Tt m_siftup) l_siftup k_siftup (L.cons E.loc (L.cons E.loc L.nil))) rfl rfl)
 Ss.nil) (fun _ => rfl))
 Ss.nil))
noncomputable def C5 : WS := (aI (dG (aX fN (kD rL (aE 0) (aE 1)) (kD fW (aE 0) (aE 1))))
 aK)
noncomputable def iR : gF := eV 2 C5
theorem rX {G : Gl} (Tt : Tp G) {n : Nat} : bS G (n + 1) "_strcoll" iR := by
 have Ff := Tt.fn 0;conv at Ff => pattern cH 0;whnf
 obtain ⟨a,o,pm,code,doc,h1,h2,h3,h4⟩ := Ff _ rfl;have nd : (["a","b"] : List Str).Nodup := aT (by decide +kernel);refine b7 Tt h1 h2 h3 h4 (names := ["a","b"]) (k := 2) (qE fun _ _ => rfl) ?_ (aT rfl) nd rfl rfl rfl fun Lx => ?_
 · exact fc (.inl rfl) (fc (.inl rfl) fz)
 · exact (Ss.cons (S.ret (E.bin (E.cmp E.loc E.loc C.gt rfl) (E.cmp E.loc E.loc C.lt rfl) B.sub))
 Ss.nil)
noncomputable def C6 : WS := (aI (dG (aE 0))
 aK)
noncomputable def nH : gF := eV 1 C6
theorem rY {G : Gl} (Tt : Tp G) {n : Nat} : bS G (n + 1) "_strxfrm" nH := by
 have Ff := Tt.fn 1;conv at Ff => pattern cH 1;whnf
 obtain ⟨a,o,pm,code,doc,h1,h2,h3,h4⟩ := Ff _ rfl;have nd : (["s"] : List Str).Nodup := aT (by decide +kernel);refine b7 Tt h1 h2 h3 h4 (names := ["s"]) (k := 1) (rU fun _ => rfl) ?_ (aT rfl) nd rfl rfl rfl fun Lx => ?_
 · exact fc (.inl rfl) fz
 · exact (Ss.cons (S.ret E.loc)
 Ss.nil)
noncomputable def C7 : WS := (aI (bB (aN dH (a7 (aE 0) (aE 1)) (wK (.str "\\"))) (aI (dG (d3 (aH (a7 (aE 0) (aX bD (aE 1) (wK (.int 1)))) (aH (aX bD (aE 1) (wK (.int 2))) aL))))
 aK) aK)
 (aI (dG (d3 (aH (a7 (aE 0) (aE 1)) (aH (aX bD (aE 1) (wK (.int 1))) aL))))
 aK))
noncomputable def dU : gF := eV 2 C7
theorem rZ {G : Gl} (Tt : Tp G) {n : Nat} : bS G (n + 1) "_law_one" dU := by
 have Ff := Tt.fn 11;conv at Ff => pattern cH 11;whnf
 obtain ⟨a,o,pm,code,doc,h1,h2,h3,h4⟩ := Ff _ rfl;have nd : (["text","k"] : List Str).Nodup := aT (by decide +kernel);refine b7 Tt h1 h2 h3 h4 (names := ["text","k"]) (k := 2) (qE fun _ _ => rfl) ?_ (aT rfl) nd rfl rfl rfl fun Lx => ?_
 · exact fc (.inl rfl) (fc (.inl rfl) fz)
 · exact (Ss.cons (S.ifS (T.cmp (E.get E.loc E.loc) E.kStr C.eq) (Ss.cons (S.ret (E.tup (L.cons (E.get E.loc (E.bin E.loc E.kInt B.add)) (L.cons (E.bin E.loc E.kInt B.add) L.nil))))
 Ss.nil) Ss.nil)
 (Ss.cons (S.ret (E.tup (L.cons (E.get E.loc E.loc) (L.cons (E.bin E.loc E.kInt B.add) L.nil))))
 Ss.nil))
noncomputable def C8 : WS := (aI (aW 2 (kD dH (a7 (aE 0) (aE 1)) (wK (.str "^"))))
 (aI (bB (cD (aE 2)) (aI (e7 1 dD (wK (.int 1)))
 aK) aK)
 (aI (aW 3 (bW aL))
 (aI (cP (rM (aN dH (aE 3) (bW aL)) (aN lM (a7 (aE 0) (aE 1)) (wK (.str "]")))) (aI (mS [4,1] (aV dU (aH (aE 0) (aH (aE 1) aL))))
 (aI (aW 5 (aE 4))
 (aI (bB (aN dH (a7 (aE 0) (aE 1)) (wK (.str "-"))) (aI (mS [5,1] (aV dU (aH (aE 0) (aH (aX bD (aE 1) (wK (.int 1))) aL))))
 aK) aK)
 (aI (a6 (bG "list" bA (aE 3) (aH (d3 (aH (aE 4) (aH (aE 5) aL))) aL)))
 aK)))))
 (aI (dG (d3 (aH (d3 (aH (aE 2) (aH (aE 3) aL))) (aH (aX bD (aE 1) (wK (.int 1))) aL))))
 aK)))))
noncomputable def gG : gF := eV 2 C8
theorem r6 {G : Gl} (Tt : Tp G) {n : Nat} (h_law_one : bS G n "_law_one" dU) : bS G (n + 1) "_law_set" gG := by
 obtain ⟨a_law_one,m_law_one,l_law_one,k_law_one⟩ := h_law_one;have Ff := Tt.fn 12;conv at Ff => pattern cH 12;whnf
 obtain ⟨a,o,pm,code,doc,h1,h2,h3,h4⟩ := Ff _ rfl;have nd : (["text","k","barred","pairs","low","high"] : List Str).Nodup := aT (by decide +kernel);refine b7 Tt h1 h2 h3 h4 (names := ["text","k","barred","pairs","low","high"]) (k := 2) (qE fun _ _ => rfl) ?_ (aT rfl) nd rfl rfl rfl fun Lx => ?_
 · exact fc (.inl rfl) (fc (.inl rfl) fz)
 · exact (Ss.cons (S.st nd (E.cmp (E.get E.loc E.loc) E.kStr C.eq rfl))
 (Ss.cons (S.ifS (T.val E.loc (fun _ => rfl)) (Ss.cons (S.aug rfl nd rfl rfl (Or.inl rfl) E.kInt IP.add)
 Ss.nil) Ss.nil)
 (Ss.cons (S.st nd (E.list L.nil))
 (Ss.cons (S.while (T.or (T.cmp E.loc (E.list L.nil) C.eq) (T.cmp (E.get E.loc E.loc) E.kStr C.ne)) (Ss.cons (S.unp rfl nd (.cons rfl (.inl rfl) (.cons rfl (.inl rfl) .nil)) (E.call (E.gl Tt m_law_one) l_law_one k_law_one (L.cons E.loc (L.cons E.loc L.nil))) rfl rfl)
 (Ss.cons (S.st nd E.loc)
 (Ss.cons (S.ifS (T.cmp (E.get E.loc E.loc) E.kStr C.eq) (Ss.cons (S.unp rfl nd (.cons rfl (.inl rfl) (.cons rfl (.inl rfl) .nil)) (E.call (E.gl Tt m_law_one) l_law_one k_law_one (L.cons E.loc (L.cons (E.bin E.loc E.kInt B.add) L.nil))) rfl rfl)
 Ss.nil) Ss.nil)
 (Ss.cons (S.expr (E.meth cF K.append E.loc (L.cons (E.tup (L.cons E.loc (L.cons E.loc L.nil))) L.nil) rfl rfl rfl rfl rfl) rfl rfl)
 Ss.nil)))))
 (Ss.cons (S.ret (E.tup (L.cons (E.tup (L.cons E.loc (L.cons E.loc L.nil))) (L.cons (E.bin E.loc E.kInt B.add) L.nil))))
 Ss.nil)))))
noncomputable def yO : WS := (aI (aW 1 (bW (aH (d3 (aH (wK (.str "")) (aH (bW aL) aL))) aL)))
 (aI (aW 2 (wK (.int 4)))
 (aI (cP (aN fW (aE 2) (aX fN (aV cZ (aH (aE 0) aL)) (wK (.int 3)))) (aI (bB (aN dH (fZ (aE 0) (d8 (aE 2)) (d8 (aX bD (aE 2) (wK (.int 6))))) (wK (.str "(?>.*?"))) (aI (a6 (bG "list" bA (aE 1) (aH (d3 (aH (wK (.str "held")) (aH (bW aL) aL))) aL)))
 (aI (e7 2 dD (wK (.int 6)))
 aK)) (aI (bB (aN dH (fZ (aE 0) (d8 (aE 2)) (d8 (aX bD (aE 2) (wK (.int 2))))) (wK (.str ".*"))) (aI (a6 (bG "list" bA (aE 1) (aH (d3 (aH (wK (.str "tail")) (aH (bW aL) aL))) aL)))
 (aI (e7 2 dD (wK (.int 2)))
 aK)) (aI (bB (aN dH (a7 (aE 0) (aE 2)) (wK (.str ")"))) (aI (a6 (bG "list" bA (aE 1) (aH (d3 (aH (wK (.str "")) (aH (bW aL) aL))) aL)))
 (aI (e7 2 dD (wK (.int 1)))
 aK)) (aI (bB (aN dH (a7 (aE 0) (aE 2)) (wK (.str "."))) (aI (a6 (bG "list" bA (a7 (a7 (aE 1) (dO (wK (.int 1)))) (wK (.int 1))) (aH (d3 (aH (wK (.bool true)) (aH (bW aL) aL))) aL)))
 (aI (e7 2 dD (wK (.int 1)))
 aK)) (aI (bB (aN dH (a7 (aE 0) (aE 2)) (wK (.str "["))) (aI (mS [3,2] (aV gG (aH (aE 0) (aH (aX bD (aE 2) (wK (.int 1))) aL))))
 (aI (a6 (bG "list" bA (a7 (a7 (aE 1) (dO (wK (.int 1)))) (wK (.int 1))) (aH (aE 3) aL)))
 aK)) (aI (bB (aN B6 (a7 (aE 0) (aE 2)) (wK (.str "^$*+?{}|("))) (aI (a6 (bG "list" bA (a7 (a7 (aE 1) (dO (wK (.int 1)))) (wK (.int 1))) (aH (d3 (aH (wK (.bool false)) (aH (bW aL) aL))) aL)))
 (aI (e7 2 dD (wK (.int 1)))
 aK)) (aI (mS [4,2] (aV dU (aH (aE 0) (aH (aE 2) aL))))
 (aI (a6 (bG "list" bA (a7 (a7 (aE 1) (dO (wK (.int 1)))) (wK (.int 1))) (aH (d3 (aH (wK (.bool false)) (aH (bW (aH (d3 (aH (aE 4) (aH (aE 4) aL))) aL)) aL))) aL)))
 aK)))
 aK))
 aK))
 aK))
 aK))
 aK))
 aK))
 (aI (dG (aE 1))
 aK))))
noncomputable def jC : gF := eV 1 yO
theorem qH {G : Gl} (Tt : Tp G) {n : Nat} (h_law_set : bS G n "_law_set" gG) (h_law_one : bS G n "_law_one" dU) : bS G (n + 1) "_law_rows" jC := by
 obtain ⟨a_law_set,m_law_set,l_law_set,k_law_set⟩ := h_law_set;obtain ⟨a_law_one,m_law_one,l_law_one,k_law_one⟩ := h_law_one;have Ff := Tt.fn 13;conv at Ff => pattern cH 13;whnf
 obtain ⟨a,o,pm,code,doc,h1,h2,h3,h4⟩ := Ff _ rfl;have nd : (["text","rows","k","item","sign"] : List Str).Nodup := aT (by decide +kernel);refine b7 Tt h1 h2 h3 h4 (names := ["text","rows","k","item","sign"]) (k := 1) (rU fun _ => rfl) ?_ (aT rfl) nd rfl rfl rfl fun Lx => ?_
 · exact fc (.inl rfl) fz
 · exact (Ss.cons (S.st nd (E.list (L.cons (E.tup (L.cons E.kStr (L.cons (E.list L.nil) L.nil))) L.nil)))
 (Ss.cons (S.st nd E.kInt)
 (Ss.cons (S.while (T.cmp E.loc (E.bin (E.call (E.bi Tt) bC.builtin K.len (L.cons E.loc L.nil)) E.kInt B.sub) C.lt) (Ss.cons (S.ifS (T.cmp (E.slice E.loc (Pt.at E.loc) (Pt.at (E.bin E.loc E.kInt B.add)) (fun _ _ => rfl)) E.kStr C.eq) (Ss.cons (S.expr (E.meth cF K.append E.loc (L.cons (E.tup (L.cons E.kStr (L.cons (E.list L.nil) L.nil))) L.nil) rfl rfl rfl rfl rfl) rfl rfl)
 (Ss.cons (S.aug rfl nd rfl rfl (Or.inl rfl) E.kInt IP.add)
 Ss.nil)) (Ss.cons (S.ifS (T.cmp (E.slice E.loc (Pt.at E.loc) (Pt.at (E.bin E.loc E.kInt B.add)) (fun _ _ => rfl)) E.kStr C.eq) (Ss.cons (S.expr (E.meth cF K.append E.loc (L.cons (E.tup (L.cons E.kStr (L.cons (E.list L.nil) L.nil))) L.nil) rfl rfl rfl rfl rfl) rfl rfl)
 (Ss.cons (S.aug rfl nd rfl rfl (Or.inl rfl) E.kInt IP.add)
 Ss.nil)) (Ss.cons (S.ifS (T.cmp (E.get E.loc E.loc) E.kStr C.eq) (Ss.cons (S.expr (E.meth cF K.append E.loc (L.cons (E.tup (L.cons E.kStr (L.cons (E.list L.nil) L.nil))) L.nil) rfl rfl rfl rfl rfl) rfl rfl)
 (Ss.cons (S.aug rfl nd rfl rfl (Or.inl rfl) E.kInt IP.add)
 Ss.nil)) (Ss.cons (S.ifS (T.cmp (E.get E.loc E.loc) E.kStr C.eq) (Ss.cons (S.expr (E.meth cF K.append (E.get (E.get E.loc (E.neg E.kInt)) E.kInt) (L.cons (E.tup (L.cons E.kBool (L.cons (E.list L.nil) L.nil))) L.nil) rfl rfl rfl rfl rfl) rfl rfl)
 (Ss.cons (S.aug rfl nd rfl rfl (Or.inl rfl) E.kInt IP.add)
 Ss.nil)) (Ss.cons (S.ifS (T.cmp (E.get E.loc E.loc) E.kStr C.eq) (Ss.cons (S.unp rfl nd (.cons rfl (.inl rfl) (.cons rfl (.inl rfl) .nil)) (E.call (E.gl Tt m_law_set) l_law_set k_law_set (L.cons E.loc (L.cons (E.bin E.loc E.kInt B.add) L.nil))) rfl rfl)
 (Ss.cons (S.expr (E.meth cF K.append (E.get (E.get E.loc (E.neg E.kInt)) E.kInt) (L.cons E.loc L.nil) rfl rfl rfl rfl rfl) rfl rfl)
 Ss.nil)) (Ss.cons (S.ifS (T.cmp (E.get E.loc E.loc) E.kStr C.in_) (Ss.cons (S.expr (E.meth cF K.append (E.get (E.get E.loc (E.neg E.kInt)) E.kInt) (L.cons (E.tup (L.cons E.kBool (L.cons (E.list L.nil) L.nil))) L.nil) rfl rfl rfl rfl rfl) rfl rfl)
 (Ss.cons (S.aug rfl nd rfl rfl (Or.inl rfl) E.kInt IP.add)
 Ss.nil)) (Ss.cons (S.unp rfl nd (.cons rfl (.inl rfl) (.cons rfl (.inl rfl) .nil)) (E.call (E.gl Tt m_law_one) l_law_one k_law_one (L.cons E.loc (L.cons E.loc L.nil))) rfl rfl)
 (Ss.cons (S.expr (E.meth cF K.append (E.get (E.get E.loc (E.neg E.kInt)) E.kInt) (L.cons (E.tup (L.cons E.kBool (L.cons (E.list (L.cons (E.tup (L.cons E.loc (L.cons E.loc L.nil))) L.nil)) L.nil))) L.nil) rfl rfl rfl rfl rfl) rfl rfl)
 Ss.nil)))
 Ss.nil))
 Ss.nil))
 Ss.nil))
 Ss.nil))
 Ss.nil))
 Ss.nil))
 (Ss.cons (S.ret E.loc)
 Ss.nil))))
noncomputable def yP : WS := (aI (bB (rM (aN fW (aE 2) (wK (.int 0))) (aN rL (aX bD (aE 2) (aV cZ (aH (aE 0) aL))) (aV cZ (aH (aE 1) aL)))) (aI (dG (wK (.bool false)))
 aK) aK)
 (aI (kI (.nm 3) (dJ (dZ (aH (aV cZ (aH (aE 0) aL)) aL))) (aI (mS [4,5] (a7 (aE 0) (aE 3)))
 (aI (aW 6 (kD lM (e8 (.tp [0,1]) (hJ (aE 5)) [none,none,some 1,some 2,some 3] (oZ vD vD (aE 0) (a7 (aE 2) (aX bD (aE 3) (aE 4))) (aE 1)) (aE 0)) (bW aL)))
 (aI (bB (aN dH (aE 6) (aE 4)) (aI (dG (wK (.bool false)))
 aK) aK)
 aK))))
 (aI (dG (wK (.bool true)))
 aK)))
noncomputable def cY : gF := eV 3 yP
theorem qI {G : Gl} (Tt : Tp G) {n : Nat} : bS G (n + 1) "_law_fits" cY := by
 have Ff := Tt.fn 14;conv at Ff => pattern cH 14;whnf
 obtain ⟨a,o,pm,code,doc,h1,h2,h3,h4⟩ := Ff _ rfl;have nd : (["items","name","at","k","barred","pairs","inside"] : List Str).Nodup := aT (by decide +kernel);refine b7 Tt h1 h2 h3 h4 (names := ["items","name","at","k","barred","pairs","inside"]) (k := 3) (Ft fun _ _ _ => rfl) ?_ (aT rfl) nd rfl rfl rfl fun Lx => ?_
 · exact fc (.inl rfl) (fc (.inr rfl) (fc (.inr rfl) fz))
 · exact (Ss.cons (S.ifS (T.or (T.cmp E.loc E.kInt C.lt) (T.cmp (E.bin E.loc (E.call (E.bi Tt) bC.builtin K.len (L.cons E.loc L.nil)) B.add) (E.call (E.bi Tt) bC.builtin K.len (L.cons E.loc L.nil)) C.gt)) (Ss.cons (S.ret E.kBool)
 Ss.nil) Ss.nil)
 (Ss.cons (S.for (t := (.nm 3)) (tgt := fun _ => True) rfl nd (.nm rfl (Or.inr (And.intro rfl rfl))) trivial (I.range (R.call Tt.O (E.bi Tt) (L.cons (E.call (E.bi Tt) bC.builtin K.len (L.cons E.loc L.nil)) L.nil) rfl rfl rfl)) (Ss.cons (S.unp rfl nd (.cons rfl (.inl rfl) (.cons rfl (.inl rfl) .nil)) (E.get E.loc E.loc) rfl rfl)
 (Ss.cons (S.st nd (E.cmp (E.comp (ns := ["low","high","name","at","k"]) (cap := [none,none,some 1,some 2,some 3]) (t := (.tp [0,1])) (tgt := fun _ => True) (dP.of rfl rfl rfl) trivial (I.over E.loc) (fun _ => (F.one (T.chain E.loc (E.get E.loc (E.bin E.loc E.loc B.add)) E.loc C.le C.le rfl))) (fun _ => E.loc) (fun _ => rfl)) (E.list L.nil) C.ne rfl))
 (Ss.cons (S.ifS (T.cmp E.loc E.loc C.eq) (Ss.cons (S.ret E.kBool)
 Ss.nil) Ss.nil)
 Ss.nil))) (fun _ => rfl))
 (Ss.cons (S.ret E.kBool)
 Ss.nil)))
noncomputable def wJ : WS := (aI (bB (rM (aN lM (fZ (aE 0) kF (d8 (wK (.int 4)))) (wK (.str "(?s:"))) (aN lM (fZ (aE 0) (d8 (dO (wK (.int 3)))) kF) (wK (.str ")\\Z")))) (aI (dG (wK .none))
 aK) aK)
 (aI (aW 2 (wK (.int 0)))
 (aI (kI (.tp [3,4]) (hJ (aV jC (aH (aE 0) aL))) (aI (bB (aN dH (aE 3) (wK (.str "tail"))) (aI (dG (B9 (kD Es (aX fN (aV cZ (aH (aE 1) aL)) (aV cZ (aH (aE 4) aL))) (aE 2)) (aV cY (aH (aE 4) (aH (aE 1) (aH (aX fN (aV cZ (aH (aE 1) aL)) (aV cZ (aH (aE 4) aL))) aL))))))
 aK) aK)
 (aI (bB (aN dH (aE 3) (wK (.str "held"))) (aI (cP (dF (aN fW (aE 2) (aV cZ (aH (aE 1) aL))) (eR (cD (aV cY (aH (aE 4) (aH (aE 1) (aH (aE 2) aL))))))) (aI (e7 2 dD (wK (.int 1)))
 aK))
 aK) aK)
 (aI (bB (eR (cD (aV cY (aH (aE 4) (aH (aE 1) (aH (aE 2) aL)))))) (aI (dG (wK (.bool false)))
 aK) aK)
 (aI (e7 2 dD (aV cZ (aH (aE 4) aL)))
 aK)))))
 (aI (dG (kD dH (aE 2) (aV cZ (aH (aE 1) aL))))
 aK))))
noncomputable def cS : gF := eV 2 wJ
theorem oS {G : Gl} (Tt : Tp G) {n : Nat} (h_law_rows : bS G n "_law_rows" jC) (h_law_fits : bS G n "_law_fits" cY) : bS G (n + 1) "_law_takes" cS := by
 obtain ⟨a_law_rows,m_law_rows,l_law_rows,k_law_rows⟩ := h_law_rows;obtain ⟨a_law_fits,m_law_fits,l_law_fits,k_law_fits⟩ := h_law_fits;have Ff := Tt.fn 15;conv at Ff => pattern cH 15;whnf
 obtain ⟨a,o,pm,code,doc,h1,h2,h3,h4⟩ := Ff _ rfl;have nd : (["text","name","at","kind","items"] : List Str).Nodup := aT (by decide +kernel);refine b7 Tt h1 h2 h3 h4 (names := ["text","name","at","kind","items"]) (k := 2) (qE fun _ _ => rfl) ?_ (aT rfl) nd rfl rfl rfl fun Lx => ?_
 · exact fc (.inl rfl) (fc (.inl rfl) fz)
 · exact (Ss.cons (S.ifS (T.or (T.cmp (E.slice E.loc Pt.no (Pt.at E.kInt) (fun _ _ => rfl)) E.kStr C.ne) (T.cmp (E.slice E.loc (Pt.at (E.neg E.kInt)) Pt.no (fun _ _ => rfl)) E.kStr C.ne)) (Ss.cons (S.ret E.kNone)
 Ss.nil) Ss.nil)
 (Ss.cons (S.st nd E.kInt)
 (Ss.cons (S.for (t := (.tp [3,4])) (tgt := fun _ => True) rfl nd (.tp (.cons rfl (.inl rfl) (.cons rfl (.inl rfl) .nil))) trivial (I.over (E.call (E.gl Tt m_law_rows) l_law_rows k_law_rows (L.cons E.loc L.nil))) (Ss.cons (S.ifS (T.cmp E.loc E.kStr C.eq) (Ss.cons (S.ret (E.and (E.cmp (E.bin (E.call (E.bi Tt) bC.builtin K.len (L.cons E.loc L.nil)) (E.call (E.bi Tt) bC.builtin K.len (L.cons E.loc L.nil)) B.sub) E.loc C.ge rfl) (E.call (E.gl Tt m_law_fits) l_law_fits k_law_fits (L.cons E.loc (L.cons E.loc (L.cons (E.bin (E.call (E.bi Tt) bC.builtin K.len (L.cons E.loc L.nil)) (E.call (E.bi Tt) bC.builtin K.len (L.cons E.loc L.nil)) B.sub) L.nil))))))
 Ss.nil) Ss.nil)
 (Ss.cons (S.ifS (T.cmp E.loc E.kStr C.eq) (Ss.cons (S.while (T.and (T.cmp E.loc (E.call (E.bi Tt) bC.builtin K.len (L.cons E.loc L.nil)) C.lt) (T.not (T.val (E.call (E.gl Tt m_law_fits) l_law_fits k_law_fits (L.cons E.loc (L.cons E.loc (L.cons E.loc L.nil)))) (fun _ => rfl)))) (Ss.cons (S.aug rfl nd rfl rfl (Or.inl rfl) E.kInt IP.add)
 Ss.nil))
 Ss.nil) Ss.nil)
 (Ss.cons (S.ifS (T.not (T.val (E.call (E.gl Tt m_law_fits) l_law_fits k_law_fits (L.cons E.loc (L.cons E.loc (L.cons E.loc L.nil)))) (fun _ => rfl))) (Ss.cons (S.ret E.kBool)
 Ss.nil) Ss.nil)
 (Ss.cons (S.aug rfl nd rfl rfl (Or.inl rfl) (E.call (E.bi Tt) bC.builtin K.len (L.cons E.loc L.nil)) IP.add)
 Ss.nil)))) (fun _ => rfl))
 (Ss.cons (S.ret (E.cmp E.loc (E.call (E.bi Tt) bC.builtin K.len (L.cons E.loc L.nil)) C.eq rfl))
 Ss.nil))))
noncomputable def yQ : WS := (aI (aW 3 (bW aL))
 (aI (kI (.nm 4) (dJ (dZ (aH (aV cZ (aH (aE 0) aL)) aL))) (aI (aW 5 (a7 (aE 0) (aE 4)))
 (aI (aW 6 (aX pF (aX bD (aE 2) (aE 4)) (wK (.int 4))))
 (aI (bB (aN dH (aE 6) (wK (.int 2))) (aI (a6 (bG "list" bA (aE 3) (aH (aX bD (aX bD (wK (.str "[!")) (bG "str" hM (wK (.str "")) (aH (e8 (.nm 0) (hJ (aE 1)) [none,some 5] (aN lM (aE 0) (aE 1)) (aE 0)) aL))) (wK (.str "]"))) aL)))
 aK) (aI (bB (dF (aN dH (aE 6) (wK (.int 3))) (aN lM (aE 5) (wK (.str "]")))) (aI (a6 (bG "list" bA (aE 3) (aH (aX bD (aX bD (aX bD (aX bD (wK (.str "[")) (aE 5)) (wK (.str "-"))) (aE 5)) (wK (.str "]"))) aL)))
 aK) (aI (bB (dF (aN dH (aE 6) (wK (.int 0))) (aN iD (aE 5) (wK (.str "*?[")))) (aI (a6 (bG "list" bA (aE 3) (aH (aE 5) aL)))
 aK) (aI (a6 (bG "list" bA (aE 3) (aH (aX bD (aX bD (wK (.str "[")) (aE 5)) (wK (.str "]"))) aL)))
 aK))
 aK))
 aK))
 aK))))
 (aI (dG (bG "str" hM (wK (.str "")) (aH (aE 3) aL)))
 aK)))
noncomputable def eA : gF := eV 3 yQ
theorem qJ {G : Gl} (Tt : Tp G) {n : Nat} : bS G (n + 1) "_law_glob" eA := by
 have Ff := Tt.fn 16;conv at Ff => pattern cH 16;whnf
 obtain ⟨a,o,pm,code,doc,h1,h2,h3,h4⟩ := Ff _ rfl;have nd : (["part","alphabet","at","items","k","sign","form"] : List Str).Nodup := aT (by decide +kernel);refine b7 Tt h1 h2 h3 h4 (names := ["part","alphabet","at","items","k","sign","form"]) (k := 3) (Ft fun _ _ _ => rfl) ?_ (aT rfl) nd rfl rfl rfl fun Lx => ?_
 · exact fc (.inl rfl) (fc (.inl rfl) (fc (.inl rfl) fz))
 · exact (Ss.cons (S.st nd (E.list L.nil))
 (Ss.cons (S.for (t := (.nm 4)) (tgt := fun _ => True) rfl nd (.nm rfl (Or.inl rfl)) trivial (I.range (R.call Tt.O (E.bi Tt) (L.cons (E.call (E.bi Tt) bC.builtin K.len (L.cons E.loc L.nil)) L.nil) rfl rfl rfl)) (Ss.cons (S.set rfl nd rfl (Or.inr (And.intro rfl rfl)) (E.get E.loc E.loc) rfl)
 (Ss.cons (S.st nd (E.bin (E.bin E.loc E.loc B.add) E.kInt B.mod))
 (Ss.cons (S.ifS (T.cmp E.loc E.kInt C.eq) (Ss.cons (S.expr (E.meth cF K.append E.loc (L.cons (E.bin (E.bin E.kStr (E.meth mW K.join E.kStr (L.cons (E.comp (ns := ["other","sign"]) (cap := [none,some 5]) (t := (.nm 0)) (tgt := fun _ => True) (dP.of rfl rfl rfl) trivial (I.over E.loc) (fun _ => (F.one (T.cmp E.loc E.loc C.ne))) (fun _ => E.loc) (fun _ => rfl)) L.nil) rfl rfl rfl rfl rfl) B.add) E.kStr B.add) L.nil) rfl rfl rfl rfl rfl) rfl rfl)
 Ss.nil) (Ss.cons (S.ifS (T.and (T.cmp E.loc E.kInt C.eq) (T.cmp E.loc E.kStr C.ne)) (Ss.cons (S.expr (E.meth cF K.append E.loc (L.cons (E.bin (E.bin (E.bin (E.bin E.kStr E.loc B.add) E.kStr B.add) E.loc B.add) E.kStr B.add) L.nil) rfl rfl rfl rfl rfl) rfl rfl)
 Ss.nil) (Ss.cons (S.ifS (T.and (T.cmp E.loc E.kInt C.eq) (T.cmp E.loc E.kStr C.notIn)) (Ss.cons (S.expr (E.meth cF K.append E.loc (L.cons E.loc L.nil) rfl rfl rfl rfl rfl) rfl rfl)
 Ss.nil) (Ss.cons (S.expr (E.meth cF K.append E.loc (L.cons (E.bin (E.bin E.kStr E.loc B.add) E.kStr B.add) L.nil) rfl rfl rfl rfl rfl) rfl rfl)
 Ss.nil))
 Ss.nil))
 Ss.nil))
 Ss.nil))) (fun _ => rfl))
 (Ss.cons (S.ret (E.meth mW K.join E.kStr (L.cons E.loc L.nil) rfl rfl rfl rfl rfl))
 Ss.nil)))
noncomputable def yR : WS := (aI (aW 1 (bW aL))
 (aI (aW 2 (bW aL))
 (aI (cP (cD (aE 0)) (aI (aW 3 (a7 (aV iQ (aH (aE 0) aL)) (wK (.int 1))))
 (aI (a6 (bG "list" bA (aE 1) (aH (aE 3) aL)))
 (aI (bB (rM (aN dH (aE 2) (bW aL)) (aN fW (aE 3) (a7 (aE 2) (dO (wK (.int 1)))))) (aI (a6 (bG "list" bA (aE 2) (aH (aE 3) aL)))
 aK) aK)
 aK))))
 (aI (dG (d3 (aH (aE 1) (aH (aE 2) aL))))
 aK))))
noncomputable def jD : gF := eV 1 yR
theorem qK {G : Gl} (Tt : Tp G) {n : Nat} (h_heappop : bS G n "heappop" iQ) : bS G (n + 1) "_law_ends" jD := by
 obtain ⟨a_heappop,m_heappop,l_heappop,k_heappop⟩ := h_heappop;have Ff := Tt.fn 17;conv at Ff => pattern cH 17;whnf
 obtain ⟨a,o,pm,code,doc,h1,h2,h3,h4⟩ := Ff _ rfl;have nd : (["heap","order","starts","place"] : List Str).Nodup := aT (by decide +kernel);refine b7 Tt h1 h2 h3 h4 (names := ["heap","order","starts","place"]) (k := 1) (rU fun _ => rfl) ?_ (aT rfl) nd rfl rfl rfl fun Lx => ?_
 · exact fc (.inl rfl) fz
 · exact (Ss.cons (S.st nd (E.list L.nil))
 (Ss.cons (S.st nd (E.list L.nil))
 (Ss.cons (S.while (T.val E.loc (fun _ => rfl)) (Ss.cons (S.st nd (E.get (E.call (E.gl Tt m_heappop) l_heappop k_heappop (L.cons E.loc L.nil)) E.kInt))
 (Ss.cons (S.expr (E.meth cF K.append E.loc (L.cons E.loc L.nil) rfl rfl rfl rfl rfl) rfl rfl)
 (Ss.cons (S.ifS (T.or (T.cmp E.loc (E.list L.nil) C.eq) (T.cmp E.loc (E.get E.loc (E.neg E.kInt)) C.lt)) (Ss.cons (S.expr (E.meth cF K.append E.loc (L.cons E.loc L.nil) rfl rfl rfl rfl rfl) rfl rfl)
 Ss.nil) Ss.nil)
 Ss.nil))))
 (Ss.cons (S.ret (E.tup (L.cons E.loc (L.cons E.loc L.nil))))
 Ss.nil))))
noncomputable def wL : WS := (aI (bB (aN dH (aE 1) (wK (.int 1))) (aI (dG (d3 (aH (aX bD (aE 0) (bW (aH (wK (.int 127)) (aH (wK (.int 1)) aL)))) (aH (aE 0) aL))))
 aK) aK)
 (aI (bB (aN dH (aE 1) (wK (.int 2))) (aI (dG (d3 (aH (aE 0) (aH (aE 0) aL))))
 aK) aK)
 (aI (aW 2 (aV E1 (aH (aE 0) aL)))
 (aI (cP (dF (aN rL (aV cZ (aH (aE 2) aL)) (wK (.int 1))) (aN dH (a7 (aE 2) (dO (wK (.int 2)))) (a7 (aE 2) (dO (wK (.int 1)))))) (aI (a6 (bG "list" E0 (aE 2) aL))
 aK))
 (aI (dG (d3 (aH (aX bD (aE 2) (bW (aH (wK (.int 0)) (aH (wK (.int 3)) aL)))) (aH (aX bD (aE 0) (aX rJ (bW (aH (a7 (aE 0) (dO (wK (.int 1)))) aL)) (wK (.int 2)))) aL))))
 aK)))))
noncomputable def hV : gF := eV 2 wL
theorem oU {G : Gl} (Tt : Tp G) {n : Nat} : bS G (n + 1) "_law_ruler" hV := by
 have Ff := Tt.fn 18;conv at Ff => pattern cH 18;whnf
 obtain ⟨a,o,pm,code,doc,h1,h2,h3,h4⟩ := Ff _ rfl;have nd : (["sizes","way","kept"] : List Str).Nodup := aT (by decide +kernel);refine b7 Tt h1 h2 h3 h4 (names := ["sizes","way","kept"]) (k := 2) (qE fun _ _ => rfl) ?_ (aT rfl) nd rfl rfl rfl fun Lx => ?_
 · exact fc (.inl rfl) (fc (.inl rfl) fz)
 · exact (Ss.cons (S.ifS (T.cmp E.loc E.kInt C.eq) (Ss.cons (S.ret (E.tup (L.cons (E.bin E.loc (E.list (L.cons E.kInt (L.cons E.kInt L.nil))) B.add) (L.cons E.loc L.nil))))
 Ss.nil) Ss.nil)
 (Ss.cons (S.ifS (T.cmp E.loc E.kInt C.eq) (Ss.cons (S.ret (E.tup (L.cons E.loc (L.cons E.loc L.nil))))
 Ss.nil) Ss.nil)
 (Ss.cons (S.st nd (E.call (E.bi Tt) bC.type K.list (L.cons E.loc L.nil)))
 (Ss.cons (S.while (T.and (T.cmp (E.call (E.bi Tt) bC.builtin K.len (L.cons E.loc L.nil)) E.kInt C.gt) (T.cmp (E.get E.loc (E.neg E.kInt)) (E.get E.loc (E.neg E.kInt)) C.eq)) (Ss.cons (S.expr (E.meth0 Ka K.pop E.loc rfl rfl) rfl rfl)
 Ss.nil))
 (Ss.cons (S.ret (E.tup (L.cons (E.bin E.loc (E.list (L.cons E.kInt (L.cons E.kInt L.nil))) B.add) (L.cons (E.bin E.loc (E.bin (E.list (L.cons (E.get E.loc (E.neg E.kInt)) L.nil)) E.kInt B.mul) B.add) L.nil))))
 Ss.nil)))))
noncomputable def C9 : WS := (aI (aW 2 (bW aL))
 (aI (kI (.nm 3) (hJ (aE 1)) (aI (a6 (bG "list" bA (aE 2) (aH (fZ (aE 0) (d8 (dO (aE 3))) kF) aL)))
 (aI (aW 0 (fZ (aE 0) kF (d8 (dO (aE 3)))))
 aK)))
 (aI (a6 (bG "list" pQ (aE 2) aL))
 (aI (dG (aE 2))
 aK))))
noncomputable def j6 : gF := eV 2 C9
theorem r7 {G : Gl} (Tt : Tp G) {n : Nat} : bS G (n + 1) "_law_cut" j6 := by
 have Ff := Tt.fn 20;conv at Ff => pattern cH 20;whnf
 obtain ⟨a,o,pm,code,doc,h1,h2,h3,h4⟩ := Ff _ rfl;have nd : (["text","sizes","parts","size"] : List Str).Nodup := aT (by decide +kernel);refine b7 Tt h1 h2 h3 h4 (names := ["text","sizes","parts","size"]) (k := 2) (qE fun _ _ => rfl) ?_ (aT rfl) nd rfl rfl rfl fun Lx => ?_
 · exact fc (.inl rfl) (fc (.inl rfl) fz)
 · exact (Ss.cons (S.st nd (E.list L.nil))
 (Ss.cons (S.for (t := (.nm 3)) (tgt := fun _ => True) rfl nd (.nm rfl (Or.inl rfl)) trivial (I.over E.loc) (Ss.cons (S.expr (E.meth cF K.append E.loc (L.cons (E.slice E.loc (Pt.at (E.neg E.loc)) Pt.no (fun _ _ => rfl)) L.nil) rfl rfl rfl rfl rfl) rfl rfl)
 (Ss.cons (S.st nd (E.slice E.loc Pt.no (Pt.at (E.neg E.loc)) (fun _ _ => rfl)))
 Ss.nil)) (fun _ => rfl))
 (Ss.cons (S.expr (E.meth0 Cg K.reverse E.loc rfl rfl) rfl rfl)
 (Ss.cons (S.ret E.loc)
 Ss.nil))))
noncomputable def wM : WS := (aI (aW 1 (bW aL))
 (aI (cP (cD (aE 0)) (aI (aW 2 (aV cZ (aH (aE 0) aL)))
 (aI (cP (aN lM (e8 (.nm 0) (dJ (dZ (aH (wK (.int 1)) (aH (aE 2) aL)))) [none,some 0,some 2] (aN vD (fZ (aE 1) (d8 (aE 0)) (d8 (aE 2))) (fZ (aE 1) kF (d8 (aE 2)))) (aE 0)) (bW aL)) (aI (e7 2 vG (wK (.int 1)))
 aK))
 (aI (a6 (bG "list" bA (aE 1) (aH (fZ (aE 0) kF (d8 (aE 2))) aL)))
 (aI (aW 0 (fZ (aE 0) (d8 (aE 2)) kF))
 aK)))))
 (aI (dG (aE 1))
 aK)))
noncomputable def hW : gF := eV 1 wM
theorem oV {G : Gl} (Tt : Tp G) {n : Nat} : bS G (n + 1) "_law_parts" hW := by
 have Ff := Tt.fn 21;conv at Ff => pattern cH 21;whnf
 obtain ⟨a,o,pm,code,doc,h1,h2,h3,h4⟩ := Ff _ rfl;have nd : (["text","parts","size"] : List Str).Nodup := aT (by decide +kernel);refine b7 Tt h1 h2 h3 h4 (names := ["text","parts","size"]) (k := 1) (rU fun _ => rfl) ?_ (aT rfl) nd rfl rfl rfl fun Lx => ?_
 · exact fc (.inr rfl) fz
 · exact (Ss.cons (S.st nd (E.list L.nil))
 (Ss.cons (S.while (T.val E.loc (fun _ => rfl)) (Ss.cons (S.set rfl nd rfl (Or.inr (And.intro rfl rfl)) (E.call (E.bi Tt) bC.builtin K.len (L.cons E.loc L.nil)) rfl)
 (Ss.cons (S.while (T.cmp (E.comp (ns := ["k","text","size"]) (cap := [none,some 0,some 2]) (t := (.nm 0)) (tgt := fun _ => True) (dP.of rfl rfl rfl) trivial (I.range (R.call Tt.O (E.bi Tt) (L.cons E.kInt (L.cons E.loc L.nil)) rfl rfl rfl)) (fun _ => (F.one (T.cmp (E.slice E.loc (Pt.at E.loc) (Pt.at E.loc) (fun _ _ => rfl)) (E.slice E.loc Pt.no (Pt.at E.loc) (fun _ _ => rfl)) C.le))) (fun _ => E.loc) (fun _ => rfl)) (E.list L.nil) C.ne) (Ss.cons (S.aug rfl nd rfl rfl (Or.inr (And.intro rfl rfl)) E.kInt IP.sub)
 Ss.nil))
 (Ss.cons (S.expr (E.meth cF K.append E.loc (L.cons (E.slice E.loc Pt.no (Pt.at E.loc) (fun _ _ => rfl)) L.nil) rfl rfl rfl rfl rfl) rfl rfl)
 (Ss.cons (S.set rfl nd rfl (Or.inr (And.intro rfl rfl)) (E.slice E.loc (Pt.at E.loc) Pt.no (fun _ _ => rfl)) rfl)
 Ss.nil)))))
 (Ss.cons (S.ret E.loc)
 Ss.nil)))
noncomputable def qL : WS := (aI (aW 3 (bW (aH (aV iR (aH (aE 0) (aH (aE 1) aL))) (aH (aV iR (aH (aE 1) (aH (aE 0) aL))) aL))))
 (aI (dG (B9 (kD dH (aE 3) (bW (aH (aE 2) (aH (dO (aE 2)) aL)))) (kD dH (e8 (.nm 0) (hJ (aE 3)) [none] (cD (aV tO (aH (aE 0) (aH (wK (.val (.type "bool"))) aL)))) (aE 0)) (bW aL))))
 aK))
noncomputable def cT : gF := eV 3 qL
theorem lF {G : Gl} (Tt : Tp G) {n : Nat} (h_strcoll : bS G n "_strcoll" iR) : bS G (n + 1) "_law_compared" cT := by
 obtain ⟨a_strcoll,m_strcoll,l_strcoll,k_strcoll⟩ := h_strcoll;have Ff := Tt.fn 22;conv at Ff => pattern cH 22;whnf
 obtain ⟨a,o,pm,code,doc,h1,h2,h3,h4⟩ := Ff _ rfl;have nd : (["one","other","due","told"] : List Str).Nodup := aT (by decide +kernel);refine b7 Tt h1 h2 h3 h4 (names := ["one","other","due","told"]) (k := 3) (Ft fun _ _ _ => rfl) ?_ (aT rfl) nd rfl rfl rfl fun Lx => ?_
 · exact fc (.inl rfl) (fc (.inl rfl) (fc (.inl rfl) fz))
 · exact (Ss.cons (S.st nd (E.list (L.cons (E.call (E.gl Tt m_strcoll) l_strcoll k_strcoll (L.cons E.loc (L.cons E.loc L.nil))) (L.cons (E.call (E.gl Tt m_strcoll) l_strcoll k_strcoll (L.cons E.loc (L.cons E.loc L.nil))) L.nil))))
 (Ss.cons (S.ret (E.and (E.cmp E.loc (E.list (L.cons E.loc (L.cons (E.neg E.loc) L.nil))) C.eq rfl) (E.cmp (E.comp (ns := ["x"]) (cap := [none]) (t := (.nm 0)) (tgt := fun _ => True) (dP.of rfl rfl rfl) trivial (I.over E.loc) (fun _ => (F.one (T.val (E.call (E.bi Tt) bC.builtin K.isinstance (L.cons E.loc (L.cons (E.bi Tt) L.nil))) (fun _ => rfl)))) (fun _ => E.loc) (fun _ => rfl)) (E.list L.nil) C.eq rfl)))
 Ss.nil))
noncomputable def iS : WS := (aI (aW 2 (bW aL))
 (aI (aW 3 (pS (aE 2)))
 (aI (Ew 4 5 (d3 (aH (wK (.int 0)) (aH (aV cZ (aH (aE 0) aL)) aL))))
 (aI (cP (dF (aN fW (aE 4) (aE 5)) (aN d4 (a7 (aE 0) (aE 4)) (aE 1))) (aI (a6 (bK (aE 3) (a7 (aE 0) (aE 4))))
 (aI (e7 4 dD (wK (.int 1)))
 aK)))
 (aI (cP (aN fW (aE 4) (aE 5)) (aI (i5 (aN Mc (a7 (aE 0) (aE 4)) (aE 1)))
 (aI (e7 4 dD (wK (.int 1)))
 (aI (bB (aN dH (aE 4) (aE 5)) (aI (a6 (bK (aE 3) (wK (.str ".*"))))
 (aI oK
 aK)) aK)
 (aI (i5 (aN d4 (a7 (aE 0) (aE 4)) (aE 1)))
 (aI (aW 6 (bW aL))
 (aI (cP (dF (aN fW (aE 4) (aE 5)) (aN d4 (a7 (aE 0) (aE 4)) (aE 1))) (aI (a6 (bG "list" bA (aE 6) (aH (a7 (aE 0) (aE 4)) aL)))
 (aI (e7 4 dD (wK (.int 1)))
 aK)))
 (aI (aW 6 (bG "str" hM (wK (.str "")) (aH (aE 6) aL)))
 (aI (bB (aN dH (aE 4) (aE 5)) (aI (a6 (bK (aE 3) (wK (.str ".*"))))
 (aI (a6 (bK (aE 3) (aE 6)))
 aK)) (aI (a6 (bK (aE 3) (kR (d0 "(?>.*?" (kQ (aE 6) (d0 ")" kP))))))
 aK))
 aK)))))))))
 (aI (i5 (aN dH (aE 4) (aE 5)))
 (aI (aW 2 (bG "str" hM (wK (.str "")) (aH (aE 2) aL)))
 (aI (dG (kR (d0 "(?s:" (kQ (aE 2) (d0 ")\\Z" kP)))))
 aK))))))))
noncomputable def cW : gF := eV 2 iS
theorem gC {G : Gl} (Tt : Tp G) {n : Nat} : bS G (n + 1) "_join_translated_parts" cW := by
 have Ff := Tt.fn 6;conv at Ff => pattern cH 6;whnf
 obtain ⟨a,o,pm,code,doc,h1,h2,h3,h4⟩ := Ff _ rfl;have nd : (["inp","STAR","res","add","i","n","fixed"] : List Str).Nodup := aT (by decide +kernel);refine b7 Tt h1 h2 h3 h4 (names := ["inp","STAR","res","add","i","n","fixed"]) (k := 2) (qE fun _ _ => rfl) ?_ (aT rfl) nd rfl rfl rfl fun Lx => ?_
 · exact fc (.inl rfl) (fc (.inl rfl) fz)
 · exact (Ss.cons (S.st nd (E.list L.nil))
 (Ss.cons (S.st nd (E.attrApp E.loc))
 (Ss.cons (S.swap rfl nd rfl rfl (Or.inl rfl) (Or.inl rfl) (E.tup (L.cons E.kInt (L.cons (E.call (E.bi Tt) bC.builtin K.len (L.cons E.loc L.nil)) L.nil))) rfl rfl)
 (Ss.cons (S.while (T.and (T.cmp E.loc E.loc C.lt) (T.cmp (E.get E.loc E.loc) E.loc C.isNot)) (Ss.cons (S.expr (E.callApp E.loc (E.get E.loc E.loc) rfl rfl) rfl rfl)
 (Ss.cons (S.aug rfl nd rfl rfl (Or.inl rfl) E.kInt IP.add)
 Ss.nil)))
 (Ss.cons (S.while (T.cmp E.loc E.loc C.lt) (Ss.cons (S.assert (T.cmp (E.get E.loc E.loc) E.loc C.is))
 (Ss.cons (S.aug rfl nd rfl rfl (Or.inl rfl) E.kInt IP.add)
 (Ss.cons (S.ifS (T.cmp E.loc E.loc C.eq) (Ss.cons (S.expr (E.callApp E.loc E.kStr rfl rfl) rfl rfl)
 (Ss.cons S.brk
 Ss.nil)) Ss.nil)
 (Ss.cons (S.assert (T.cmp (E.get E.loc E.loc) E.loc C.isNot))
 (Ss.cons (S.st nd (E.list L.nil))
 (Ss.cons (S.while (T.and (T.cmp E.loc E.loc C.lt) (T.cmp (E.get E.loc E.loc) E.loc C.isNot)) (Ss.cons (S.expr (E.meth cF K.append E.loc (L.cons (E.get E.loc E.loc) L.nil) rfl rfl rfl rfl rfl) rfl rfl)
 (Ss.cons (S.aug rfl nd rfl rfl (Or.inl rfl) E.kInt IP.add)
 Ss.nil)))
 (Ss.cons (S.st nd (E.meth mW K.join E.kStr (L.cons E.loc L.nil) rfl rfl rfl rfl rfl))
 (Ss.cons (S.ifS (T.cmp E.loc E.loc C.eq) (Ss.cons (S.expr (E.callApp E.loc E.kStr rfl rfl) rfl rfl)
 (Ss.cons (S.expr (E.callApp E.loc E.loc rfl rfl) rfl rfl)
 Ss.nil)) (Ss.cons (S.expr (E.callApp E.loc (E.fstr (Fs.text (x := "(?>.*?") (by decide) (Fs.val E.loc (Fs.text (x := ")") (by decide) Fs.nil)))) rfl rfl) rfl rfl)
 Ss.nil))
 Ss.nil)))))))))
 (Ss.cons (S.assert (T.cmp E.loc E.loc C.eq))
 (Ss.cons (S.st nd (E.meth mW K.join E.kStr (L.cons E.loc L.nil) rfl rfl rfl rfl rfl))
 (Ss.cons (S.ret (E.fstr (Fs.text (x := "(?s:") (by decide) (Fs.val E.loc (Fs.text (x := ")\\Z") (by decide) Fs.nil)))))
 Ss.nil))))))))
noncomputable def Fy : WS := (aI (bB (cD (aV tO (aH (aE 0) (aH (wK (.val (.type "str"))) aL)))) (aI (dG (bG "str" Ln (aE 0) (aH (wK (.val (.ref 66))) aL)))
 aK) xP)
 aK)
noncomputable def jX : gF := eV 1 Fy
theorem uC {G : Gl} (Tt : Tp G) {n : Nat} : bS G (n + 1) "escape" jX := by
 have Ff := Tt.fn 4;conv at Ff => pattern cH 4;whnf
 obtain ⟨a,o,pm,code,doc,h1,h2,h3,h4⟩ := Ff _ rfl;refine b7 Tt h1 h2 h3 h4 (names := ["pattern"]) (k := 1) (rU fun _ => rfl) ?_ (aT rfl) (aT (by decide +kernel) : (["pattern"] : List Str).Nodup) rfl rfl rfl fun Lx => ?_
 · exact fc (.inl rfl) fz
 · exact (Ss.cons (S.ifS (T.val (E.call (E.bi Tt) bC.builtin K.isinstance (L.cons E.loc (L.cons (E.bi Tt) L.nil))) (fun _ => rfl)) (Ss.cons (S.ret (E.meth vV (K.esc Tt) E.loc (L.cons (E.glob Tt.O rfl rfl rfl Tt.map.1 (fun _ _ => VR.val) rfl) L.nil) rfl rfl rfl rfl rfl))
 Ss.nil) Ss.off)
 Ss.nil)
noncomputable def Fz : WS := (aI (aW 3 (bW aL))
 (aI (aW 4 (pS (aE 3)))
 (aI (Ew 5 6 (d3 (aH (wK (.int 0)) (aH (aV cZ (aH (aE 0) aL)) aL))))
 (aI (cP (aN fW (aE 5) (aE 6)) (aI (aW 7 (a7 (aE 0) (aE 5)))
 (aI (aW 5 (aX bD (aE 5) (wK (.int 1))))
 (aI (bB (aN dH (aE 7) (wK (.str "*"))) (aI (bB (rM (eR (cD (aE 3))) (aN d4 (a7 (aE 3) (dO (wK (.int 1)))) (aE 1))) (aI (a6 (bK (aE 4) (aE 1)))
 aK) aK)
 aK) (aI (bB (aN dH (aE 7) (wK (.str "?"))) (aI (a6 (bK (aE 4) (aE 2)))
 aK) (aI (bB (aN dH (aE 7) (wK (.str "["))) (aI (aW 8 (aE 5))
 (aI (bB (dF (aN fW (aE 8) (aE 6)) (aN dH (a7 (aE 0) (aE 8)) (wK (.str "!")))) (aI (aW 8 (aX bD (aE 8) (wK (.int 1))))
 aK) aK)
 (aI (bB (dF (aN fW (aE 8) (aE 6)) (aN dH (a7 (aE 0) (aE 8)) (wK (.str "]")))) (aI (aW 8 (aX bD (aE 8) (wK (.int 1))))
 aK) aK)
 (aI (cP (dF (aN fW (aE 8) (aE 6)) (aN lM (a7 (aE 0) (aE 8)) (wK (.str "]")))) (aI (aW 8 (aX bD (aE 8) (wK (.int 1))))
 aK))
 (aI (bB (aN Es (aE 8) (aE 6)) (aI (a6 (bK (aE 4) (wK (.str "\\["))))
 aK) (aI (aW 9 (fZ (aE 0) (d8 (aE 5)) (d8 (aE 8))))
 (aI (bB (aN iD (wK (.str "-")) (aE 9)) (aI (aW 9 (vW (aE 9) "\\" "\\\\")) aK) (aI (aW 10 (bW aL))
 (aI (aW 11 (J8 (aN dH (a7 (aE 0) (aE 5)) (wK (.str "!"))) (aX bD (aE 5) (wK (.int 2))) (aX bD (aE 5) (wK (.int 1)))))
 (aI (cP (cD (wK (.bool true))) (aI (aW 11 (bG "str" n0 (aE 0) (aH (wK (.str "-")) (aH (aE 11) (aH (aE 8) aL)))))
 (aI (bB (aN fW (aE 11) (wK (.int 0))) (aI oK
 aK) aK)
 (aI (a6 (bG "list" bA (aE 10) (aH (fZ (aE 0) (d8 (aE 5)) (d8 (aE 11))) aL)))
 (aI (aW 5 (aX bD (aE 11) (wK (.int 1))))
 (aI (aW 11 (aX bD (aE 11) (wK (.int 3))))
 aK))))))
 (aI (aW 12 (fZ (aE 0) (d8 (aE 5)) (d8 (aE 8))))
 (aI (bB (cD (aE 12)) (aI (a6 (bG "list" bA (aE 10) (aH (aE 12) aL)))
 aK) (aI (iN (aE 10) (dO (wK (.int 1))) dD (wK (.str "-")))
 aK))
 (aI (kI (.nm 11) (dJ (dZ (aH (aX fN (aV cZ (aH (aE 10) aL)) (wK (.int 1))) (aH (wK (.int 0)) (aH (dO (wK (.int 1))) aL))))) (aI (bB (aN rL (a7 (a7 (aE 10) (aX fN (aE 11) (wK (.int 1)))) (dO (wK (.int 1)))) (a7 (a7 (aE 10) (aE 11)) (wK (.int 0)))) xP aK)
 aK))
 (aI (aW 9 (iO "-" "\\" "\\\\" "-" "\\-" (aE 10)))
 aK))))))))
 (aI (aW 9 (Fe (aE 9)))
 (aI (aW 5 (aX bD (aE 8) (wK (.int 1))))
 (aI (bB (eR (cD (aE 9))) (aI (a6 (bK (aE 4) (wK (.str "(?!)"))))
 aK) (aI (bB (aN dH (aE 9) (wK (.str "!"))) (aI (a6 (bK (aE 4) (wK (.str "."))))
 aK) (aI (bB (aN dH (a7 (aE 9) (wK (.int 0))) (wK (.str "!"))) (aI (aW 9 (aX bD (wK (.str "^")) (fZ (aE 9) (d8 (wK (.int 1))) kF)))
 aK) (aI (bB (aN B6 (a7 (aE 9) (wK (.int 0))) (d3 (aH (wK (.str "^")) (aH (wK (.str "[")) aL)))) (aI (aW 9 (aX bD (wK (.str "\\")) (aE 9)))
 aK) aK)
 aK))
 (aI (a6 (bK (aE 4) (kR (d0 "[" (kQ (aE 9) (d0 "]" kP))))))
 aK)))
 aK))
 aK))))))
 aK))))) (aI (a6 (bK (aE 4) (aV jX (aH (aE 7) aL))))
 aK))
 aK))
 aK))
 aK))))
 (aI (i5 (aN dH (aE 5) (aE 6)))
 (aI (dG (aE 3))
 aK))))))
noncomputable def l8 : gF := eV 3 Fz
theorem uD {G : Gl} (Tt : Tp G) {n : Nat} (h_escape : bS G (n + 1) "escape" jX) : bS G ((n + 1) + 1) "_translate" l8 := by
 obtain ⟨a_escape,m_escape,l_escape,k_escape⟩ := h_escape;have Ff := Tt.fn 5;conv at Ff => pattern cH 5;whnf
 obtain ⟨a,o,pm,code,doc,h1,h2,h3,h4⟩ := Ff _ rfl;have hcode := Tt.cd _ a o pm code doc rfl h1 h2 h3;have nd : (["pat","STAR","QUESTION_MARK","res","add","i","n","c","j","stuff","chunks","k","chunk"] : List Str).Nodup := aT (by decide +kernel);refine b7 Tt h1 h2 h3 h4 (names := ["pat","STAR","QUESTION_MARK","res","add","i","n","c","j","stuff","chunks","k","chunk"]) (k := 3) (Ft fun _ _ _ => rfl) ?_ (aT rfl) nd rfl rfl rfl fun Lx => ?_
 · exact fc (.inl rfl) (fc (.inl rfl) (fc (.inl rfl) fz))
 · exact (Ss.cons (S.st nd (E.list L.nil))
 (Ss.cons (S.st nd (E.attrApp E.loc))
 (Ss.cons (S.swap rfl nd rfl rfl (Or.inl rfl) (Or.inl rfl) (E.tup (L.cons E.kInt (L.cons (E.call (E.bi Tt) bC.builtin K.len (L.cons E.loc L.nil)) L.nil))) rfl rfl)
 (Ss.cons (S.while (T.cmp E.loc E.loc C.lt) (Ss.cons (S.st nd (E.get E.loc E.loc))
 (Ss.cons (S.st nd (E.bin E.loc E.kInt B.add))
 (Ss.cons (S.ifS (T.cmp E.loc E.kStr C.eq) (Ss.cons (S.ifS (T.or (T.not (T.val E.loc (fun _ => rfl))) (T.cmp (E.get E.loc (E.neg E.kInt)) E.loc C.isNot)) (Ss.cons (S.expr (E.callApp E.loc E.loc rfl rfl) rfl rfl)
 Ss.nil) Ss.nil)
 Ss.nil) (Ss.cons (S.ifS (T.cmp E.loc E.kStr C.eq) (Ss.cons (S.expr (E.callApp E.loc E.loc rfl rfl) rfl rfl)
 Ss.nil) (Ss.cons (S.ifS (T.cmp E.loc E.kStr C.eq) (Ss.cons (S.st nd E.loc)
 (Ss.cons (S.ifS (T.and (T.cmp E.loc E.loc C.lt) (T.cmp (E.get E.loc E.loc) E.kStr C.eq)) (Ss.cons (S.st nd (E.bin E.loc E.kInt B.add))
 Ss.nil) Ss.nil)
 (Ss.cons (S.ifS (T.and (T.cmp E.loc E.loc C.lt) (T.cmp (E.get E.loc E.loc) E.kStr C.eq)) (Ss.cons (S.st nd (E.bin E.loc E.kInt B.add))
 Ss.nil) Ss.nil)
 (Ss.cons (S.while (T.and (T.cmp E.loc E.loc C.lt) (T.cmp (E.get E.loc E.loc) E.kStr C.ne)) (Ss.cons (S.st nd (E.bin E.loc E.kInt B.add))
 Ss.nil))
 (Ss.cons (S.ifS (T.cmp E.loc E.loc C.ge) (Ss.cons (S.expr (E.callApp E.loc E.kStr rfl rfl) rfl rfl)
 Ss.nil) (Ss.cons (S.st nd (E.slice E.loc (Pt.at E.loc) (Pt.at E.loc) (fun _ _ => rfl)))
 (Ss.cons (S.if1 (by decide) E.loc C.notIn rfl (Ss.set1 rfl nd rfl (Or.inl rfl) (E.replace1 (aP.up E.loc) rfl (by decide) rfl rfl) rfl) (dY.up (Ss.cons (S.st nd (E.list L.nil))
 (Ss.cons (S.st nd (E.ifexp (T.cmp (E.get E.loc E.loc) E.kStr C.eq) (E.bin E.loc E.kInt B.add) (E.bin E.loc E.kInt B.add)))
 (Ss.cons (S.while (T.val E.kBool (fun _ => rfl)) (Ss.cons (S.st nd (E.meth K9 K.find E.loc (L.cons E.kStr (L.cons E.loc (L.cons E.loc L.nil))) rfl rfl rfl rfl rfl))
 (Ss.cons (S.ifS (T.cmp E.loc E.kInt C.lt) (Ss.cons S.brk
 Ss.nil) Ss.nil)
 (Ss.cons (S.expr (E.meth cF K.append E.loc (L.cons (E.slice E.loc (Pt.at E.loc) (Pt.at E.loc) (fun _ _ => rfl)) L.nil) rfl rfl rfl rfl rfl) rfl rfl)
 (Ss.cons (S.st nd (E.bin E.loc E.kInt B.add))
 (Ss.cons (S.st nd (E.bin E.loc E.kInt B.add))
 Ss.nil))))))
 (Ss.cons (S.st nd (E.slice E.loc (Pt.at E.loc) (Pt.at E.loc) (fun _ _ => rfl)))
 (Ss.cons (S.ifS (T.val E.loc (fun _ => rfl)) (Ss.cons (S.expr (E.meth cF K.append E.loc (L.cons E.loc L.nil) rfl rfl rfl rfl rfl) rfl rfl)
 Ss.nil) (Ss.cons (S.augLast E.loc (E.neg E.kInt) E.kStr IP.add (fun _ _ _ => rfl))
 Ss.nil))
 (Ss.cons (S.for (t := (.nm 11)) (tgt := fun _ => True) rfl nd (.nm rfl (Or.inl rfl)) trivial (I.range (R.call Tt.O (E.bi Tt) (L.cons (E.bin (E.call (E.bi Tt) bC.builtin K.len (L.cons E.loc L.nil)) E.kInt B.sub) (L.cons E.kInt (L.cons (E.neg E.kInt) L.nil))) rfl rfl rfl)) (Ss.cons (S.ifS (T.cmp (E.get (E.get E.loc (E.bin E.loc E.kInt B.sub)) (E.neg E.kInt)) (E.get (E.get E.loc E.loc) E.kInt) C.gt) Ss.off Ss.nil)
 Ss.nil) (fun _ => rfl))
 (Ss.cons (S.st nd (E.joinGen (q := (82,78)) (cl := []) Tt.O Tt.tw Tt.bf (by rw [Tt.tabs];decide) hcode rfl rfl (nG Tt (by kernel_rfl)) rfl (sS _ _ (by decide)) (by decide) rfl rfl rfl E.loc (fun _ => rfl) (fun C code A E s m v t h1 h2 h3 h4 h5 => Cp rfl rfl rfl rfl (by decide) rfl (by decide) rfl rfl rfl rfl h1 h2 h3 h4 h5) rfl rfl rfl))
 Ss.nil)))))))))
 (Ss.cons (S.st nd (E.sub (q := (82,78)) (cl := []) Tt.O Tt.tw Tt.bf Tt.pat.2 (E.glob Tt.O rfl rfl rfl Tt.pat.1 (fun _ _ => VR.val) rfl) E.loc (by rw [Tt.tabs];decide) hcode rfl rfl (Bc Tt (by kernel_rfl)) (nG Tt (by kernel_rfl)) (sS _ _ (by decide)) rfl rfl rfl (by decide) (fun _ _ _ _ _ => rfl) rfl rfl rfl rfl (fun _ => rfl) rfl (fun _ => rfl)))
 (Ss.cons (S.st nd (E.bin E.loc E.kInt B.add))
 (Ss.cons (S.ifS (T.not (T.val E.loc (fun _ => rfl))) (Ss.cons (S.expr (E.callApp E.loc E.kStr rfl rfl) rfl rfl)
 Ss.nil) (Ss.cons (S.ifS (T.cmp E.loc E.kStr C.eq) (Ss.cons (S.expr (E.callApp E.loc E.kStr rfl rfl) rfl rfl)
 Ss.nil) (Ss.cons (S.ifS (T.cmp (E.get E.loc E.kInt) E.kStr C.eq) (Ss.cons (S.st nd (E.bin E.kStr (E.slice E.loc (Pt.at E.kInt) Pt.no (fun _ _ => rfl)) B.add))
 Ss.nil) (Ss.cons (S.ifS (T.cmp (E.get E.loc E.kInt) (E.tup (L.cons E.kStr (L.cons E.kStr L.nil))) C.in_) (Ss.cons (S.st nd (E.bin E.kStr E.loc B.add))
 Ss.nil) Ss.nil)
 Ss.nil))
 (Ss.cons (S.expr (E.callApp E.loc (E.fstr (Fs.text (x := "[") (by decide) (Fs.val E.loc (Fs.text (x := "]") (by decide) Fs.nil)))) rfl rfl) rfl rfl)
 Ss.nil)))
 Ss.nil))
 Ss.nil))))))
 Ss.nil))))) (Ss.cons (S.expr (E.callApp E.loc (E.call (E.gl Tt m_escape) l_escape k_escape (L.cons E.loc L.nil)) rfl rfl) rfl rfl)
 Ss.nil))
 Ss.nil))
 Ss.nil))
 Ss.nil))))
 (Ss.cons (S.assert (T.cmp E.loc E.loc C.eq))
 (Ss.cons (S.ret E.loc)
 Ss.nil))))))
noncomputable def wN : WS := (aI (aW 1 (aV A2 aL))
 (aI (aW 2 (aV l8 (aH (aE 0) (aH (aE 1) (aH (wK (.str ".")) aL)))))
 (aI (dG (aV cW (aH (aE 2) (aH (aE 1) aL))))
 aK)))
noncomputable def cU : gF := eV 1 wN
theorem oW {G : Gl} (Tt : Tp G) {n : Nat} (h_parts0 : bS G n "_translate" l8) (h_join_translated_parts : bS G n "_join_translated_parts" cW) : bS G (n + 1) "translate" cU := by
 refine bP fun no => ?_;obtain ⟨a_parts0,m_parts0,l_parts0,k_parts0⟩ := h_parts0;obtain ⟨a_join_translated_parts,m_join_translated_parts,l_join_translated_parts,k_join_translated_parts⟩ := h_join_translated_parts;refine no ?_;have Ff := Tt.fn 3;conv at Ff => pattern cH 3;whnf
 obtain ⟨a,o,pm,code,doc,h1,h2,h3,h4⟩ := Ff _ rfl;have nd : (["pat","STAR","parts"] : List Str).Nodup := aT (by decide +kernel);refine b7 Tt h1 h2 h3 h4 (names := ["pat","STAR","parts"]) (k := 1) (rU fun _ => rfl) ?_ (aT rfl) nd rfl rfl rfl fun Lx => ?_
 · exact fc (.inl rfl) fz
 · exact (Ss.cons (S.st nd (E.call0 (E.bi Tt) bC.type K.object rfl))
 (Ss.cons (S.st nd (E.call (E.gl Tt m_parts0) l_parts0 k_parts0 (L.cons E.loc (L.cons E.loc (L.cons E.kStr L.nil)))))
 (Ss.cons (S.ret (E.call (E.gl Tt m_join_translated_parts) l_join_translated_parts k_join_translated_parts (L.cons E.loc (L.cons E.loc L.nil))))
 Ss.nil)))
noncomputable def F0 (sa : Addr) (ns : List Int) : WS := (aW 1 (e8 (.nm 0) (hJ (A6 0 sa (ns.take 63))) [none] xT (aX pF (aE 0) (aX K0 (wK (.int 10)) (wK (.int 6))))))
noncomputable def F3 (sa : Addr) (ns : List Int) : WS := (aW 2 (aV Ci (aH (aE 1) aL)))
noncomputable def F5 (sa : Addr) (ns : List Int) : WS := (aW 3 (a7 (d3 (aH (wK (.str "abc")) (aH (wK (.str "*?[")) (aH (wK (.str "]-^")) (aH (wK (.str "\\&~")) (aH (wK (.str "|.#")) (aH (wK (.str "^aA")) aL))))))) (aX pF (aX rK (aE 2) (wK (.int 4))) (wK (.int 6)))))
noncomputable def F6 (sa : Addr) (ns : List Int) : WS := (aW 4 (e8 (.nm 0) (dJ (dZ (aH (wK (.int 6)) aL))) [none,some 1] xT (aX pF (aX bD (a7 (d3 (aH (wK (.int 1)) (aH (wK (.int 0)) (aH (wK (.int 2)) (aH (wK (.int 0)) (aH (wK (.int 1)) (aH (wK (.int 0)) aL))))))) (aE 0)) (aV Ci (aH (tV (aE 1) (d8 (aE 0)) kF (d8 (wK (.int 6)))) aL))) (wK (.int 3)))))
noncomputable def F7 (sa : Addr) (ns : List Int) : WS := (aW 5 (bG "str" hM (wK (.str "")) (aH (e8 (.nm 0) (hJ (fZ (aE 4) kF (d8 (aX fN (wK (.int 6)) (aX pF (aE 2) (wK (.int 4))))))) [none,some 3] xT (a7 (aE 1) (aE 0))) aL)))
noncomputable def yS (sa : Addr) (ns : List Int) : WS := (aW 6 (e8 (.nm 0) (dJ (dZ (aH (aV cZ (aH (aE 5) aL)) aL))) [none,some 5] xT (d3 (aH (aV nH (aH (fZ (aE 1) (d8 (aE 0)) kF) aL)) (aH (aE 0) aL)))))
noncomputable def yT (sa : Addr) (ns : List Int) : WS := (a6 (aV j5 (aH (aE 6) aL)))
noncomputable def yU (sa : Addr) (ns : List Int) : WS := (mS [7,8] (aV jD (aH (aE 6) aL)))
noncomputable def yV (sa : Addr) (ns : List Int) : WS := (bB (aN lM (aE 7) (A9 (dZ (aH (aV cZ (aH (aE 5) aL)) aL)) 5 (fZ (aE 1) (d8 (aE 0)) kF))) (aI (dG (wK (.bool false)))
 aK) aK)
noncomputable def yW (sa : Addr) (ns : List Int) : WS := (aW 9 (tW (aH (aE 8) (aH (aX bD (bW (aH (aV cZ (aH (aE 5) aL)) aL)) (aE 8)) aL))))
noncomputable def uE (sa : Addr) (ns : List Int) : WS := (mS [10,11] (aV hV (aH (aE 9) (aH (aX pF (aX rK (aE 2) (wK (.int 20))) (wK (.int 3))) aL))))
noncomputable def uF (sa : Addr) (ns : List Int) : WS := (aW 12 (aV gN (aH (aE 10) (aH (aX bD (aV cZ (aH (aE 9) aL)) (wK (.int 2))) aL))))
noncomputable def uG (sa : Addr) (ns : List Int) : WS := (Fw (aN lM (aE 12) (aE 11)) (aH (aX bD (bW (aH (wK (.int 0)) aL)) (aE 10)) (aH (wK (.int 1)) aL)))
noncomputable def uH (sa : Addr) (ns : List Int) : WS := (aW 13 (aV j6 (aH (aE 5) (aH (fZ (aE 12) kF (d8 (aV cZ (aH (aE 9) aL)))) aL))))
noncomputable def uI (sa : Addr) (ns : List Int) : WS := (bB (rM (aN lM (aE 13) (aV hW (aH (aE 5) aL))) (eR (cD (aV cT (aH (aE 5) (aH (aE 5) (aH (wK (.int 0)) aL))))))) (aI (dG (wK (.bool false)))
 aK) aK)
noncomputable def uJ (sa : Addr) (ns : List Int) : WS := (kI (.nm 14) (dJ (dZ (aH (aV cZ (aH (aE 13) aL)) aL))) (aI (aW 15 (a7 (aE 13) (aE 14)))
 (aI (bB (dF (aN rL (aE 14) (wK (.int 0))) (eR (cD (aV cT (aH (a7 (aE 13) (aX fN (aE 14) (wK (.int 1)))) (aH (aE 15) (aH (J8 (aN dH (a7 (aE 13) (aX fN (aE 14) (wK (.int 1)))) (aE 15)) (wK (.int 0)) (wK (.int 1))) aL))))))) (aI (dG (wK (.bool false)))
 aK) aK)
 (aI (kI (.nm 16) (dJ (dZ (aH (wK (.int 1)) (aH (aV cZ (aH (aE 15) aL)) aL)))) (aI (bB (eR (cD (aV cT (aH (aE 15) (aH (fZ (aE 15) (d8 (aE 16)) kF) (aH (dO (wK (.int 1))) aL)))))) (aI (dG (wK (.bool false)))
 aK) aK)
 (aI (aW 17 (aV eA (aH (fZ (aE 15) kF (d8 (aE 16))) (aH (aE 3) (aH (aE 2) aL)))))
 (aI (bB (aN d4 (aV cS (aH (aV cU (aH (aX bD (aX bD (aE 17) (wK (.str "*"))) (aE 17)) aL)) (aH (aE 15) aL))) (wK (.bool false))) (aI (dG (wK (.bool false)))
 aK) aK)
 aK))))
 aK))))
noncomputable def uK (sa : Addr) (ns : List Int) : WS := (bB (aN d4 (aV cS (aH (aV cU (aH (bG "str" hM (wK (.str "**")) (aH (e8 (.nm 0) (hJ (aE 13)) [none,some 3,some 2] xT (aV eA (aH (aE 0) (aH (aE 1) (aH (aX rK (aE 2) (wK (.int 60))) aL))))) aL)) aL)) (aH (aE 5) aL))) (wK (.bool true))) (aI (dG (wK (.bool false)))
 aK) aK)
noncomputable def uL (sa : Addr) (ns : List Int) : WS := (kI (.nm 16) (dJ (dZ (aH (wK (.int 1)) (aH (aX bD (aX rK (aV cZ (aH (aE 5) aL)) (wK (.int 2))) (wK (.int 2))) aL)))) (aI (aW 17 (aV eA (aH (fZ (aE 5) kF (d8 (aE 16))) (aH (aE 3) (aH (aX rK (aE 2) (wK (.int 7))) aL)))))
 (aI (aW 18 (B9 (kD vD (aX rJ (aE 16) (wK (.int 2))) (aV cZ (aH (aE 5) aL))) (kD dH (fZ (aE 5) (d8 (dO (aE 16))) kF) (fZ (aE 5) kF (d8 (aE 16))))))
 (aI (bB (aN d4 (aV cS (aH (aV cU (aH (aX bD (aX bD (aE 17) (wK (.str "*"))) (aE 17)) aL)) (aH (aE 5) aL))) (aE 18)) (aI (dG (wK (.bool false)))
 aK) aK)
 aK))))
noncomputable def Bf (sa : Addr) (ns : List Int) : WS := (dG (wK (.bool true)))
noncomputable def Bg (sa : Addr) (ns : List Int) : WS := aI (F0 sa ns) (aI (F3 sa ns) (aI (F5 sa ns) (aI (F6 sa ns) (aI (F7 sa ns) (aI (yS sa ns) (aI (yT sa ns) (aI (yU sa ns) (aI (yV sa ns) (aI (yW sa ns) (aI (uE sa ns) (aI (uF sa ns) (aI (uG sa ns) (aI (uH sa ns) (aI (uI sa ns) (aI (uJ sa ns) (aI (uK sa ns) (aI (uL sa ns) (aI (Bf sa ns) (aK)))))))))))))))))))
theorem F8 {G : Gl} (Tt : Tp G) {n : Nat} (hn : 3 <= n) (h_strxfrm : bS G (n + 2) "_strxfrm" nH) (h_heapify : bS G (n + 2) "heapify" j5) (h_law_ends : bS G (n + 2) "_law_ends" jD) (h_law_ruler : bS G (n + 2) "_law_ruler" hV) (h_law_told : bS G (n + 2) "_law_told" gN) (h_law_cut : bS G (n + 2) "_law_cut" j6) (h_law_parts : bS G (n + 2) "_law_parts" hW) (h_law_compared : bS G (n + 2) "_law_compared" cT) (h_law_glob : bS G (n + 2) "_law_glob" eA) (h_translate : bS G (n + 2) "translate" cU) (h_law_takes : bS G (n + 2) "_law_takes" cS) {sa : Addr} {vs : List Value} {ns : List Int} (hl : G.h₀.IsList sa vs.toArray) (hi : IntsAre vs ns) (hz : vs.length <= sizeLine) : ∃ a,G.mg "law" = some (.ref a) /\ ∀ {A : Around},Ok A (n + 3) -> A.frames = some [] -> ∀ {E : cB} {s : Shared} {α : List Addr} {H : List MO} {P : cM} {xs : List MV} {us : List Value},cL G α H s -> c8 α s.heap xs us -> eV 1 (Bg sa ns) xs H P -> wpAny (model G.prog G.w) A (call (.ref a) us []) (d2 G α s P) E s := by
 refine bP fun no => ?_;obtain ⟨a_strxfrm,m_strxfrm,l_strxfrm,k_strxfrm⟩ := h_strxfrm;obtain ⟨a_heapify,m_heapify,l_heapify,k_heapify⟩ := h_heapify;obtain ⟨a_law_ends,m_law_ends,l_law_ends,k_law_ends⟩ := h_law_ends;obtain ⟨a_law_ruler,m_law_ruler,l_law_ruler,k_law_ruler⟩ := h_law_ruler;obtain ⟨a_law_told,m_law_told,l_law_told,k_law_told⟩ := h_law_told;obtain ⟨a_law_cut,m_law_cut,l_law_cut,k_law_cut⟩ := h_law_cut;obtain ⟨a_law_parts,m_law_parts,l_law_parts,k_law_parts⟩ := h_law_parts;obtain ⟨a_law_compared,m_law_compared,l_law_compared,k_law_compared⟩ := h_law_compared;obtain ⟨a_law_glob,m_law_glob,l_law_glob,k_law_glob⟩ := h_law_glob;obtain ⟨a_translate,m_translate,l_translate,k_translate⟩ := h_translate;obtain ⟨a_law_takes,m_law_takes,l_law_takes,k_law_takes⟩ := h_law_takes;obtain ⟨a_told,m_told,l_told,k_told⟩ := uA Tt (n := n + 1) (by lia);have Ff := Tt.fn 23;conv at Ff => pattern cH 23;whnf
 obtain ⟨a,o,pm,code,doc,h1,h2,h3,h4⟩ := Ff _ rfl;have hcode := Tt.cdl _ a o pm code doc rfl h1 h2 h3;have nd : (["script","numbers","total","alphabet","letters","text","heap","order","starts","sizes","row","due","told","parts","k","part","size","glob","again"] : List Str).Nodup := aT (by decide +kernel);refine no ⟨a,h1,fun {A} ok hfr _ s α H P xs us i r hw => ?_⟩;refine Iz Tt.O (names := ["script","numbers","total","alphabet","letters","text","heap","order","starts","sizes","row","due","told","parts","k","part","size","glob","again"]) (k := 1) ⟨⟨o,h2,h3⟩,h4,rfl,rfl,(rU fun _ => rfl),?_,(aT rfl),nd,rfl,rfl,rfl⟩ ok (fun Lx => ?_) i r hw
 · exact fc (.inl rfl) fz
 · have okd : ∀ env,Ok (A.deeper env) (n + 2) := fun env => ok.deeper;exact (fQ.cons (bN.at (n := n + 2) (S.set rfl nd rfl (Or.inr (And.intro rfl rfl)) (E.comp (ns := ["x"]) (cap := [none]) (t := (.nm 0)) (tgt := fun _ => True) (dP.of rfl rfl rfl) trivial (I.over (E.script hl hi hz E.loc (fun _ _ => rfl))) (fun _ => F.no) (fun _ => (E.bin E.loc (E.bin E.kInt E.kInt B.pow) B.mod)) (fun _ => rfl)) rfl) (okd _))
   (fQ.cons (bN.at (n := n + 2) (S.set rfl nd rfl (Or.inr (And.intro rfl rfl)) (E.call (E.bi Tt) bC.builtin K.sum (L.cons E.loc L.nil)) rfl) (okd _))
   (fQ.cons (bN.at (n := n + 2) (S.set rfl nd rfl (Or.inr (And.intro rfl rfl)) (E.get (E.tup (L.cons E.kStr (L.cons E.kStr (L.cons E.kStr (L.cons E.kStr (L.cons E.kStr (L.cons E.kStr L.nil))))))) (E.bin (E.bin E.loc E.kInt B.div) E.kInt B.mod)) rfl) (okd _))
   (fQ.cons (bN.at (n := n + 2) (S.setComp (ns := ["k","numbers"]) (cap := [none,some 1]) (t := (.nm 0)) (tgt := fun _ => True) (dP.of rfl rfl rfl) trivial (I.range (R.call Tt.O (E.bi Tt) (L.cons E.kInt L.nil) rfl rfl rfl)) (fun _ => F.no) (fun _ => (E.bin (E.bin (E.get (E.tup (L.cons E.kInt (L.cons E.kInt (L.cons E.kInt (L.cons E.kInt (L.cons E.kInt (L.cons E.kInt L.nil))))))) E.loc) (E.call (E.bi Tt) bC.builtin K.sum (L.cons (E.sliceStep E.loc (Pt.at E.loc) Pt.no (Pt.at E.kInt) (fun _ _ => rfl)) L.nil)) B.add) E.kInt B.mod)) (fun _ => rfl) rfl nd rfl rfl rfl) (okd _))
   (fQ.cons (bN.at (n := n + 2) (S.set rfl nd rfl (Or.inr (And.intro rfl rfl)) (E.meth mW K.join E.kStr (L.cons (E.comp (ns := ["x","alphabet"]) (cap := [none,some 3]) (t := (.nm 0)) (tgt := fun _ => True) (dP.of rfl rfl rfl) trivial (I.over (E.slice E.loc Pt.no (Pt.at (E.bin E.kInt (E.bin E.loc E.kInt B.mod) B.sub)) (fun _ _ => rfl))) (fun _ => F.no) (fun _ => (E.get E.loc E.loc)) (fun _ => rfl)) L.nil) rfl rfl rfl rfl rfl) rfl) (okd _))
   (fQ.cons (bN.at (n := n + 2) (S.setComp (ns := ["k","text"]) (cap := [none,some 5]) (t := (.nm 0)) (tgt := fun _ => True) (dP.of rfl rfl rfl) trivial (I.range (R.call Tt.O (E.bi Tt) (L.cons (E.call (E.bi Tt) bC.builtin K.len (L.cons E.loc L.nil)) L.nil) rfl rfl rfl)) (fun _ => F.no) (fun _ => (E.tup (L.cons (E.call (E.gl Tt m_strxfrm) l_strxfrm k_strxfrm (L.cons (E.slice E.loc (Pt.at E.loc) Pt.no (fun _ _ => rfl)) L.nil)) (L.cons E.loc L.nil)))) (fun _ => rfl) rfl nd rfl rfl rfl) (okd _))
   (fQ.cons (bN.at (n := n + 2) (S.expr (E.call (E.gl Tt m_heapify) l_heapify k_heapify (L.cons E.loc L.nil)) rfl rfl) (okd _))
   (fQ.cons (bN.at (n := n + 2) (S.unp rfl nd (.cons rfl (.inl rfl) (.cons rfl (.inl rfl) .nil)) (E.call (E.gl Tt m_law_ends) l_law_ends k_law_ends (L.cons E.loc L.nil)) rfl rfl) (okd _))
   (fQ.cons (bN.at (n := n + 2) (S.ifS (T.cmp E.loc (E.sorted (q := (198,196)) (t := .nm 0) (target := .Name "k" ⟨0,0,0,0⟩) Tt.O Tt.tw Tt.bf (E.bi Tt) (R.call Tt.O (E.bi Tt) (L.cons (E.call (E.bi Tt) bC.builtin K.len (L.cons E.loc L.nil)) L.nil) rfl rfl rfl) (by rw [Tt.tabs];decide) hcode rfl rfl (Bc Tt (by kernel_rfl)) (nG Tt (by kernel_rfl)) (dP.of rfl rfl rfl) rfl rfl (fun _ _ _ _ => rfl) rfl rfl (fun _ _ _ => E.slice E.loc (Pt.at E.loc) Pt.no (fun _ _ => rfl)) rfl) C.ne) (Ss.cons (S.ret E.kBool)
 Ss.nil) Ss.nil) (okd _))
   (fQ.cons (bN.at (n := n + 2) (S.setZip (cap := [none,none]) (dP.of rfl rfl rfl) (E.bi Tt) (L.cons E.loc (L.cons (E.bin (E.list (L.cons (E.call (E.bi Tt) bC.builtin K.len (L.cons E.loc L.nil)) L.nil)) E.loc B.add) L.nil)) rfl rfl rfl (fun _ => rfl) rfl rfl (by decide) rfl rfl nd rfl rfl rfl) (okd _))
   (fQ.cons (bN.at (n := n + 2) (S.unp rfl nd (.cons rfl (.inl rfl) (.cons rfl (.inl rfl) .nil)) (E.call (E.gl Tt m_law_ruler) l_law_ruler k_law_ruler (L.cons E.loc (L.cons (E.bin (E.bin E.loc E.kInt B.div) E.kInt B.mod) L.nil))) rfl rfl) (okd _))
   (fQ.cons (bN.at (n := n + 2) (S.st nd (E.call (E.gl Tt m_law_told) l_law_told k_law_told (L.cons E.loc (L.cons (E.bin (E.call (E.bi Tt) bC.builtin K.len (L.cons E.loc L.nil)) E.kInt B.add) L.nil)))) (okd _))
   (fQ.cons (Nq.lawIf (n := n + 1) (okd _) rfl rfl (Around.frames_deeper hfr) (T.cmp E.loc E.loc C.ne) (E.gl Tt m_told) l_told k_told (L.cons (E.bin (E.list (L.cons E.kInt L.nil)) E.loc B.add) (L.cons E.kInt L.nil)) rfl rfl rfl rfl)
   (fQ.cons (bN.at (n := n + 2) (S.st nd (E.call (E.gl Tt m_law_cut) l_law_cut k_law_cut (L.cons E.loc (L.cons (E.slice E.loc Pt.no (Pt.at (E.call (E.bi Tt) bC.builtin K.len (L.cons E.loc L.nil))) (fun _ _ => rfl)) L.nil)))) (okd _))
   (fQ.cons (bN.at (n := n + 2) (S.ifS (T.or (T.cmp E.loc (E.call (E.gl Tt m_law_parts) l_law_parts k_law_parts (L.cons E.loc L.nil)) C.ne) (T.not (T.val (E.call (E.gl Tt m_law_compared) l_law_compared k_law_compared (L.cons E.loc (L.cons E.loc (L.cons E.kInt L.nil)))) (fun _ => rfl)))) (Ss.cons (S.ret E.kBool)
 Ss.nil) Ss.nil) (okd _))
   (fQ.cons (bN.at (n := n + 2) (S.for (t := (.nm 14)) (tgt := fun _ => True) rfl nd (.nm rfl (Or.inl rfl)) trivial (I.range (R.call Tt.O (E.bi Tt) (L.cons (E.call (E.bi Tt) bC.builtin K.len (L.cons E.loc L.nil)) L.nil) rfl rfl rfl)) (Ss.cons (S.st nd (E.get E.loc E.loc))
 (Ss.cons (S.ifS (T.and (T.cmp E.loc E.kInt C.gt) (T.not (T.val (E.call (E.gl Tt m_law_compared) l_law_compared k_law_compared (L.cons (E.get E.loc (E.bin E.loc E.kInt B.sub)) (L.cons E.loc (L.cons (E.ifexp (T.cmp (E.get E.loc (E.bin E.loc E.kInt B.sub)) E.loc C.eq) E.kInt E.kInt) L.nil)))) (fun _ => rfl)))) (Ss.cons (S.ret E.kBool)
 Ss.nil) Ss.nil)
 (Ss.cons (S.for (t := (.nm 16)) (tgt := fun _ => True) rfl nd (.nm rfl (Or.inl rfl)) trivial (I.range (R.call Tt.O (E.bi Tt) (L.cons E.kInt (L.cons (E.call (E.bi Tt) bC.builtin K.len (L.cons E.loc L.nil)) L.nil)) rfl rfl rfl)) (Ss.cons (S.ifS (T.not (T.val (E.call (E.gl Tt m_law_compared) l_law_compared k_law_compared (L.cons E.loc (L.cons (E.slice E.loc (Pt.at E.loc) Pt.no (fun _ _ => rfl)) (L.cons (E.neg E.kInt) L.nil)))) (fun _ => rfl))) (Ss.cons (S.ret E.kBool)
 Ss.nil) Ss.nil)
 (Ss.cons (S.st nd (E.call (E.gl Tt m_law_glob) l_law_glob k_law_glob (L.cons (E.slice E.loc Pt.no (Pt.at E.loc) (fun _ _ => rfl)) (L.cons E.loc (L.cons E.loc L.nil)))))
 (Ss.cons (S.ifS (T.cmp (E.call (E.gl Tt m_law_takes) l_law_takes k_law_takes (L.cons (E.call (E.gl Tt m_translate) l_translate k_translate (L.cons (E.bin (E.bin E.loc E.kStr B.add) E.loc B.add) L.nil)) (L.cons E.loc L.nil))) E.kBool C.isNot) (Ss.cons (S.ret E.kBool)
 Ss.nil) Ss.nil)
 Ss.nil))) (fun _ => rfl))
 Ss.nil))) (fun _ => rfl)) (okd _))
   (fQ.cons (bN.at (n := n + 2) (S.ifS (T.cmp (E.call (E.gl Tt m_law_takes) l_law_takes k_law_takes (L.cons (E.call (E.gl Tt m_translate) l_translate k_translate (L.cons (E.meth mW K.join E.kStr (L.cons (E.comp (ns := ["part","alphabet","total"]) (cap := [none,some 3,some 2]) (t := (.nm 0)) (tgt := fun _ => True) (dP.of rfl rfl rfl) trivial (I.over E.loc) (fun _ => F.no) (fun _ => (E.call (E.gl Tt m_law_glob) l_law_glob k_law_glob (L.cons E.loc (L.cons E.loc (L.cons (E.bin E.loc E.kInt B.div) L.nil))))) (fun _ => rfl)) L.nil) rfl rfl rfl rfl rfl) L.nil)) (L.cons E.loc L.nil))) E.kBool C.isNot) (Ss.cons (S.ret E.kBool)
 Ss.nil) Ss.nil) (okd _))
   (fQ.cons (bN.at (n := n + 2) (S.for (t := (.nm 16)) (tgt := fun _ => True) rfl nd (.nm rfl (Or.inl rfl)) trivial (I.range (R.call Tt.O (E.bi Tt) (L.cons E.kInt (L.cons (E.bin (E.bin (E.call (E.bi Tt) bC.builtin K.len (L.cons E.loc L.nil)) E.kInt B.div) E.kInt B.add) L.nil)) rfl rfl rfl)) (Ss.cons (S.st nd (E.call (E.gl Tt m_law_glob) l_law_glob k_law_glob (L.cons (E.slice E.loc Pt.no (Pt.at E.loc) (fun _ _ => rfl)) (L.cons E.loc (L.cons (E.bin E.loc E.kInt B.div) L.nil)))))
 (Ss.cons (S.st nd (E.and (E.cmp (E.bin E.loc E.kInt B.mul) (E.call (E.bi Tt) bC.builtin K.len (L.cons E.loc L.nil)) C.le rfl) (E.cmp (E.slice E.loc (Pt.at (E.neg E.loc)) Pt.no (fun _ _ => rfl)) (E.slice E.loc Pt.no (Pt.at E.loc) (fun _ _ => rfl)) C.eq rfl)))
 (Ss.cons (S.ifS (T.cmp (E.call (E.gl Tt m_law_takes) l_law_takes k_law_takes (L.cons (E.call (E.gl Tt m_translate) l_translate k_translate (L.cons (E.bin (E.bin E.loc E.kStr B.add) E.loc B.add) L.nil)) (L.cons E.loc L.nil))) E.loc C.isNot) (Ss.cons (S.ret E.kBool)
 Ss.nil) Ss.nil)
 Ss.nil))) (fun _ => rfl)) (okd _))
   (fQ.cons (bN.at (n := n + 2) (S.ret E.kBool) (okd _))
   (fQ.nil))))))))))))))))))))
noncomputable abbrev fI : List (Addr × Addr) := [(82,78),(198,196)]
noncomputable abbrev Nr (prog : Program) (w : World) (h : Heap) (mg mb : Str -> Option Value) : Gl := ⟨prog,w,ghostOf h fI,mg,mb,fI,jA⟩
theorem wO {i : Nat} {d : DefRec} {x : Str} (hx : (cH i).map (·.name) = some x) (h : cH i = some d) : d.name = x := by
 rw [h] at hx;exact Option.some.inj hx
noncomputable abbrev fR : List (Nat × Nat × Nat) := [(40,362,366),(41,368,372),(91,374,378),(93,380,384),(123,386,390),(125,392,396),(63,398,402),(42,404,408),(43,410,414),(45,416,420),(124,422,426),(94,428,432),(36,434,438),(92,440,444),(46,446,450),(38,452,456),(126,458,462),(35,464,468),(32,470,474),(9,476,480),(10,482,486),(13,488,492),(11,494,498),(12,500,504)]
noncomputable abbrev qM (p : Nat × Nat × Nat) : DictEntry := { hash := p.1,key := .int p.1 p.2.1,val := .str ⟨#[92,p.1]⟩ p.2.2 }
theorem F9 (c : Nat) : ∀ l : List (Nat × Nat × Nat),((l.map (·.1)).contains c = true /\ ∃ t,((l.map qM).find? fun e => Value.isInt c e.key).map (·.val) = some (.str ⟨#[92,c]⟩ t)) \/ ((l.map (·.1)).contains c = false /\ ((l.map qM).find? fun e => Value.isInt c e.key).map (·.val) = none) := by
 intro l;induction l with
 | nil =>
   exact .inr ⟨rfl,rfl⟩
 | cons p l ih =>
   rcases Nat.decEq c p.1 with h | h
   · have hb : (c == p.1) = false := beq_eq_false_iff_ne.mpr h;have hi : Value.isInt (c : Int) (qM p).key = false := by
       show ((p.1 : Int) == (c : Int)) = false;rw [beq_eq_false_iff_ne];intro q;exact h (by lia)
     refine aJ (by rw [map_cons,contains_cons,hb,Bool.false_or] : (((p :: l).map (·.1)).contains c) = (l.map (·.1)).contains c) (aJ (by exact aJ map_cons (aJ find?_cons (aJ hi rfl)) : ((p :: l).map qM).find? (fun e => Value.isInt c e.key) = (l.map qM).find? fun e => Value.isInt c e.key) ?_);exact ih
   · have hi : Value.isInt (c : Int) (qM p).key = true := by
       show ((p.1 : Int) == (c : Int)) = true;rw [beq_iff_eq,h]
     refine .inl ⟨by rw [map_cons,contains_cons,beq_iff_eq.mpr h,Bool.true_or],p.2.2,?_⟩;refine aJ map_cons (aJ find?_cons (aJ hi (aJ h ?_)));rfl
section
variable {prog : Program} {w : World} {h : Heap} {mg mb : Str -> Option Value} {loose : List Str} {mean : ExcName -> Option Value}
noncomputable abbrev Qb : Obj := { cls := .type "re.Pattern",data := .fields #[.str "([&~|])" 313,.int 32 348,.int 1 0,.none,.none,.ref 56,.int 0 0] }
noncomputable abbrev Qc : Obj := { cls := .type "tuple",data := .seq #[.int 14 0,.int 14 0,.int 4 0,.int 1 0,.int 1 0,.int 9 0,.int 0 0,.int 64 0,.int 0 0,.int 1342177280 0,.int 0 0,.int 0 0,.int 0 0,.int 0 0,.int 0 0,.int 17 0,.int 0 0,.int 13 0,.int 11 0,.int 9 0,.int 0 0,.int 64 0,.int 0 0,.int 1342177280 0,.int 0 0,.int 0 0,.int 0 0,.int 0 0,.int 0 0,.int 17 0,.int 1 0,.int 1 0] 0 }
structure Qd (K : Frag) : Prop where
 no : (["len","range","object","isinstance","str","bool","sum","zip","reversed","sorted","list","ValueError","chr"] : List Str).map (nsIn K mainGlobals) = List.replicate 13 (some none) := by kernel_rfl
 t : tabIn K "_translate" = some (82,78) := by kernel_rfl
 l : tabIn K "law" = some (198,196) := by kernel_rfl
 c : nsIn K mainGlobals "CHAR_MAX" = some (some (.int 127 299)) := by kernel_rfl
 p : nsIn K mainGlobals "_twin_re_1" = some (some (.ref 57)) := by kernel_rfl
 p1 : K.lookup 57 = some Qb := by kernel_rfl
 p2 : K.lookup 56 = some Qc := by kernel_rfl
 m : nsIn K mainGlobals "_special_chars_map" = some (some (.ref 66)) := by kernel_rfl
 m1 : K.lookup 66 = some { cls := .type "dict",data := .dict (fR.map qM).toArray 24 } := by kernel_rfl
theorem Nt {view : Program} {K : Frag} (hv : recsOf view = recsOf Challenge.rw_in0270_01.row.prog) (L : Qd K) (T : Top view loose mean mg mb h) (X : K.In h) (hT : TabsAt fI h) : Tp (Nr prog w h mg mb) := by
 have hg := T.g;have some_of : ∀ x v,nsIn K mainGlobals x = some (some v) -> mg x = some v := fun x v e => mg_of X hg e;have up : ∀ a o,h.get? a = some o -> o ≠ tabObj #[] -> (ghostOf h fI).get? a = some o := fun a o e hn => ghost_get hT e hn;have back : ∀ a o,(ghostOf h fI).get? a = some o -> h.get? a = some o := fun a o e => of_hideAll _ e;have Xg : ∀ a o,K.lookup a = some o -> o ≠ tabObj #[] -> (ghostOf h fI).get? a = some o := fun a o e hn => up a o (X a o e) hn;refine bP fun no => ?_;obtain ⟨bm,ob,hb1,hb2,hb3,hb4,hb5,hb6⟩ := T.bmain;refine no ?_;refine ⟨⟨ghost_ns hT T.g,ghost_ns hT T.b,(by obtain ⟨mc,a,r⟩ := T.nolimit;exact ⟨mc,ghost_ns hT a,r⟩)⟩,fun i d hi => ?_,fun x hx => ?_,T.builtins,⟨fc (ghost_code hT).1 (fc (ghost_code hT).2.1 fz),fun q hq => hideAll_none _ (mem_map_of_mem hq)⟩,
   ⟨bm,ob,hb1,hb2,up _ _ hb3 (fun q => by replace hb4 := q ▸ hb4;cases hb4),hb4,hb5,hb6⟩,rfl,rfl,fun d a o pm code doc hi hm ho hd' => ?_,fun d a o pm code doc hi hm ho hd' => ?_,?_,⟨?_,?_⟩,⟨?_,?_⟩⟩
 · obtain ⟨a,o,pm,code,doc,h1,h2,h3,h4⟩ := T.fn d (mem_of_getElem? ((congrArg (·[i]?) hv).trans hi));refine ⟨a,o,pm,code,doc,h1,up _ _ h2 (fun q => by replace h3 := q ▸ h3;cases h3),h3,?_⟩;refine bP fun no => ?_;obtain ⟨c,oc,vs,t,z1,z2,z3,z4⟩ := h4;refine no ?_;refine ⟨c,oc,vs,t,z1,up _ _ z2 (fun q => ?_),z3,z4⟩
   replace z3 := q ▸ z3;(injection z3 with z3;subst z3)
   exact nS z4
 · exact (fun x e => ns_none_of X hg e : ∀ x,nsIn K mainGlobals x = some none -> mg x = none) _ (List.eq_of_mem_replicate (L.no ▸ mem_map_of_mem hx))
 · have hn : d.name = "_translate" := wO (by kernel_rfl) hi
   replace hm := hn ▸ hm
   exact law_code X hg L.t hm (back _ _ ho) hd'
 · have hn : d.name = "law" := wO (by kernel_rfl) hi
   replace hm := hn ▸ hm
   exact law_code X hg L.l hm (back _ _ ho) hd'
 · exact ⟨299,some_of _ _ L.c⟩
 · exact some_of _ _ L.p
 · exact ⟨_,_,_,_,_,_,56,_,_,_,Xg _ _ L.p1 (by intro q;cases q),Xg _ _ L.p2 (by intro q;cases q),by decide +kernel⟩
 · exact some_of _ _ L.m
 · refine ⟨fun k => findBy Value.isInt (fR.map qM).toArray k,⟨_,_,_,Xg _ _ L.m1 (by intro q;cases q),⟨rfl,rfl,rfl⟩,rfl,fun e he => ?_,fun k => rfl⟩,fun c => ?_⟩
   · have he' : e ∈ fR.map qM := by simpa using he
     refine bP fun no => ?_;obtain ⟨p,hp,rfl⟩ := mem_map.mp he';refine no ?_;refine ⟨(p.1 : Int),?_,?_⟩
     · show ((p.1 : Int) == (p.1 : Int)) = true;exact beq_self_eq_true _
     · have hz : ∀ p ∈ fR,((p.1 : Nat) : Int) = hashInt (p.1 : Int) := by decide +kernel
       exact hz p hp
   · have h1 := F9 c fR;have h2 : findBy Value.isInt (fR.map qM).toArray (c : Int) = ((fR.map qM).find? fun e => Value.isInt c e.key).map (·.val) := by
       unfold findBy;exact aJ (List.find?_toArray ..) rfl
     have h3 : fR.map (·.1) = jW := rfl
     replace h1 := h3 ▸ h1
     replace h1 := h2.symm ▸ h1
     exact h1
end
theorem Ga : Ok callerA 23 := by
 refine ⟨rfl,?_,?_⟩
 · skip
   decide +kernel
 · skip
   decide
theorem Da {G : Gl} (Tt : Tp G) {sa : Addr} {vs : List Value} {ns : List Int} (hl : G.h₀.IsList sa vs.toArray) (hi : IntsAre vs ns) (hz : vs.length <= sizeLine) : ∃ a,G.mg "law" = some (.ref a) /\ ∀ {A : Around},Ok A 23 -> A.frames = some [] -> ∀ {E : cB} {s : Shared} {α : List Addr} {H : List MO} {P : cM} {xs : List MV} {us : List Value},cL G α H s -> c8 α s.heap xs us -> eV 1 (Bg sa ns) xs H P -> wpAny (model G.prog G.w) A (call (.ref a) us []) (d2 G α s P) E s := by
 have k_strxfrm := rY Tt (n := 0);have k_strcoll := rX Tt (n := 0);have k_siftdown := qG Tt (n := 0);have k_siftup := uB Tt k_siftdown;have k_heappop := rV Tt k_siftup;have k_heapify := rW Tt k_siftup;have k_ends := qK Tt k_heappop;have k_one := rZ Tt (n := 0);have k_set := r6 Tt k_one;have k_rows := qH Tt k_set (k_one.le (by decide));have k_fits := qI Tt (n := 0);have k_takes := oS Tt k_rows (k_fits.le (by decide));have k_glob := qJ Tt (n := 0);have k_ruler := oU Tt (n := 0);have k_cut := r7 Tt (n := 0);have k_parts := oV Tt (n := 0);have k_compared := lF Tt k_strcoll;have k_join := gC Tt (n := 0);have k_escape := uC Tt (n := 0);have k_parts0 := uD Tt (n := 0) k_escape;have k_translate := oW Tt k_parts0 (k_join.le (by decide));have k_told := qF Tt (n := 4) (by decide);exact F8 Tt (n := 20) (by decide) (k_strxfrm.le (by decide)) (k_heapify.le (by decide)) (k_ends.le (by decide)) (k_ruler.le (by decide)) (k_told.le (by decide)) (k_cut.le (by decide)) (k_parts.le (by decide)) (k_compared.le (by decide)) (k_glob.le (by decide)) (k_translate.le (by decide)) (k_takes.le (by decide)) hl hi hz
noncomputable def Rc : Prop := ∀ (sa : Addr) (ns : List Int),eV 1 (Bg sa ns) [.val (.ref sa)] [] fun v _ => v = .bool true
noncomputable def ltb : List Nat -> List Nat -> Bool
 | [],[] => false
 | [],_ :: _ => true
 | _ :: _,[] => false
 | a :: as,b :: bs => if a < b then true else if b < a then false else ltb as bs
theorem Kj : ltb  [] [] = (false) := rfl
theorem Bh : ∀ a as b bs,ltb (a :: as) (b :: bs) = (if a < b then true else if b < a then false else ltb as bs) := fun _ _ _ _ => rfl
section
variable (lt : Nat -> Nat -> Bool)
noncomputable def jI (new : Nat) : Nat -> List Nat -> Nat -> Nat -> List Nat
 | 0,xs,_,pos => xs.set pos new
 | f + 1,xs,st,pos => if st < pos then
     if lt new (xs.getD ((pos - 1) / 2) 0) then jI new f (xs.set pos (xs.getD ((pos - 1) / 2) 0)) st ((pos - 1) / 2) else xs.set pos new
   else xs.set pos new
theorem I0 {lt : Nat -> Nat -> Bool} {new : Nat} : ∀ xs u1 pos,jI lt new 0 xs u1 pos = (xs.set pos new) := fun _ _ _ => rfl
theorem o5 {lt : Nat -> Nat -> Bool} {new : Nat} : ∀ f xs st pos,jI lt new (f + 1) xs st pos = (if st < pos then if lt new (xs.getD ((pos - 1) / 2) 0) then jI lt new f (xs.set pos (xs.getD ((pos - 1) / 2) 0)) st ((pos - 1) / 2) else xs.set pos new else xs.set pos new) := fun _ _ _ _ => rfl
noncomputable def eO : Nat -> List Nat -> Nat -> Nat -> List Nat × Nat
 | 0,xs,_,pos => (xs,pos)
 | f + 1,xs,en,pos => if 2 * pos + 1 < en then
     let c := if 2 * pos + 2 < en /\ lt (xs.getD (2 * pos + 1) 0) (xs.getD (2 * pos + 2) 0) = false then 2 * pos + 2 else 2 * pos + 1
     eO f (xs.set pos (xs.getD c 0)) en c
   else (xs,pos)
theorem sU {lt : Nat -> Nat -> Bool} : ∀ f xs en pos,eO lt  (f + 1) xs en pos = (if 2 * pos + 1 < en then let c := if 2 * pos + 2 < en /\ lt (xs.getD (2 * pos + 1) 0) (xs.getD (2 * pos + 2) 0) = false then 2 * pos + 2 else 2 * pos + 1;eO lt f (xs.set pos (xs.getD c 0)) en c else (xs,pos)) := fun _ _ _ _ => rfl
noncomputable def fX (xs : List Nat) (pos : Nat) : List Nat :=
 let r := eO lt xs.length xs xs.length pos
 let ys := r.1.set r.2 (xs.getD pos 0)
 jI lt (ys.getD r.2 0) ys.length ys pos r.2
noncomputable def eK (xs : List Nat) : Nat -> List Nat
 | 0 => xs
 | i + 1 => eK (fX lt xs i) i
theorem yX {lt : Nat -> Nat -> Bool} {xs : List Nat} : eK lt xs 0 = (xs) := rfl
theorem yY {lt : Nat -> Nat -> Bool} {xs : List Nat} : ∀ i,eK lt xs (i + 1) = (eK lt (fX lt xs i) i) := fun _ => rfl
noncomputable def qN (xs : List Nat) : Nat × List Nat := match xs.getLast?,xs.dropLast with
 | none,_ => (0,[])
 | some l,[] => (l,[])
 | some l,y :: ys => (y,fX lt ((y :: ys).set 0 l) 0)
noncomputable def jJ : Nat -> List Nat -> List Nat -> List Nat -> List Nat × List Nat
 | 0,_,o,s => (o,s)
 | f + 1,xs,o,s => if xs = [] then (o,s) else
     let (p,ys) := qN lt xs
     jJ f ys (o ++ [p]) (match s.getLast? with | none => s ++ [p] | some q => if p < q then s ++ [p] else s)
theorem I1 {lt : Nat -> Nat -> Bool} : ∀ f xs o s,jJ lt  (f + 1) xs o s = (if xs = [] then (o,s) else let (p,ys) := qN lt xs;jJ lt f ys (o ++ [p]) (match s.getLast? with | none => s ++ [p] | some q => if p < q then s ++ [p] else s)) := fun _ _ _ _ => rfl
end
noncomputable def c9 (t : List Nat) (i j : Nat) : Bool := ltb (t.drop i) (t.drop j)
noncomputable def dX (t : List Nat) : List Nat × List Nat := jJ (c9 t) (t.length + 1) (eK (c9 t) (List.range t.length) (t.length / 2)) [] []
noncomputable def d6 (n : Nat) (s : List Nat) : List Nat := (s.zip (n :: s)).map fun p => p.2 - p.1
noncomputable def gP : List Nat -> List Nat -> List (List Nat)
 | _,[] => []
 | t,z :: zs => gP (t.take (t.length - z)) zs ++ [t.drop (t.length - z)]
theorem uM : ∀ u1,gP u1 [] = ([]) := fun _ => rfl
theorem qO : ∀ t z zs,gP t (z :: zs) = (gP (t.take (t.length - z)) zs ++ [t.drop (t.length - z)]) := fun _ _ _ => rfl
noncomputable def gQ (t : List Nat) (size : Nat) : Bool := (List.range size).all fun k => k == 0 || ltb (t.take size) ((t.take size).drop k)
noncomputable def dA (t : List Nat) : Nat -> Nat
 | 0 => 0
 | z + 1 => if gQ t (z + 1) then z + 1 else dA t z
theorem l9 {t : List Nat} : ∀ z,dA t (z + 1) = (if gQ t (z + 1) then z + 1 else dA t z) := fun _ => rfl
noncomputable def fY : Nat -> List Nat -> List (List Nat)
 | 0,_ => []
 | f + 1,t => if t = [] then [] else t.take (dA t t.length) :: fY f (t.drop (dA t t.length))
theorem jY : ∀ f t,fY (f + 1) t = (if t = [] then [] else t.take (dA t t.length) :: fY f (t.drop (dA t t.length))) := fun _ _ => rfl
noncomputable def jK (w t : List Nat) (at_ : Nat) : Bool := at_ + w.length <= t.length && (t.drop at_).take w.length == w
noncomputable def oA (w t : List Nat) : Nat -> Nat -> Nat
 | 0,at_ => at_
 | f + 1,at_ => if at_ < t.length /\ jK w t at_ = false then oA w t f (at_ + 1) else at_
theorem uN {w t : List Nat} : ∀ f at_,oA w t (f + 1) at_ = (if at_ < t.length /\ jK w t at_ = false then oA w t f (at_ + 1) else at_) := fun _ _ => rfl
noncomputable def dI (t : List Nat) : List (Nat × List Nat) -> Nat -> Bool
 | [],at_ => at_ == t.length
 | (kind,w) :: rs,at_ =>
   if kind = 2 then w.length + at_ <= t.length && jK w t (t.length - w.length)
   else
     let a := if kind = 1 then oA w t (t.length + 1) at_ else at_
     if jK w t a then dI t rs (a + w.length) else false
theorem iT {t : List Nat} : ∀ kind w rs at_,dI t ((kind,w) :: rs) at_ = (if kind = 2 then w.length + at_ <= t.length && jK w t (t.length - w.length) else let a := if kind = 1 then oA w t (t.length + 1) at_ else at_;if jK w t a then dI t rs (a + w.length) else false) := fun _ _ _ _ => rfl
noncomputable def iE : List (List Nat) -> List (Nat × List Nat)
 | [] => []
 | [w] => [(2,w)]
 | w :: ws => (1,w) :: (0,[]) :: iE ws
theorem Gb : ∀ w,iE ([w]) = ([(2,w)]) := fun _ => rfl
noncomputable def dB : List (List Nat) -> List (Nat × List Nat)
 | [] => []
 | w :: ws => (0,w) :: iE ws
noncomputable def fJ (t : List Nat) : List Nat -> Bool
 | [] => true
 | [_] => true
 | a :: b :: r => c9 t a b && fJ t (b :: r)
theorem sV {t : List Nat} : ∀ a b r,fJ t (a :: b :: r) = (c9 t a b && fJ t (b :: r)) := fun _ _ _ => rfl
noncomputable def jZ : List (List Nat) -> Bool
 | [] => true
 | [_] => true
 | a :: b :: r => (a == b || ltb b a) && jZ (b :: r)
noncomputable def fS : Nat -> List (List Nat)
 | 0 => [[]]
 | n + 1 => (fS n).flatMap fun w => [0 :: w,1 :: w,2 :: w]
noncomputable abbrev S (l : List Nat) : Str := ⟨l.toArray⟩
theorem dQ (l : List Nat) : (S l).cps.toList = l := by rfl
theorem bX (l : List Nat) : (S l).length = l.length := by rfl
theorem oB (a b : List Nat) : S a ++ S b = S (a ++ b) := by
 show (⟨a.toArray ++ b.toArray⟩ : Str) = ⟨(a ++ b).toArray⟩;simp
theorem sW {a b : List Nat} : (S a == S b) = (a == b) := by
 rw [Bool.eq_iff_iff,beq_iff_eq,beq_iff_eq];constructor
 · intro h;have := congrArg (fun s : Str => s.cps.toList) h;simpa using this
 · rintro rfl;rfl
theorem bM {l : List Nat} {k c : Nat} {H : List MO} (h : l[k]? = some c) : gA (.str (S l)) (.int (k : Int)) H = some (.str (S [c])) := by
 have hk : k < l.length := (List.getElem?_eq_some_iff.mp h).1;unfold gA ix;simp only [bX];refine aJ (if_pos (by solve_by_elim (maxDepth := 2) [lt_of_lt_of_le])) (aJ (if_pos (Int.ofNat_lt.mpr ‹_›)) ?_);simp [h]
theorem b8 {xs : List MV} {j k : Nat} {v : MV} {H : List MO} (hj : H[j]? = some (.list xs)) (h : xs[k]? = some v) : gA (.ref j) (.int (k : Int)) H = some v := by
 have hk : k < xs.length := (List.getElem?_eq_some_iff.mp h).1;unfold gA ix;simp only [hj];refine aJ (if_pos (by solve_by_elim (maxDepth := 2) [lt_of_lt_of_le])) (aJ (if_pos (Int.ofNat_lt.mpr ‹_›)) ?_);simpa using h
theorem gR {xs : List MV} {j : Nat} {v : MV} {H : List MO} (hj : H[j]? = some (.list (xs ++ [v]))) : gA (.ref j) (.int (-1)) H = some v := by
 unfold gA ix;simp only [hj];refine aJ (if_neg (by decide)) (aJ (if_pos (by exact nL)) ?_);simp;have : ((-1 : Int) + ((xs.length : Int) + 1)).toNat = xs.length := by lia
 refine aJ this ?_;exact aM
theorem fK {xs : List MV} {k : Nat} {v : MV} {H : List MO} (h : xs[k]? = some v) : gA (.tup xs) (.int (k : Int)) H = some v := by
 have hk : k < xs.length := (List.getElem?_eq_some_iff.mp h).1;unfold gA ix;dsimp only;refine aJ (if_pos (by solve_by_elim (maxDepth := 2) [lt_of_lt_of_le])) (aJ (if_pos (Int.ofNat_lt.mpr ‹_›)) ?_);exact h
theorem wP (n z : Nat) (h : 0 < z) : clipAt n (-(z : Int)) = n - z := by
 unfold clipAt;rw [if_pos (Int.neg_neg_of_pos (Int.ofNat_lt.mpr h)),Int.add_comm,<- Int.sub_eq_add_neg,Int.min_eq_left (Int.sub_le_self _ (Int.natCast_nonneg z)),Int.max_comm];rcases le_total z n with q | q
 · rw [Int.max_eq_left (Int.sub_nonneg_of_le (Int.ofNat_le.mpr q))];exact Int.toNat_sub n z
 · rw [Int.max_eq_right (Int.sub_nonpos_of_le (Int.ofNat_le.mpr q))];exact (Nat.sub_eq_zero_of_le q).symm
theorem yZ {β : Type} (xs : List β) (a b : Nat) : jP xs (some (a : Int)) (some (b : Int)) = (xs.take b).drop a := by
 unfold jP;simp only [Option.elim_some,xN];refine aJ List.drop_take ?_;rcases le_total a xs.length with h | h
 · refine aJ (min_eq_left h) ?_;rcases le_total b xs.length with h2 | h2
   · exact aJ (min_eq_left h2) rfl
   · exact aJ (min_eq_right h2) (aJ (take_of_length_le (by simp)) (aJ (take_of_length_le (by simp;lia)) rfl))
 · refine aJ (min_eq_right h) (aJ (drop_eq_nil_of_le (le_refl _)) (aJ (drop_eq_nil_of_le h) ?_));simp
theorem wQ {β : Type} (xs : List β) (a : Nat) : jP xs (some (a : Int)) none = xs.drop a := by
 unfold jP;simp only [Option.elim_some,Option.elim_none,xN];rcases le_total a xs.length with h | h
 · exact aJ (min_eq_left h) (aJ (take_of_length_le (by simp)) rfl)
 · refine aJ (min_eq_right h) (aJ (drop_eq_nil_of_le (le_refl _)) (aJ (drop_eq_nil_of_le h) ?_));simp
theorem uO {β : Type} (xs : List β) (z : Nat) (h : 0 < z) : jP xs (some (-(z : Int))) none = xs.drop (xs.length - z) := by
 unfold jP;simp only [Option.elim_some,Option.elim_none,wP _ _ h];exact aJ (take_of_length_le (by simp)) rfl
theorem Gc {β : Type} (xs : List β) (z : Nat) (h : 0 < z) : jP xs none (some (-(z : Int))) = xs.take (xs.length - z) := by
 unfold jP;simp only [Option.elim_some,Option.elim_none,wP _ _ h,drop_zero,sub_zero]
theorem gE : ∀ (a b : List Nat),ltb a b = decide (a < b)
 | [],[] => by rfl
 | [],_ :: _ => by rfl
 | _ :: _,[] => by rfl
 | a :: as,b :: bs => by
   rw [Bh];refine aJ (gE as bs) ?_;by_cases h1 : a < b
   · refine aJ (if_pos h1) ?_;simp [cons_lt_cons_iff,h1]
   · refine aJ (if_neg h1) ?_;by_cases h2 : b < a
     · refine aJ (if_pos h2) ?_;symm;simp [cons_lt_cons_iff,h1];lia
     · refine aJ (if_neg h2) ?_;have : a = b := by lia
       subst this;simp [cons_lt_cons_iff]
section
variable {a b : Int} {H : List MO} {c : Bool}
theorem Ox (h : a > b) : rL (.int a) (.int b) H = some true := by unfold rL;simp [h]
theorem Nu (h : ¬ a > b) : rL (.int a) (.int b) H = some false := by unfold rL;simp;exact Int.not_lt.mp ‹_›
theorem r8 (h : a < b) : fW (.int a) (.int b) H = some true := by unfold fW;simp [h]
theorem Ep (h : ¬ a < b) : fW (.int a) (.int b) H = some false := by unfold fW;simp;exact Int.not_lt.mp ‹_›
theorem R9 (h : a >= b) : Es (.int a) (.int b) H = some true := by unfold Es;simp;assumption
theorem Rd (h : ¬ a >= b) : Es (.int a) (.int b) H = some false := by unfold Es;simp;exact Int.not_le.mp ‹_›
theorem Sa (h : a <= b) : vD (.int a) (.int b) H = some true := by unfold vD;simp;assumption
theorem Sb (h : ¬ a <= b) : vD (.int a) (.int b) H = some false := by unfold vD;simp;exact Int.not_le.mp ‹_›
theorem Hv (h : a = b) : dH (.int a) (.int b) H = some true := by unfold dH;simp [h]
theorem I2 (h : ¬ a = b) : dH (.int a) (.int b) H = some false := by unfold dH;simp [h]
theorem gZ {x y : List Nat} (h : (x == y) = c) : dH (.str (S x)) (.str (S y)) H = some c := by unfold dH;simp only [sW,h]
theorem Kk {x y : List Nat} (h : (x == y) = !c) : lM (.str (S x)) (.str (S y)) H = some c := by unfold lM dH;simp [sW,h]
end
noncomputable abbrev el (t : List Nat) (k : Nat) : MV := .tup [.str (S (t.drop k)),.int (k : Int)]
theorem Bi {t : List Nat} {i j : Nat} (hi : i < t.length) (hj : j < t.length) (H : List MO) : fW (el t i) (el t j) H = some (c9 t i j) := by
 unfold fW c9;simp only [sW,dQ,gE];congr 1;by_cases h : t.drop i = t.drop j
 · have hij : i = j := by have := congrArg List.length h;simp at this;omega
   subst hij;simp
 · exact aJ (if_neg (by simpa using h)) rfl
noncomputable abbrev Ex (H H' : List MO) : Prop := ∀ (i : Nat) (o : MO),H[i]? = some o -> H'[i]? = some o
theorem Ex.app (H E : List MO) : Ex H (H ++ E) := fun i o e => by refine aJ (getElem?_append_left (List.getElem?_eq_some_iff.mp e).1) ?_;exact e
theorem bE (H : List MO) (o : MO) (E : List MO) : (H ++ o :: E)[H.length]? = some o := by exact aM
theorem b9 {H : List MO} {h : Nat} {o : MO} (e : H[h]? = some o) (x : MO) : (H.set h x)[h]? = some x := by
 exact aJ (getElem?_set_self (List.getElem?_eq_some_iff.mp e).1) rfl
theorem iF (H : List MO) (h : Nat) (x y : MO) : (H.set h x).set h y = H.set h y := by simp
theorem iA {xs : List Nat} {t : List Nat} {k : Nat} (h : k < xs.length) : (xs.map (el t))[k]? = some (el t (xs.getD k 0)) := by
 simp [h]
theorem mA (xs : List Nat) (t : List Nat) (k v : Nat) : (xs.map (el t)).set k (el t v) = (xs.set k v).map (el t) := by
 exact aJ List.map_set rfl
section
variable {t : List Nat} {h : Nat}
noncomputable abbrev Sc : WT := aN rL (aE 2) (aE 1)
noncomputable abbrev Sd : WS := (aI (aW 4 (aX Hx (aX fN (aE 2) (wK (.int 1))) (wK (.int 1))))
 (aI (aW 5 (a7 (aE 0) (aE 4)))
 (aI (bB (aN fW (aE 3) (aE 5)) (aI (tM (aE 5) (aE 0) (aE 2))
 (aI (aW 2 (aE 4))
 (aI Et
 aK))) aK)
 (aI oK
 aK))))
theorem I3 {st new : Nat} {P : d5} (hn : new < t.length) : ∀ (f : Nat) (xs : List Nat) (pos : Nat) (ρ : bI) (H : List MO),pos <= f -> pos < xs.length -> (∀ x ∈ xs,x < t.length) -> H[h]? = some (.list (xs.map (el t))) -> ρ 0 = some (.ref h) -> ρ 1 = some (.int (st : Int)) -> ρ 2 = some (.int (pos : Int)) -> ρ 3 = some (el t new) -> (∀ (ρ' : bI) (xs' : List Nat) (pos' : Nat),ρ' 0 = some (.ref h) -> ρ' 2 = some (.int (pos' : Int)) -> ρ' 3 = some (el t new) -> pos' < xs'.length -> xs'.set pos' new = jI (c9 t) new f xs st pos -> P .next ρ' (H.set h (.list (xs'.map (el t))))) -> eF Sc Sd P (f + 1) ρ H := by
 intro f;induction f with
 | zero =>
   intro xs pos ρ H hf hp hx hH h0 h1 h2 h3 hP;have hp0 : pos = 0 := by exact Nat.eq_zero_of_le_zero ‹_›
   refine ⟨_,h2,_,h1,false,Nu (by (simp [*];done)),?_⟩;have := hP ρ xs pos h0 h2 h3 hp rfl;have e : H.set h (.list (xs.map (el t))) = H := by
     apply ext_getElem?;intro i;by_cases hi : i = h
     · subst hi;exact aJ (b9 hH ..) (aJ (hH ..) rfl)
     · exact aJ (getElem?_set_ne (Ne.symm hi)) rfl
   rwa [e] at this
 | succ f ih =>
   intro xs pos ρ H hf hp hx hH h0 h1 h2 h3 hP;have eH : H.set h (.list (xs.map (el t))) = H := by
     apply ext_getElem?;intro i;by_cases hi : i = h
     · subst hi;exact aJ (b9 hH ..) (aJ (hH ..) rfl)
     · exact aJ (getElem?_set_ne (Ne.symm hi)) rfl
   by_cases hs : st < pos
   · refine ⟨_,h2,_,h1,true,Ox (Int.ofNat_lt.mpr ‹_›),?_⟩;have hpp : (pos - 1) / 2 < xs.length := lt_of_le_of_lt (le_trans (div_le_self _ _) (sub_le _ _)) (by first | assumption | exact hp | lia);have epp : ((pos : Int) - 1) / 2 = (((pos - 1) / 2 : Nat) : Int) := by rw [Int.natCast_ediv,Int.natCast_sub (lt_of_le_of_lt (zero_le _) hs)];rfl
     have hpar : xs.getD ((pos - 1) / 2) 0 < t.length := hx _ (by refine aJ getD_eq_getElem?_getD (aJ (getElem?_eq_getElem hpp) ?_);simp);refine ⟨_,h2,⟨Int.sub_nonneg_of_le (Int.ofNat_le.mpr (lt_of_le_of_lt (zero_le _) hs)),rfl,?_⟩⟩;refine aJ epp ?_;refine ⟨_,h0,_,rfl,_,b8 hH (iA hpp),?_⟩;have hun : jI (c9 t) new (f + 1) xs st pos = if c9 t new (xs.getD ((pos - 1) / 2) 0) = true then jI (c9 t) new f (xs.set pos (xs.getD ((pos - 1) / 2) 0)) st ((pos - 1) / 2) else xs.set pos new := by
       rw [o5,if_pos hs]
     cases hl : c9 t new (xs.getD ((pos - 1) / 2) 0) with
     | true =>
       refine ⟨_,h3,_,rfl,true,(Bi hn hpar H).trans (aJ hl rfl),?_⟩;refine ⟨_,rfl,_,h0,_,h2,_,hH,by solve_by_elim (maxDepth := 2) [lt_of_lt_of_le],by simpa using hp,?_⟩;refine ⟨_,rfl,?_⟩;refine ih (xs.set pos (xs.getD ((pos - 1) / 2) 0)) ((pos - 1) / 2) _ _ (by lia) (by simpa using hpp) (fun x hxm => ?_) ?_ h0 h1 rfl h3 (fun ρ' xs' pos' q0 q2 q3 q4 q5 => ?_)
       · rcases mem_or_eq_of_mem_set hxm with q | q
         · exact hx x q
         · refine aJ q ?_;exact hpar
       · refine aJ (b9 hH ..) ?_;congr 2;rw [show ((pos : Int)).toNat = pos from rfl,mA]
       · refine aJ (iF ..) ?_;refine hP ρ' xs' pos' q0 q2 q3 q4 ?_;refine aJ q5 (aJ hun (aJ hl ?_));rfl
     | false =>
       refine ⟨_,h3,_,rfl,false,(Bi hn hpar H).trans (aJ hl rfl),?_⟩;have := hP (upd (upd ρ 4 (.int (((pos - 1) / 2 : Nat) : Int))) 5 (el t (xs.getD ((pos - 1) / 2) 0))) xs pos h0 h2 h3 hp (by refine aJ hun (aJ hl ?_);rfl)
       replace this := eH ▸ this
       exact this
   · refine ⟨_,h2,_,h1,false,Nu (by (simp [*];done)),?_⟩;have := hP ρ xs pos h0 h2 h3 hp (by rw [o5,if_neg hs])
     replace this := eH ▸ this
     exact this
theorem r9 {xs : List Nat} {st pos : Nat} {H : List MO} {P : cM} (hH : H[h]? = some (.list (xs.map (el t)))) (hp : pos < xs.length) (hx : ∀ x ∈ xs,x < t.length) (hP : P .none (H.set h (.list ((jI (c9 t) (xs.getD pos 0) xs.length xs st pos).map (el t))))) : jB [.ref h,.int (st : Int),.int (pos : Int)] H P := by
 refine ⟨rfl,_,rfl,_,rfl,_,b8 hH (iA hp),?_⟩;refine ⟨xs.length + 1,I3 (hx _ (by refine aJ getD_eq_getElem?_getD (aJ (getElem?_eq_getElem hp) ?_);simp) : xs.getD pos 0 < t.length) xs.length xs pos _ H (le_of_lt ‹_›) hp hx hH rfl rfl rfl rfl fun ρ' xs' pos' q0 q2 q3 q4 q5 => ?_⟩;refine ⟨_,q3,_,q0,_,q2,_,b9 hH _,by solve_by_elim (maxDepth := 2) [lt_of_lt_of_le],by simpa using q4,?_⟩
 skip
 refine aJ (iF ..) (aJ (show ((pos' : Int)).toNat = pos' from rfl ..) (aJ (mA ..) (aJ (q5 ..) ?_)));exact hP
end
theorem wR {H : List MO} {h : Nat} {o : MO} (hH : H[h]? = some o) : H.set h o = H := by
 apply ext_getElem?;intro i;by_cases hi : i = h
 · subst hi;exact aJ (b9 hH ..) (aJ (hH ..) rfl)
 · exact aJ (getElem?_set_ne (Ne.symm hi)) rfl
theorem iB {xs : List Nat} {n k : Nat} (hx : ∀ x ∈ xs,x < n) (h : k < xs.length) : xs.getD k 0 < n := hx _ (by refine aJ getD_eq_getElem?_getD (aJ (getElem?_eq_getElem h) ?_);simp)
theorem eW {xs : List Nat} {n k v : Nat} (hx : ∀ x ∈ xs,x < n) (hv : v < n) : ∀ x ∈ xs.set k v,x < n := fun x hm => by
 rcases mem_or_eq_of_mem_set hm with q | q
 · exact hx x q
 · refine aJ q ?_;exact hv
section
variable {t : List Nat} {h : Nat}
theorem Db {lt : Nat -> Nat -> Bool} {new st : Nat} : ∀ (f : Nat) (xs : List Nat) (pos : Nat),(jI lt new f xs st pos).length = xs.length := by
 intro f;induction f with
 | zero =>
   intro xs pos;exact length_set ..
 | succ f ih =>
   intro xs pos;rw [o5];split
   · split
     · refine aJ (ih ..) ?_;exact length_set ..
     · exact length_set ..
   · exact length_set ..
theorem Dc {lt : Nat -> Nat -> Bool} {new st n : Nat} (hn : new < n) : ∀ (f : Nat) (xs : List Nat) (pos : Nat),pos < xs.length -> (∀ x ∈ xs,x < n) -> ∀ x ∈ jI lt new f xs st pos,x < n := by
 intro f;induction f with
 | zero =>
   intro xs pos hp hx;rw [I0];exact eW hx hn
 | succ f ih =>
   intro xs pos hp hx;rw [o5];split
   · split
     · exact ih _ _ (by simp;exact lt_of_le_of_lt (le_trans (div_le_self _ _) (sub_le _ _)) ‹_›) (eW hx (iB hx (by exact lt_of_le_of_lt (le_trans (div_le_self _ _) (sub_le _ _)) ‹_›)))
     · exact eW hx hn
   · exact eW hx hn
noncomputable abbrev Rf : WT := aN fW (aE 5) (aE 2)
noncomputable abbrev Rg : WS := (aI (aW 6 (aX bD (aE 5) (wK (.int 1))))
 (aI (bB (dF (aN fW (aE 6) (aE 2)) (eR (aN fW (a7 (aE 0) (aE 5)) (a7 (aE 0) (aE 6))))) (aI (aW 5 (aE 6))
 aK) aK)
 (aI (tM (a7 (aE 0) (aE 5)) (aE 0) (aE 1))
 (aI (aW 1 (aE 5))
 (aI (aW 5 (aX bD (aX rJ (wK (.int 2)) (aE 1)) (wK (.int 1))))
 aK)))))
theorem I4 {en : Nat} {st nw : MV} {P : d5} : ∀ (f : Nat) (xs : List Nat) (pos : Nat) (ρ : bI) (H : List MO),xs.length = en -> en <= f + pos -> pos < en -> (∀ x ∈ xs,x < t.length) -> H[h]? = some (.list (xs.map (el t))) -> ρ 0 = some (.ref h) -> ρ 1 = some (.int (pos : Int)) -> ρ 2 = some (.int (en : Int)) -> ρ 3 = some st -> ρ 4 = some nw -> ρ 5 = some (.int ((2 * pos + 1 : Nat) : Int)) -> (∀ (ρ' : bI) (xs' : List Nat) (pos' : Nat),ρ' 0 = some (.ref h) -> ρ' 1 = some (.int (pos' : Int)) -> ρ' 3 = some st -> ρ' 4 = some nw -> xs'.length = en -> pos' < en -> (∀ x ∈ xs',x < t.length) -> (xs',pos') = eO (c9 t) f xs en pos -> P .next ρ' (H.set h (.list (xs'.map (el t))))) -> eF Rf Rg P (f + 1) ρ H := by
 intro f;induction f with
 | zero => intro xs pos ρ H hl hf hp;omega
 | succ f ih =>
   intro xs pos ρ H hl hf hp hx hH h0 h1 h2 h3 h4 h5 hP;have hun : eO (c9 t) (f + 1) xs en pos = if 2 * pos + 1 < en then eO (c9 t) f (xs.set pos (xs.getD (if 2 * pos + 2 < en /\ c9 t (xs.getD (2 * pos + 1) 0) (xs.getD (2 * pos + 2) 0) = false then 2 * pos + 2 else 2 * pos + 1) 0)) en (if 2 * pos + 2 < en /\ c9 t (xs.getD (2 * pos + 1) 0) (xs.getD (2 * pos + 2) 0) = false then 2 * pos + 2 else 2 * pos + 1) else (xs,pos) := by
     exact sU ..
   by_cases hc : 2 * pos + 1 < en
   · replace hun := (if_pos hc) ▸ hun
     have rest : ∀ (c : Nat) (aY : bI),c < en -> pos < c -> aY 0 = some (.ref h) -> aY 1 = some (.int (pos : Int)) -> aY 2 = some (.int (en : Int)) -> aY 3 = some st -> aY 4 = some nw -> aY 5 = some (.int (c : Int)) ->
         eO (c9 t) (f + 1) xs en pos = eO (c9 t) f (xs.set pos (xs.getD c 0)) en c ->
         aI (tM (a7 (aE 0) (aE 5)) (aE 0) (aE 1)) (aI (aW 1 (aE 5)) (aI (aW 5 (aX bD (aX rJ (wK (.int 2)) (aE 1)) (wK (.int 1)))) aK)) aY H (pJ (eF Rf Rg P (f + 1)) P) := fun c aY hc hpc g0 g1 g2 g3 g4 g5 hs => by
       refine ⟨_,g0,_,g5,_,b8 hH (iA (by exact lt_of_lt_of_le ‹_› (le_of_eq (Eq.symm ‹_›)))),_,g0,_,g1,_,hH,by solve_by_elim (maxDepth := 2) [lt_of_lt_of_le],by simp;(simp [*];done),?_⟩;refine ⟨_,g5,_,rfl,by decide,?_⟩;refine ih (xs.set pos (xs.getD c 0)) c _ _ (by simpa using hl) (by omega) hc (eW hx (iB hx (by exact lt_of_lt_of_le ‹_› (le_of_eq (Eq.symm ‹_›))))) ?_ g0 rfl g2 g3 g4 rfl fun ρ' xs' pos' q0 q1 q3 q4 q5 q6 q7 q8 => ?_
       · exact aJ (b9 hH ..) (aJ (show ((pos : Int)).toNat = pos from rfl ..) (aJ (mA ..) rfl))
       · refine aJ (iF ..) ?_;exact hP ρ' xs' pos' q0 q1 q3 q4 q5 q6 q7 (q8.trans hs.symm)
     have hl1 : xs.getD (2 * pos + 1) 0 < t.length := iB hx (by exact lt_of_lt_of_le ‹_› (le_of_eq (Eq.symm ‹_›)));refine ⟨_,h5,_,h2,true,r8 (Int.ofNat_lt.mpr ‹_›),?_⟩;refine ⟨_,h5,?_⟩;by_cases hr : 2 * pos + 2 < en
     · have hl2 : xs.getD (2 * pos + 2) 0 < t.length := iB hx (by exact lt_of_lt_of_le ‹_› (le_of_eq (Eq.symm ‹_›)));cases hlt : c9 t (xs.getD (2 * pos + 1) 0) (xs.getD (2 * pos + 2) 0) with
       | false =>
         refine ⟨_,rfl,_,h2,true,r8 (Int.ofNat_lt.mpr ‹_›),?_⟩;refine ⟨_,h0,_,h5,_,b8 hH (iA (by exact lt_of_lt_of_le ‹_› (le_of_eq (Eq.symm ‹_›)))),_,h0,_,rfl,_,b8 (k := 2 * pos + 2) hH (iA (by exact lt_of_lt_of_le ‹_› (le_of_eq (Eq.symm ‹_›)))),false,(Bi hl1 hl2 H).trans (aJ hlt rfl),?_⟩;refine ⟨_,rfl,?_⟩;refine rest (2 * pos + 2) _ hr (Nat.lt_succ_of_lt Pb) h0 h1 h2 h3 h4 rfl ?_;exact aJ hun (aJ (if_pos ⟨hr,hlt⟩) rfl)
       | true =>
         refine ⟨_,rfl,_,h2,true,r8 (Int.ofNat_lt.mpr ‹_›),?_⟩;refine ⟨_,h0,_,h5,_,b8 hH (iA (by exact lt_of_lt_of_le ‹_› (le_of_eq (Eq.symm ‹_›)))),_,h0,_,rfl,_,b8 (k := 2 * pos + 2) hH (iA (by exact lt_of_lt_of_le ‹_› (le_of_eq (Eq.symm ‹_›)))),true,(Bi hl1 hl2 H).trans (aJ hlt rfl),?_⟩;refine rest (2 * pos + 1) _ hc (by exact Pb) h0 h1 h2 h3 h4 h5 ?_;exact aJ hun (aJ (if_neg (by rw [hlt];simp)) rfl)
     · refine ⟨_,rfl,_,h2,false,Ep (by omega),?_⟩;refine rest (2 * pos + 1) _ hc (by exact Pb) h0 h1 h2 h3 h4 h5 ?_;exact aJ hun (aJ (if_neg (by (simp [*];done))) rfl)
   · refine ⟨_,h5,_,h2,false,Ep (by omega),?_⟩;have := hP ρ xs pos h0 h1 h3 h4 hl hp hx (by exact aJ hun (aJ (if_neg hc) rfl))
     replace this := (wR hH) ▸ this
     exact this
theorem oE {xs : List Nat} {pos : Nat} {H : List MO} {P : cM} (hH : H[h]? = some (.list (xs.map (el t)))) (hp : pos < xs.length) (hx : ∀ x ∈ xs,x < t.length) (hP : P .none (H.set h (.list ((fX (c9 t) xs pos).map (el t))))) : gO [.ref h,.int (pos : Int)] H P := by
 refine ⟨rfl,_,rfl,_,hH,?_⟩;refine ⟨_,rfl,_,rfl,_,rfl,_,b8 hH (iA hp),?_⟩;refine ⟨_,rfl,by decide,?_⟩;refine ⟨xs.length + 1,I4 xs.length xs pos _ H rfl (le_add_right _ _) hp hx hH rfl rfl (by simp [upd]) rfl rfl rfl fun ρ' xs' pos' q0 q1 q3 q4 q5 q6 q7 q8 => ?_⟩;refine ⟨_,q4,_,q0,_,q1,_,b9 hH _,by solve_by_elim (maxDepth := 2) [lt_of_lt_of_le],by simp;exact lt_of_lt_of_le ‹_› (le_of_eq (Eq.symm ‹_›)),?_⟩;refine ⟨_,q0,_,q3,_,q1,?_⟩;refine r9 (t := t) (xs := xs'.set pos' (xs.getD pos 0)) (st := pos) (pos := pos') ?_ (by exact aJ (length_set ..) (lt_of_lt_of_le ‹_› (le_of_eq (Eq.symm ‹_›)))) (eW q7 (iB hx hp : xs.getD pos 0 < t.length)) ?_
 · exact aJ (iF ..) (aJ (b9 hH ..) (aJ (show ((pos' : Int)).toNat = pos' from rfl ..) (aJ (mA ..) rfl)))
 · skip
   have e : fX (c9 t) xs pos = jI (c9 t) ((xs'.set pos' (xs.getD pos 0)).getD pos' 0) (xs'.set pos' (xs.getD pos 0)).length (xs'.set pos' (xs.getD pos 0)) pos pos' := by
     unfold fX;exact cE q8 rfl
   refine aJ (iF ..) (aJ (iF ..) (cE (e ..) ?_));exact hP
end
theorem j7 {H : List MO} {j : Nat} {xs : List MV} (h : H[j]? = some (.list xs)) : J7 (.ref j) H = some (!xs.isEmpty) := by
 unfold J7;simp only [h]
theorem Gd (m : Nat) : rng (((m + 1 : Nat) : Int) - 1) (-1) (m + 1) = .int (m : Int) :: rng ((m : Int) - 1) (-1) m := by
 unfold rng;refine aJ range_succ_eq_map (aJ map_cons (aJ map_map ?_));congr 1
 · congr 1;(simp;done)
 · apply map_congr_left;intro i _;show MV.int _ = MV.int _;congr 1;refine aJ (show ((Nat.succ i : Nat) : Int) = (i : Int) + 1 from rfl) ?_
   lia
theorem y8 {lt : Nat -> Nat -> Bool} {n en : Nat} : ∀ (f : Nat) (xs : List Nat) (pos : Nat),xs.length = en -> pos < en -> (∀ x ∈ xs,x < n) -> (eO lt f xs en pos).1.length = en /\ (eO lt f xs en pos).2 < en /\ ∀ x ∈ (eO lt f xs en pos).1,x < n := by
 intro f;induction f with
 | zero =>
   intro xs pos hl hp hx;exact ⟨hl,hp,hx⟩
 | succ f ih =>
   intro xs pos hl hp hx;rw [sU];split
   · have hc : (if 2 * pos + 2 < en /\ lt (xs.getD (2 * pos + 1) 0) (xs.getD (2 * pos + 2) 0) = false then 2 * pos + 2 else 2 * pos + 1) < en := by split <;> omega
     exact ih _ _ (by simpa using hl) hc (eW hx (iB hx (by exact lt_of_lt_of_le ‹_› (le_of_eq (Eq.symm ‹_›)))))
   · exact ⟨hl,hp,hx⟩
theorem nI {lt : Nat -> Nat -> Bool} {n : Nat} {xs : List Nat} {pos : Nat} (hp : pos < xs.length) (hx : ∀ x ∈ xs,x < n) : (fX lt xs pos).length = xs.length /\ ∀ x ∈ fX lt xs pos,x < n := by
 obtain ⟨h1,h2,h3⟩ := y8 (lt := lt) xs.length xs pos rfl hp hx;unfold fX;have hn : xs.getD pos 0 < n := iB hx hp;constructor
 · rw [Db];simpa using h1
 · refine Dc ?_ _ _ _ ?_ (eW h3 hn)
   · exact iB (eW h3 hn) (by simp;exact lt_of_lt_of_le ‹_› (le_of_eq (Eq.symm ‹_›)))
   · simp;exact lt_of_lt_of_le ‹_› (le_of_eq (Eq.symm ‹_›))
theorem y9 {lt : Nat -> Nat -> Bool} {n : Nat} : ∀ (m : Nat) (xs : List Nat),m <= xs.length -> (∀ x ∈ xs,x < n) -> (eK lt xs m).length = xs.length /\ ∀ x ∈ eK lt xs m,x < n := by
 intro m;induction m with
 | zero =>
   intro xs _ hx;exact ⟨rfl,hx⟩
 | succ m ih =>
   intro xs hm hx;rw [yY];obtain ⟨a,b⟩ := nI (lt := lt) (pos := m) ‹_› hx;obtain ⟨c,d⟩ := ih (fX lt xs m) (by lia) b;exact ⟨c.trans a,d⟩
section
variable {t : List Nat} {h : Nat}
theorem I5 {P : d5} : ∀ (m : Nat) (xs : List Nat) (ρ : bI) (H : List MO),m <= xs.length -> (∀ x ∈ xs,x < t.length) -> H[h]? = some (.list (xs.map (el t))) -> ρ 0 = some (.ref h) -> (∀ ρ',P .next ρ' (H.set h (.list ((eK (c9 t) xs m).map (el t))))) -> cR (.nm 2) (aI (a6 (aV gO (aH (aE 0) (aH (aE 2) aL)))) aK) (fun _ => True) P (rng ((m : Int) - 1) (-1) m) ρ H := by
 intro m;induction m with
 | zero =>
   intro xs ρ H hm hx hH h0 hP;refine ⟨trivial,?_⟩;have := hP ρ;rw [yX,wR hH] at this;exact this
 | succ m ih =>
   intro xs ρ H hm hx hH h0 hP;refine aJ (Gd ..) ?_;refine ⟨trivial,_,rfl,_,h0,_,rfl,?_⟩;refine oE hH ‹_› hx ?_;obtain ⟨a,b⟩ := nI (lt := c9 t) (pos := m) ‹_› hx;refine ih (fX (c9 t) xs m) _ _ (by lia) b (b9 hH _) h0 fun ρ' => ?_;refine aJ (iF ..) ?_;exact hP ρ'
theorem uP {xs : List Nat} {H : List MO} {P : cM} (hH : H[h]? = some (.list (xs.map (el t)))) (hz : xs.length <= 1000000) (hx : ∀ x ∈ xs,x < t.length) (hP : P .none (H.set h (.list ((eK (c9 t) xs (xs.length / 2)).map (el t))))) : j5 [.ref h] H P := by
 refine ⟨rfl,_,rfl,_,hH,?_⟩;refine ⟨_,rfl,by decide,by decide,?_⟩;refine aJ (by simp : (((xs.map (el t)).length : Nat) : Int) / 2 = ((xs.length / 2 : Nat) : Int)) ?_;refine ⟨_,_,_,rfl,by decide,by lia,rfl,rfl,by solve_by_elim (maxDepth := 2) [lt_of_lt_of_le],by lia,?_⟩;refine I5 (t := t) (xs.length / 2) xs _ H (div_le_self _ _) hx hH rfl fun ρ' => ?_;exact hP
theorem uQ {ys : List Nat} {l : Nat} {H : List MO} {P : cM} (hH : H[h]? = some (.list ((ys ++ [l]).map (el t)))) (hz : ys.length < 1000000) (hx : ∀ x ∈ ys ++ [l],x < t.length) (hP : P (el t (qN (c9 t) (ys ++ [l])).1) (H.set h (.list ((qN (c9 t) (ys ++ [l])).2.map (el t))))) : iQ [.ref h] H P := by
 replace hH := (by exact map_append .. : (ys ++ [l]).map (el t) = ys.map (el t) ++ [el t l]) ▸ hH
 refine ⟨rfl,_,rfl,?_⟩;refine ⟨.list hH,?_⟩;refine ⟨ys.map (el t),el t l,hH,by simpa using hz,?_⟩;cases ys with
 | nil =>
   refine ⟨_,rfl,false,j7 (b9 hH _),?_⟩;exact ⟨_,rfl,hP⟩
 | cons y ys =>
   refine ⟨_,rfl,true,j7 (b9 hH _),?_⟩;refine ⟨_,rfl,_,b8 (k := 0) (b9 hH _) rfl,?_⟩;refine ⟨_,rfl,_,rfl,_,b9 hH _,by decide,by simp,?_⟩;refine ⟨_,rfl,?_⟩;refine oE (t := t) (xs := (y :: ys).set 0 l) (pos := 0) ?_ (succ_pos _) (eW (fun x hxm => hx x (by simp at hxm ⊢;rcases hxm with q | q <;> simp [q]) : ∀ x ∈ y :: ys,x < t.length) (hx l (by simp) : l < t.length)) ?_
   · exact aJ (iF ..) (aJ (b9 hH ..) (aJ (show ((0 : Int)).toNat = 0 from rfl ..) (aJ (mA ..) rfl)))
   · refine aJ (iF ..) (aJ (iF ..) ?_);refine ⟨_,rfl,?_⟩;have e : qN (c9 t) (y :: ys ++ [l]) = (y,fX (c9 t) ((y :: ys).set 0 l) 0) := by
       unfold qN;exact aJ (getLast?_concat : (y :: ys ++ [l]).getLast? = some l) (aJ (dropLast_concat : (y :: ys ++ [l]).dropLast = y :: ys) rfl)
     replace hP := e ▸ hP
     exact hP
end
theorem nJ {H : List MO} {i j : Nat} {xs : List MV} (h1 : H[i]? = some (.list xs)) (h2 : H[j]? = some (.list [])) : dH (.ref i) (.ref j) H = some xs.isEmpty := by
 unfold dH;simp only [h1,h2];cases xs with
 | nil => exact if_pos rfl
 | cons x xs => exact rfl
theorem aR {H : List MO} {i : Nat} {o : MO} (e : H[i]? = some o) (E : List MO) : (H ++ E)[i]? = some o := Ex.app H E i o e
theorem bZ {H : List MO} {i j : Nat} {o x : MO} (e : H[i]? = some o) (h : j ≠ i) : (H.set j x)[i]? = some o := by refine aJ (getElem?_set_ne h) ?_;exact e
noncomputable def bT (X : List Nat) (H H' : List MO) : Prop := ∀ (i : Nat) (o : MO),i ∉ X -> H[i]? = some o -> H'[i]? = some o
theorem bT.refl {X : List Nat} {H : List MO} : bT X H H := fun _ _ _ e => e
theorem bT.trans {X : List Nat} {H H' H'' : List MO} (a : bT X H H') (b : bT X H' H'') : bT X H H'' := fun i o hi e => b i o hi (a i o hi e)
theorem bT.app {X : List Nat} (H E : List MO) : bT X H (H ++ E) := fun i o _ e => aR e E
theorem bT.set {X : List Nat} {H : List MO} {i : Nat} {x : MO} (h : i ∈ X) : bT X H (H.set i x) := fun j o hj e => bZ e (fun q => hj (q ▸ h))
noncomputable abbrev a8 (l : List Nat) : List MV := l.map fun k : Nat => MV.int (k : Int)
theorem Rh {l : List Nat} {x : Nat} : a8 l ++ [MV.int (x : Int)] = a8 (l ++ [x]) := (map_append (l₁ := l) (l₂ := [x])).symm
section
variable {t : List Nat} {h : Nat}
noncomputable abbrev Ri : WS := (aI (aW 3 (a7 (aV iQ (aH (aE 0) aL)) (wK (.int 1))))
 (aI (a6 (bG "list" bA (aE 1) (aH (aE 3) aL)))
 (aI (bB (rM (aN dH (aE 2) (bW aL)) (aN fW (aE 3) (a7 (aE 2) (dO (wK (.int 1)))))) (aI (a6 (bG "list" bA (aE 2) (aH (aE 3) aL)))
 aK) aK)
 aK)))
theorem I6 {lt : Nat -> Nat -> Bool} {n : Nat} {ys : List Nat} {l : Nat} (hx : ∀ x ∈ ys ++ [l],x < n) : (qN lt (ys ++ [l])).2.length = ys.length /\ (qN lt (ys ++ [l])).1 < n /\ ∀ x ∈ (qN lt (ys ++ [l])).2,x < n := by
 have hl := hx l (by simp);unfold qN;refine aJ getLast?_concat (aJ dropLast_concat ?_);cases ys with
 | nil => exact ⟨rfl,hl,by exact fun _ h => absurd h not_mem_nil⟩
 | cons y ys =>
   have hy : ∀ x ∈ y :: ys,x < n := fun x hxm => hx x (by simp at hxm ⊢;rcases hxm with q | q <;> simp [q]);obtain ⟨a,b⟩ := nI (lt := lt) (xs := (y :: ys).set 0 l) (pos := 0) (succ_pos _) (eW hy hl);exact ⟨by exact a,hy y mem_cons_self,b⟩
theorem I7 {o s : Nat} {P : d5} (h1 : h ≠ o) (h2 : h ≠ s) (h3 : o ≠ s) : ∀ (f : Nat) (xs ord st : List Nat) (ρ : bI) (H : List MO),xs.length = f -> f <= 1000 -> ord.length + f <= 1000 -> st.length <= ord.length -> (∀ x ∈ xs,x < t.length) -> H[h]? = some (.list (xs.map (el t))) -> H[o]? = some (.list (a8 ord)) -> H[s]? = some (.list (a8 st)) -> ρ 0 = some (.ref h) -> ρ 1 = some (.ref o) -> ρ 2 = some (.ref s) -> (∀ (ρ' : bI) (H' : List MO),ρ' 1 = some (.ref o) -> ρ' 2 = some (.ref s) -> H'[o]? = some (.list (a8 (jJ (c9 t) (f + 1) xs ord st).1)) -> H'[s]? = some (.list (a8 (jJ (c9 t) (f + 1) xs ord st).2)) -> bT [h,o,s] H H' -> P .next ρ' H') -> eF (cD (aE 0)) Ri P (f + 1) ρ H := by
 intro f;induction f with
 | zero =>
   intro xs ord st ρ H hl hf hlo hls hx hH hO hS r0 r1 r2 hP;have : xs = [] := length_eq_zero_iff.mp hl;subst this;refine ⟨_,r0,false,j7 hH,?_⟩;exact hP ρ H r1 r2 (by exact hO) (by exact hS) .refl
 | succ f ih =>
   intro xs ord st ρ H hl hf hlo hls hx hH hO hS r0 r1 r2 hP;obtain ⟨ys,l,rfl⟩ : ∃ ys l,xs = ys ++ [l] := ⟨xs.dropLast,xs.getLast (by intro q;replace hl := q ▸ hl;contradiction),(dropLast_concat_getLast _).symm⟩;have hyl : ys.length = f := by simpa using hl
   obtain ⟨q1,q2,q3⟩ := I6 (lt := c9 t) hx;refine ⟨_,r0,true,(j7 hH).trans (by simp),?_⟩;refine ⟨_,r0,?_⟩;refine uQ hH (by lia) hx ?_;generalize hpo : qN (c9 t) (ys ++ [l]) = po at q1 q2 q3;have hend : jJ (c9 t) (f + 1 + 1) (ys ++ [l]) ord st = jJ (c9 t) (f + 1) po.2 (ord ++ [po.1]) (match st.getLast? with | none => st ++ [po.1] | some q => if po.1 < q then st ++ [po.1] else st) := by
     rw [I1,if_neg (by simp),hpo] <;> rfl
   replace hP := hend ▸ hP
   refine ⟨_,fK (k := 1) rfl,?_⟩;refine ⟨_,r1,.list (bZ hO h1),_,rfl,_,bZ hO h1,by exact Ht (lt_of_le_of_lt (le_trans (le_add_right _ _) ‹_›) (by decide)),?_⟩;have eS : a8 st ++ [MV.int (po.1 : Int)] = a8 (st ++ [po.1]) := by exact Rh
   refine aJ (by exact Rh : a8 ord ++ [MV.int (po.1 : Int)] = a8 (ord ++ [po.1])) ?_;generalize hH1 : ((H.set h (.list (po.2.map (el t)))).set o (.list (a8 (ord ++ [po.1])))) = H1;have k1 : H1[h]? = some (.list (po.2.map (el t))) := by refine cE hH1 ?_;exact bZ (b9 hH _) (Ne.symm h1)
   have k2 : H1[o]? = some (.list (a8 (ord ++ [po.1]))) := by refine cE hH1 ?_;exact b9 (bZ hO h1) _
   have k3 : H1[s]? = some (.list (a8 st)) := by refine cE hH1 ?_;exact bZ (bZ hS h2) h3
   have k4 : bT [h,o,s] H H1 := by refine cE hH1 ?_;exact (bT.set mem_cons_self).trans (bT.set (mem_cons_of_mem _ mem_cons_self))
   have s1 : (H1 ++ [MO.list []])[s]? = some (.list (a8 st)) := aR k3 _;have s2 : (H1 ++ [MO.list []])[H1.length]? = some (.list []) := bE H1 _ [];have fin : ∀ (aY : bI) (bH : List MO) (st' : List Nat),st'.length <= ord.length + 1 -> (match st.getLast? with | none => st ++ [po.1] | some q => if po.1 < q then st ++ [po.1] else st) = st' -> aY 0 = some (.ref h) -> aY 1 = some (.ref o) -> aY 2 = some (.ref s) ->
       bH[h]? = some (.list (po.2.map (el t))) -> bH[o]? = some (.list (a8 (ord ++ [po.1]))) -> bH[s]? = some (.list (a8 st')) -> bT [h,o,s] H bH -> eF (cD (aE 0)) Ri P (f + 1) aY bH := fun aY bH st' l1 e1 g0 g1 g2 m1 m2 m3 m4 => by
     replace hP := e1 ▸ hP
     exact ih po.2 (ord ++ [po.1]) st' aY bH (q1.trans hyl) (le_of_lt ‹_›) (lS ‹_›) (by simpa using l1) q3 m1 m2 m3 g0 g1 g2 fun ρ' H' z1 z2 z3 z4 z5 => hP ρ' H' z1 z2 z3 z4 (m4.trans z5)
   refine ⟨_,r2,?_⟩;refine ⟨by decide,?_⟩;cases hst : st.getLast? with
   | none =>
     have hsn : st = [] := getLast?_eq_none_iff.mp hst;refine bP fun no => ?_;subst hsn;refine no ?_;refine ⟨true,nJ s1 s2,?_⟩;refine ⟨_,r2,.list s1,_,rfl,_,s1,by simp,?_⟩;refine fin _ _ [po.1] (succ_pos _) (by rfl) r0 r1 r2 (bZ (aR k1 _) (Ne.symm h2)) (bZ (aR k2 _) (Ne.symm h3)) (b9 s1 _) (k4.trans ((bT.app _ _).trans (bT.set (by simp))))
   | some q =>
     obtain ⟨st0,rfl⟩ : ∃ st0,st = st0 ++ [q] := getLast?_eq_some_iff.mp hst;refine ⟨false,(nJ s1 s2).trans (by simp),?_⟩;have s3 : (H1 ++ [MO.list []])[s]? = some (.list (a8 st0 ++ [MV.int (q : Int)])) := by refine aJ s1 ?_;simp
     by_cases hlt : po.1 < q
     · refine ⟨_,rfl,_,r2,⟨_,rfl,⟨_,gR s3,true,r8 (Int.ofNat_lt.mpr ‹_›),?_⟩⟩⟩;refine ⟨_,r2,.list s1,_,rfl,_,s1,by simp at hls ⊢;lia,?_⟩;refine aJ eS ?_;refine fin _ _ (st0 ++ [q] ++ [po.1]) (by simp at hls ⊢;assumption) (by refine aJ hst ?_;exact if_pos ‹_›) r0 r1 r2 (bZ (aR k1 _) (Ne.symm h2)) (bZ (aR k2 _) (Ne.symm h3)) (b9 s1 _) (k4.trans ((bT.app _ _).trans (bT.set (by simp))))
     · refine ⟨_,rfl,_,r2,⟨_,rfl,⟨_,gR s3,false,Ep (by (simp [*];done)),?_⟩⟩⟩;refine fin _ _ (st0 ++ [q]) (by simp at hls ⊢;exact le_of_lt ‹_›) (by refine aJ hst ?_;exact if_neg ‹_›) r0 r1 r2 (aR k1 _) (aR k2 _) s1 (k4.trans (bT.app _ _))
theorem Dd {xs : List Nat} {H : List MO} {P : cM} (hH : H[h]? = some (.list (xs.map (el t)))) (hz : xs.length <= 400) (hx : ∀ x ∈ xs,x < t.length) (hP : ∀ (o s : Nat) (H' : List MO),H'[o]? = some (.list (a8 (jJ (c9 t) (xs.length + 1) xs [] []).1)) -> H'[s]? = some (.list (a8 (jJ (c9 t) (xs.length + 1) xs [] []).2)) -> bT [h] H H' -> P (.tup [.ref o,.ref s]) H') : jD [.ref h] H P := by
 have hlt : h < H.length := (List.getElem?_eq_some_iff.mp hH).1;refine ⟨rfl,by decide,by decide,?_⟩;refine ⟨xs.length + 1,I7 (o := H.length) (s := (H ++ [MO.list []]).length) (ne_of_lt ‹_›) (O9 ‹_›) (by simp) xs.length xs [] [] _ _ rfl (by exact le_trans ‹_› (by decide)) (by exact nz ‹_› (by decide)) (by decide) hx (aR (aR hH _) _) (aR (bE H _ []) _) (bE _ _ []) rfl rfl rfl fun ρ' H' z1 z2 z3 z4 z5 => ?_⟩;refine ⟨_,z1,_,z2,(show 2 <= 1000 by decide),?_⟩;refine hP _ _ H' z3 z4 fun i o hi e => ?_;have hil : i < H.length := (List.getElem?_eq_some_iff.mp e).1;refine z5 i o (fun q => ?_) (aR (aR e _) _);simp only [mem_cons,not_mem_nil,or_false] at q hi;rcases q with q | q | q
 · exact hi q
 · exact absurd ‹_› (ne_of_lt ‹_›)
 · simp at q;lia
end
theorem sA {t : Tg} {f : WT} {e : WE} {chk : List MO -> Prop} {a : Nat} {R : bI -> Prop} {P : List MO -> Prop} {H₀ : List MO} {p : MV -> Bool} {g : MV -> MV} (hchk : ∀ H,bT [a] H₀ H -> chk H) : ∀ (xs : List MV) (acc : List MV) (ρ : bI) (H : List MO),R ρ -> (∀ x ∈ xs,∀ ρ,R ρ -> ∃ ρ',t.bind x ρ = some ρ' /\ R ρ' /\ (∀ H,bT [a] H₀ H -> ∀ Q : Bool -> List MO -> Prop,(∀ E,Q (p x) (H ++ E)) -> f ρ' H Q) /\ (p x = true -> ∀ H,bT [a] H₀ H -> ∀ Q : MV -> List MO -> Prop,(∀ E,Q (g x) (H ++ E)) -> e ρ' H Q)) -> acc.length + xs.length < 1000000 -> bT [a] H₀ H -> H[a]? = some (.list acc) -> (∀ H',bT [a] H₀ H' -> H'[a]? = some (.list (acc ++ (xs.filter p).map g)) -> P H') -> fE t f e chk a P xs ρ H := by
 intro xs;induction xs with
 | nil =>
   intro acc ρ H hr hx hl he ha hP;exact ⟨hchk H he,hP H he (by simpa using ha)⟩
 | cons x xs ih =>
   intro acc ρ H hr hx hl he ha hP;refine bP fun no => ?_;obtain ⟨ρ',hb,hr',hf,hg⟩ := hx x mem_cons_self ρ hr;refine no ?_;refine ⟨hchk H he,ρ',hb,hf H he _ fun E => ?_⟩;have he1 : bT [a] H₀ (H ++ E) := he.trans (bT.app _ _);cases hp : p x with
   | false =>
     refine ih acc ρ' (H ++ E) hr' (fun y hy => hx y (mem_cons_of_mem _ ‹_›)) (le_of_lt ‹_›) he1 (aR ha _) fun H' h1 h2 => hP H' h1 ?_;refine aJ h2 (aJ filter_cons (aJ hp ?_));rfl
   | true =>
     refine hg hp _ he1 _ fun E2 => ?_;refine ⟨acc,aR (aR ha _) _,by exact lt_of_le_of_lt (le_add_right _ _) ‹_›,?_⟩;refine ih (acc ++ [g x]) ρ' _ hr' (fun y hy => hx y (mem_cons_of_mem _ ‹_›)) (lS ‹_›) ((he1.trans (bT.app _ _)).trans (bT.set mem_cons_self)) (b9 (aR (aR ha _) _) _) fun H' h1 h2 => hP H' h1 ?_;refine aJ h2 (aJ filter_cons (aJ hp ?_));exact aJ (append_assoc ..) rfl
theorem iU {t : Tg} {f : WT} {e : WE} {chk : List MO -> Prop} {ρ : bI} {P : cM} {H : List MO} {p : MV -> Bool} {g : MV -> MV} {xs : List MV} {cap : List (Option Nat)} {wi : WI} (R : bI -> Prop) (hR : R (mV cap ρ)) (hwi : ∀ Q : List MV -> (List MO -> Prop) -> List MO -> Prop,(∀ E,Q xs chk (H ++ E)) -> wi ρ H Q) (hchk : ∀ H',bT [] H H' -> chk H') (hl : xs.length < 1000000) (hx : ∀ x ∈ xs,∀ aY,R aY -> ∃ ρ',t.bind x aY = some ρ' /\ R ρ' /\ (∀ H',bT [] H H' -> ∀ Q : Bool -> List MO -> Prop,(∀ E,Q (p x) (H' ++ E)) -> f ρ' H' Q) /\ (p x = true -> ∀ H',bT [] H H' -> ∀ Q : MV -> List MO -> Prop,(∀ E,Q (g x) (H' ++ E)) -> e ρ' H' Q)) (hP : ∀ (a : Nat) (H' : List MO),bT [] H H' -> H'[a]? = some (.list ((xs.filter p).map g)) -> P (.ref a) H') : e8 t wi cap f e ρ H P := by
 refine hwi _ fun E => ?_;have up : ∀ H',bT [(H ++ E).length] (H ++ E) H' -> bT [] H H' := fun H' h i o _ e' => by
   have hi : i < H.length := (List.getElem?_eq_some_iff.mp e').1;exact h i o (by exact mt mem_singleton.mp (O9 ‹_›)) (aR e' _)
 refine sA (R := R) (H₀ := H ++ E) (fun H' h => hchk H' (up H' h)) xs [] _ _ hR (fun x hxm aY hr => ?_) (by simpa using hl) (bT.app _ _) (bE _ _ []) fun H' h1 h2 => hP _ H' (up H' h1) (by exact h2);refine bP fun no => ?_;obtain ⟨ρ',h1,h1',h2,h3⟩ := hx x hxm aY hr;refine no ?_;exact ⟨ρ',h1,h1',fun H' h => h2 H' (up H' h),fun hp H' h => h3 hp H' (up H' h)⟩
theorem q0 {α : Type} {Q : α -> List MO -> Prop} {v : α} {H : List MO} (h : ∀ E,Q v (H ++ E)) : Q v H := by have := h [];simpa using this
theorem sX {i j : Nat} {xs : List MV} {ρ : bI} {H : List MO} {Q : List MV -> (List MO -> Prop) -> List MO -> Prop} (h : ρ i = some (.ref j)) (hj : H[j]? = some (.list xs)) (hl : xs.length <= 1000) (hQ : ∀ E,Q xs (fun H => H[j]? = some (.list xs)) (H ++ E)) : hJ (aE i) ρ H Q :=
 ⟨_,h,xs,hj,le_trans hl (by decide),by have := hQ [];simpa using this⟩
noncomputable abbrev uR (a b : List Nat) : Int := (ltb b a).toInt - (ltb a b).toInt
theorem mB {a b : List Nat} {H : List MO} {P : cM} (hP : P (.int (uR a b)) H) : iR [.str (S a),.str (S b)] H P := by
 refine ⟨rfl,_,rfl,_,rfl,ltb b a,by unfold rL;simp only [gE],_,rfl,_,rfl,ltb a b,by unfold fW;simp only [gE],?_⟩;exact hP
theorem I8 {H : List MO} {i j : Nat} {a b a' b' : Int} (h1 : H[i]? = some (.list [.int a,.int b])) (h2 : H[j]? = some (.list [.int a',.int b'])) (ha : a = a') (hb : b = b') : dH (.ref i) (.ref j) H = some true := by
 subst ha hb;have e : (match H[i]?,H[j]? with | some (.list xs),some (.list ys) => if xs.length = ys.length then eP xs ys else some false | _,_ => none) = some ((a == a) && ((b == b) && true)) := by rw [h1,h2];rfl
 exact e.trans (by rw [beq_self_eq_true,beq_self_eq_true];rfl)
theorem fL {a b : List Nat} {due : Int} {H : List MO} {P : cM} (hd : due = uR a b) (hP : ∀ H',bT [] H H' -> P (.bool true) H') : cT [.str (S a),.str (S b),.int due] H P := by
 have hn : uR b a = -due := by refine aJ hd ?_;skip;lia
 refine ⟨rfl,_,rfl,_,rfl,mB ?_⟩;refine ⟨_,rfl,_,rfl,mB ?_⟩;refine ⟨(show 2 <= 1000 by decide),?_⟩;refine ⟨_,rfl,?_⟩;refine ⟨_,rfl,_,rfl,_,rfl,(show 2 <= 1000 by decide),true,?_,?_⟩
 · refine I8 (aR (bE _ _ []) _) (bE _ _ []) hd.symm (aJ hn rfl)
 · refine ⟨true,rfl,?_⟩;refine aJ (if_pos rfl) ?_
   skip
   refine iU (fun _ => True) trivial (p := fun _ => false) (g := fun x => x) (chk := fun H' => H'[H.length]? = some (.list [.int (uR a b),.int (uR b a)])) (xs := [.int (uR a b),.int (uR b a)])
     (fun Q hQ => sX (i := 3) (j := H.length) rfl (aR (bE _ _ []) _) (show 2 <= 1000 by decide) hQ) (fun H' hH' => hH' _ _ not_mem_nil (aR (bE _ _ []) _)) (show 2 < 1000000 by decide) (fun x hx aY _ => ?_) (fun c H' hH' hc => ?_)
   · refine ⟨_,rfl,trivial,fun H' _ Q hQ => ?_,fun hp => by cases hp⟩;obtain ⟨k,rfl⟩ : ∃ k,x = .int k := by
       simp only [mem_cons,not_mem_nil,or_false] at hx;rcases hx with rfl | rfl <;> exact ⟨_,rfl⟩
     exact ⟨_,rfl,rfl,false,rfl,q0 hQ⟩
   · refine ⟨(show 0 <= 1000 by decide),true,nJ (aR hc _) (bE _ _ []),?_⟩;refine hP _ fun i o _ e' => aR (hH' i o ‹_› (aR (aR e' _) _)) _
noncomputable abbrev bR (l : List (List Nat)) : List MV := l.map fun x => MV.str (S x)
theorem Qe {l : List (List Nat)} {x : List Nat} : bR l ++ [MV.str (S x)] = bR (l ++ [x]) := (map_append (l₁ := l) (l₂ := [x])).symm
noncomputable abbrev eL (l : List Int) : List MV := l.map MV.int
theorem Se {l : List Int} {x : Int} : eL l ++ [MV.int x] = eL (l ++ [x]) := (map_append (l₁ := l) (l₂ := [x])).symm
theorem mD (l : List Nat) : a8 l = eL (l.map fun k : Nat => (k : Int)) := by simp
theorem I9 {o c : Nat} {full : Prop} {len r : Nat} {P : d5} (hro : r ≠ o) {ns : List Int} : ∀ (outs pre : List Int) (ρ : bI) (H : List MO),H.length = len -> pre.length < c -> pre.length + outs.length <= c -> c <= 1000 -> (full -> pre.length + outs.length = c) -> H[r]? = some (.list (eL ns)) -> H[o]? = some (.list (eL pre)) -> ρ 1 = some (.int (c : Int)) -> ρ 2 = some (.ref o) -> (∀ ρ' H',ρ' 2 = some (.ref o) -> H'[o]? = some (.list (eL (pre ++ outs))) -> bT [o] H H' -> P .next ρ' H') -> Ni 3 (aI (a6 (bG "list" bA (aE 2) (aH (aE 3) aL))) (aI (bB (aN dH (aV cZ (aH (aE 2) aL)) (aE 1)) (aI oK aK) aK) aK)) (fun H => H[r]? = some (.list (eL ns))) full len P outs ρ H := by
 intro outs;induction outs with
 | nil =>
   intro pre ρ H hl hc hle hcc hf hr ho h1 h2 hP;exact ⟨fun q => by have := hf q;simp at this;exact absurd ‹_› (ne_of_lt ‹_›),hr,hP ρ H h2 (by simpa using ho) .refl⟩
 | cons x xs ih =>
   intro pre ρ H hl hc hle hcc hf hr ho h1 h2 hP;refine ⟨hr,?_⟩;refine ⟨_,h2,.list ho,_,rfl,_,ho,by simp;exact le_trans ‹_› (le_trans ‹_› (by decide)),?_⟩;have ho' : (H.set o (.list (eL pre ++ [MV.int x])))[o]? = some (.list (eL (pre ++ [x]))) := by refine aJ (by exact Se : eL pre ++ [MV.int x] = eL (pre ++ [x])) ?_;exact b9 ho _
   have hex : bT [o] H (H.set o (.list (eL pre ++ [MV.int x]))) := bT.set mem_cons_self;refine ⟨_,h2,_,ho',?_⟩;by_cases hlast : pre.length + 1 = c
   · have hxs : xs = [] := length_eq_zero_iff.mp (by simp at hle;lia);subst hxs;refine ⟨_,h1,true,Hv (by simp;exact Int.ofNat_inj.mpr ‹_›),?_⟩;exact ⟨by simpa using hl,hP _ _ h2 ho' hex⟩
   · refine ⟨_,h1,false,I2 (by simp;exact mt Int.ofNat.inj ‹_›),?_⟩;refine ⟨by simpa using hl,?_⟩;exact ih (pre ++ [x]) _ _ (by simpa using hl) (by simp;exact Nat.lt_of_le_of_ne ‹_› ‹_›) (lS ‹_›) hcc (fun q => by have := hf q;simp at this ⊢;exact aJ aS ‹_›) (bZ hr (Ne.symm hro)) ho' h1 h2 fun ρ' H' z2 z3 z4 => hP ρ' H' z2 (by simpa using z3) (hex.trans z4)
theorem De {r c : Nat} {ns : List Int} {H : List MO} {P : cM} (hr : H[r]? = some (.list (eL ns))) (hz : ns[0]? ≠ some 0) (hc : 0 < c) (hcc : c <= 1000) (hP : ∀ (q : Nat) (H' : List MO),bT [] H H' -> H'[q]? = some (.list (eL (gY ns none c))) -> P (.ref q) H') : gN [.ref r,.int (c : Int)] H P := by
 have hrl : r < H.length := (List.getElem?_eq_some_iff.mp hr).1;refine ⟨rfl,(show 0 <= 1000 by decide),?_⟩;refine ⟨_,rfl,r,ns,c,rfl,aR hr _,hz,hc,?_⟩;refine I9 (o := H.length) (ne_of_lt ‹_›) (gY ns none c) [] _ _ rfl (by exact hc) (by simpa using wG) hcc (fun q => by simpa using q) (aR hr _) (bE _ _ []) rfl rfl fun ρ' H' z2 z3 z4 => ?_;refine ⟨_,z2,?_⟩;refine hP _ H' (fun i o _ e => ?_) (by exact z3);have hi : i < H.length := (List.getElem?_eq_some_iff.mp e).1;exact z4 i o (xL ‹_›) (aR e _)
noncomputable def mE : List Nat -> List Nat
 | [] => []
 | [a] => [a]
 | a :: b :: r => if a = b then mE (b :: r) else a :: b :: r
theorem uS : ∀ a b r,mE (a :: b :: r) = (if a = b then mE (b :: r) else a :: b :: r) := fun _ _ _ => rfl
theorem wS : ∀ l : List Nat,(mE l).length <= l.length
 | [] => by exact le_refl _
 | [a] => by exact le_refl _
 | a :: b :: r => by
   have := wS (b :: r);rw [uS];split
   · exact Nat.le_succ_of_le ‹_›
   · exact le_refl _
noncomputable def zA (way : Nat) (z : List Nat) : List Nat := if way = 1 then z ++ [127,1] else if way = 2 then z else (mE z.reverse).reverse ++ [0,3]
noncomputable def wT (way : Nat) (z : List Nat) : List Nat := if way = 0 then z ++ [z.getLastD 0,z.getLastD 0] else z
theorem Df {k : Nat} {P : d5} : ∀ (z : List Nat) (f : Nat) (ρ : bI) (H : List MO),z.length <= f -> z.length <= 1000 -> z ≠ [] -> H[k]? = some (.list (a8 z.reverse)) -> ρ 2 = some (.ref k) -> (∀ H',H'[k]? = some (.list (a8 (mE z).reverse)) -> bT [k] H H' -> P .next ρ H') -> eF (dF (aN rL (aV cZ (aH (aE 2) aL)) (wK (.int 1))) (aN dH (a7 (aE 2) (dO (wK (.int 2)))) (a7 (aE 2) (dO (wK (.int 1)))))) (aI (a6 (bG "list" E0 (aE 2) aL)) aK) P (f + 1) ρ H := by
 intro z;induction z with
 | nil =>
   intro f ρ H hf hz hn;exact absurd rfl hn
 | cons a z ih =>
   intro f ρ H hf hz hn hk h2 hP;cases z with
   | nil =>
     refine ⟨_,h2,_,hk,false,Nu (by simp),?_⟩;exact hP H hk .refl
   | cons b r =>
     cases f with
     | zero => exact absurd hf (Nat.not_succ_le_zero _)
     | succ f =>
       have hk1 : H[k]? = some (.list (a8 (b :: r).reverse ++ [MV.int (a : Int)])) := by refine aJ hk ?_;simp
       have g1 : gA (.ref k) (.int (-1)) H = some (.int (a : Int)) := gR hk1;have g2 : gA (.ref k) (.int (-2)) H = some (.int (b : Int)) := by
         unfold gA ix;simp only [hk];refine aJ (if_neg (by decide)) (aJ (if_pos (by simp;lia)) ?_);have : ((-2 : Int) + ((a8 (a :: b :: r).reverse).length : Int)).toNat = r.length := by simp;lia
         simp only [this];simp
       refine ⟨_,h2,_,hk,true,Ox (by simp;lia),?_⟩;by_cases hab : a = b
       · refine ⟨_,h2,⟨_,rfl,⟨_,g2,_,h2,⟨_,rfl,⟨_,g1,true,Hv (by solve_by_elim (maxDepth := 3) [lt_irrefl,lt_of_lt_of_le]),?_⟩⟩⟩⟩⟩;refine ⟨_,h2,.list hk,_,_,hk1,by simp at hz ⊢;exact lt_of_le_of_lt (succ_le_succ ‹_›) (by decide),?_⟩;refine ih f _ _ (by simp at hf ⊢;assumption) (by simp at hz ⊢;exact Nat.le_succ_of_le ‹_›) (cons_ne_nil _ _) (b9 hk _) h2 fun H' z1 z2 => hP H' ?_ ((bT.set mem_cons_self).trans z2);rw [z1,uS,if_pos hab]
       · refine ⟨_,h2,⟨_,rfl,⟨_,g2,_,h2,⟨_,rfl,⟨_,g1,false,I2 (by exact mt Int.ofNat_inj.mp (Ne.symm ‹_›)),?_⟩⟩⟩⟩⟩;exact hP H (by rw [uS,if_neg hab];exact hk) .refl
theorem zB {s way : Nat} {z : List Nat} {H : List MO} {P : cM} (hs : H[s]? = some (.list (a8 z))) (hz : z ≠ []) (hzl : z.length <= 500) (hw : way < 3) (hP : ∀ (a b : Nat) (H' : List MO),bT [] H H' -> H'[a]? = some (.list (a8 (zA way z))) -> H'[b]? = some (.list (a8 (wT way z))) -> P (.tup [.ref a,.ref b]) H') : hV [.ref s,.int (way : Int)] H P := by
 by_cases h1 : way = 1
 · subst h1;refine ⟨rfl,_,rfl,true,rfl,?_⟩;refine ⟨_,rfl,(show 2 <= 1000 by decide),?_⟩;refine ⟨_,_,aR hs _,bE _ _ [],le_trans (show _ <= 1000 by simp;exact le_trans ‹_› (by decide)) (show 1000 <= sizeLine by decide),?_⟩;refine ⟨_,rfl,(show 2 <= 1000 by decide),?_⟩;refine hP _ _ _ ((bT.app _ _).trans (bT.app _ _)) ((bE _ _ []).trans ?_) (aR (aR hs _) _);simp [zA]
 · refine ⟨rfl,_,rfl,false,I2 (mt Int.ofNat.inj ‹_›),?_⟩;by_cases h2 : way = 2
   · subst h2;refine ⟨_,rfl,true,rfl,?_⟩;refine ⟨_,rfl,_,rfl,(show 2 <= 1000 by decide),?_⟩;exact hP _ _ _ .refl (by exact hs) (by exact hs)
   · have h0 : way = 0 := by lia
     subst h0;refine ⟨_,rfl,false,I2 (by decide),?_⟩;refine ⟨_,rfl,_,hs,by exact Ht (lt_of_le_of_lt ‹_› (by decide)),?_⟩;have hsl : s < H.length := (List.getElem?_eq_some_iff.mp hs).1;refine ⟨z.length + 1,Df (k := H.length) z.reverse z.length _ _ (by simp) (by exact aJ (length_reverse ..) (le_trans ‹_› (by decide))) (by simpa using hz) (by refine aJ (List.reverse_reverse ..) ?_;exact bE _ _ []) rfl fun H1 k1 k2 => ?_⟩;have hs1 : H1[s]? = some (.list (a8 z)) := k2 s _ (xL ‹_›) (aR hs _);have up : bT [] H H1 := fun i o _ e => k2 i o (by have := (List.getElem?_eq_some_iff.mp e).1;exact xL ‹_›) (aR e _);have htl : (mE z.reverse).length <= z.length := by
       have this := wS;simpa using this z.reverse
     obtain ⟨z0,l,rfl⟩ : ∃ z0 l,z = z0 ++ [l] := ⟨z.dropLast,z.getLast hz,(dropLast_concat_getLast _).symm⟩;refine ⟨_,rfl,(show 2 <= 1000 by decide),?_⟩;refine ⟨_,_,aR k1 _,bE _ _ [],le_trans (show _ <= 1000 by simp at htl hzl ⊢;lia) (show 1000 <= sizeLine by decide),?_⟩;have hs2 := aR (aR hs1 [MO.list [MV.int 0,MV.int 3]]) [MO.list (a8 (mE (z0 ++ [l]).reverse).reverse ++ [MV.int 0,MV.int 3])];have hs3 : ((H1 ++ [MO.list [MV.int 0,MV.int 3]]) ++ [MO.list (a8 (mE (z0 ++ [l]).reverse).reverse ++ [MV.int 0,MV.int 3])])[s]? = some (.list (a8 z0 ++ [MV.int (l : Int)])) := by refine aJ hs2 ?_;simp
     refine ⟨_,rfl,_,rfl,⟨_,rfl,⟨_,gR hs3,?_⟩⟩⟩;refine ⟨(show 1 <= 1000 by decide),?_⟩;refine ⟨_,bE _ _ [],rfl,rfl,?_⟩;refine ⟨_,_,aR (aR hs2 _) _,bE _ _ [],le_trans (show _ <= 1000 by simp at hzl ⊢;exact le_trans ‹_› (by decide)) (show 1000 <= sizeLine by decide),?_⟩;refine ⟨(show 2 <= 1000 by decide),?_⟩;refine hP _ _ _ (up.trans (((((bT.app _ _).trans (bT.app _ _)).trans (bT.app _ _)).trans (bT.app _ _)).trans (bT.app _ _))) (aR (aR (aR ((bE _ _ []).trans ?_) _) _) _) ((bE _ _ []).trans ?_)
     · simp [zA]
     · simp [wT]
theorem Ge {s p : Nat} {zs : List MV} {P : d5} (hsp : s ≠ p) : ∀ (z : List Nat) (t : List Nat) (acc : List (List Nat)) (ρ : bI) (H : List MO),(∀ x ∈ z,0 < x) -> acc.length + z.length <= 1000 -> H[s]? = some (.list zs) -> H[p]? = some (.list (bR acc)) -> ρ 0 = some (.str (S t)) -> ρ 2 = some (.ref p) -> (∀ ρ' H',ρ' 2 = some (.ref p) -> H'[p]? = some (.list (bR (acc ++ (gP t z).reverse))) -> bT [p] H H' -> P .next ρ' H') -> cR (.nm 3) (aI (a6 (bG "list" bA (aE 2) (aH (fZ (aE 0) (d8 (dO (aE 3))) kF) aL))) (aI (aW 0 (fZ (aE 0) kF (d8 (dO (aE 3))))) aK)) (fun H => H[s]? = some (.list zs)) P (a8 z) ρ H := by
 intro z;induction z with
 | nil =>
   intro t acc ρ H hz hl hs hp h0 h2 hP;exact ⟨hs,hP ρ H h2 (by simpa [uM] using hp) .refl⟩
 | cons x z ih =>
   intro t acc ρ H hz hl hs hp h0 h2 hP;have hx : 0 < x := hz x mem_cons_self;refine ⟨hs,_,rfl,?_⟩;refine ⟨_,h2,.list hp,_,h0,_,rfl,⟨_,rfl,⟨_,rfl,rfl,?_⟩⟩⟩;have e1 : (⟨(jP (S t).cps.toList (some (-(x : Int))) none).toArray⟩ : Str) = S (t.drop (t.length - x)) := by
     exact aJ (dQ ..) (aJ (uO _ _ hx ..) rfl)
   refine aJ e1 ?_;refine ⟨_,hp,by simp;exact lt_of_le_of_lt (le_trans (le_add_right _ _) ‹_›) (by decide),?_⟩;refine ⟨_,h0,_,rfl,⟨_,rfl,⟨_,rfl,rfl,?_⟩⟩⟩;have e2 : (⟨(jP (S t).cps.toList none (some (-(x : Int)))).toArray⟩ : Str) = S (t.take (t.length - x)) := by
     exact aJ (dQ ..) (aJ (Gc _ _ hx ..) rfl)
   refine aJ e2 ?_;refine aJ (by exact Qe : bR acc ++ [MV.str (S (t.drop (t.length - x)))] = bR (acc ++ [t.drop (t.length - x)])) ?_;refine ih (t.take (t.length - x)) (acc ++ [t.drop (t.length - x)]) _ _ (fun y hy => hz y (mem_cons_of_mem _ ‹_›)) (lS ‹_›) (bZ hs (Ne.symm hsp)) (b9 hp _) rfl h2 fun ρ' H' z2 z3 z4 => hP ρ' H' z2 ?_ ((bT.set mem_cons_self).trans z4);rw [z3,qO];simp
theorem Gf {s : Nat} {t z : List Nat} {H : List MO} {P : cM} (hs : H[s]? = some (.list (a8 z))) (hz : ∀ x ∈ z,0 < x) (hl : z.length <= 1000) (hP : ∀ (p : Nat) (H' : List MO),bT [] H H' -> H'[p]? = some (.list (bR (gP t z))) -> P (.ref p) H') : j6 [.str (S t),.ref s] H P := by
 have hsl : s < H.length := (List.getElem?_eq_some_iff.mp hs).1;refine ⟨rfl,(show 0 <= 1000 by decide),?_⟩;refine ⟨_,rfl,_,aR hs _,le_trans (show _ <= 1000 by simpa using hl) (show 1000 <= sizeLine by decide),?_⟩;refine Ge (s := s) (p := H.length) (ne_of_lt ‹_›) z t [] _ _ hz (by simpa using hl) (aR hs _) (bE _ _ []) rfl rfl fun ρ' H' z2 z3 z4 => ?_;have hcl : (gP t z).length = z.length := by
   have : ∀ (z t : List Nat),(gP t z).length = z.length := fun z => by
     induction z with
     | nil => intro t;rfl
     | cons x z ih => intro t;rw [qO];simp [ih]
   exact this z t
 refine ⟨_,z2,.list z3,_,z3,by simp [hcl];exact lt_of_le_of_lt ‹_› (by decide),?_⟩;refine ⟨_,z2,?_⟩;refine hP _ _ (fun i o _ e => ?_) ((b9 z3 _).trans (by simp));have hi : i < H.length := (List.getElem?_eq_some_iff.mp e).1;exact bZ (z4 i o (xL ‹_›) (aR e _)) (ne_of_gt ‹_›)
theorem sB (t : List Nat) (size : Nat) : (((List.range (size - 1)).map fun i => i + 1).filter fun k => !ltb (t.take size) ((t.take size).drop k)).isEmpty = gQ t size := by
 rw [Bool.eq_iff_iff];unfold gQ;rw [isEmpty_iff,filter_eq_nil_iff,all_eq_true];constructor
 · intro h k hk;rw [mem_range] at hk;rw [Bool.or_eq_true];rcases eq_zero_or_pos k with h0 | h0
   · left;exact if_pos ‹_›
   · right;have := h k (mem_map.mpr ⟨k - 1,mem_range.mpr (Nat.sub_lt_sub_right ‹_› ‹_›),by exact Nat.sub_add_cancel ‹_›⟩);simpa using this
 · intro h k hk;obtain ⟨i,hi,rfl⟩ := mem_map.mp hk;rw [mem_range] at hi;have := h (i + 1) (mem_range.mpr (by omega));simpa using this
theorem Dg (p : MV -> Bool) (q : Nat -> Bool) (l : List Nat) (h : ∀ k : Nat,p (.int (k : Int)) = q k) : ((((a8 l).filter p).map fun x => x).isEmpty) = (l.filter q).isEmpty := by
 induction l with
 | nil => rfl
 | cons a l ih =>
   simp only [map_cons,filter_cons,h];cases q a with
   | true => rfl
   | false => exact ih
noncomputable abbrev Lo : WT := aN lM (e8 (.nm 0) (dJ (dZ (aH (wK (.int 1)) (aH (aE 2) aL)))) [none,some 0,some 2] (aN vD (fZ (aE 1) (d8 (aE 0)) (d8 (aE 2))) (fZ (aE 1) kF (d8 (aE 2)))) (aE 0)) (bW aL)
theorem zC (t : List Nat) : ∀ n,0 < n -> 0 < dA t n /\ dA t n <= n := by
 intro n;induction n with
 | zero =>
   intro h;exact absurd h (lt_irrefl _)
 | succ z ih =>
   intro _;rw [l9];split
   · (simp;done)
   · rename_i hk;rcases eq_zero_or_pos z with h0 | h0
     · subst h0;exact absurd (by rfl) hk
     · have := ih h0;lia
theorem o6 (n : Nat) : eT 1 (n : Int) 1 = a8 ((List.range (n - 1)).map fun i => i + 1) := by
 unfold eT rng;have e : (Builtin.Range.rangeSize 1 (n : Int) 1).toNat = n - 1 := by
   unfold Builtin.Range.rangeSize;simp only [show (1 : Int) > 0 by decide,if_true,Int.ediv_one];split <;> lia
 refine aJ e (aJ (show a8 ((List.range (n - 1)).map fun i => i + 1) = ((List.range (n - 1)).map fun i => i + 1).map (fun k : Nat => MV.int (k : Int)) from rfl) (aJ map_map ?_));apply map_congr_left;intro i _;show MV.int (1 + (i : Int) * 1) = MV.int ((i + 1 : Nat) : Int);congr 1
 lia
theorem Gg {t : List Nat} {z : Nat} {ρ : bI} {H : List MO} {P : Bool -> List MO -> Prop} (h0 : ρ 0 = some (.str (S t))) (h2 : ρ 2 = some (.int (z : Int))) (hz : z <= 1000) (hP : ∀ H',bT [] H H' -> P (!gQ t z) H') : Lo ρ H P := by
 skip
 refine iU (fun ρ => ρ 1 = some (.str (S t)) /\ ρ 2 = some (.int (z : Int))) ⟨h0,h2⟩ (p := fun v => match v with | .int k => !ltb (t.take z) ((t.take z).drop k.toNat) | _ => false) (g := fun x => x) (chk := fun _ => True) (xs := a8 ((List.range (z - 1)).map fun i => i + 1))
   (fun Q hQ => ⟨_,h2,_,_,_,rfl,by decide,by exact lt_of_le_of_lt ‹_› (by decide),by refine aJ (o6 ..) ?_;simp;exact le_trans ‹_› (by decide),by refine aJ (o6 ..) ?_;exact q0 (Q := fun x H => Q x (fun _ => True) H) hQ⟩) (fun _ _ => trivial) (by simp;exact lt_of_le_of_lt (sub_le _ _) (lt_of_le_of_lt ‹_› (by decide))) (fun x hx aY hr => ?_) (fun c H' hH' hc => ?_)
 · obtain ⟨k,_,rfl⟩ := mem_map.mp hx;refine ⟨_,rfl,⟨hr.1,hr.2⟩,fun H' _ Q hQ => ?_,fun _ H' _ Q hQ => ⟨_,rfl,q0 hQ⟩⟩;refine ⟨_,hr.1,_,rfl,⟨_,rfl,_,hr.2,⟨_,rfl,rfl,?_⟩⟩⟩;refine aJ (by exact aJ (dQ ..) (aJ (yZ ..) rfl) : (⟨(jP (S t).cps.toList (some (k : Int)) (some (z : Int))).toArray⟩ : Str) = S ((t.take z).drop k)) ?_;refine ⟨_,hr.1,_,hr.2,⟨_,rfl,rfl,?_⟩⟩;refine aJ (by exact aJ (dQ ..) (aJ (iZ ..) rfl) : (⟨(jP (S t).cps.toList none (some (z : Int))).toArray⟩ : Str) = S (t.take z)) ?_;refine ⟨_,rfl,?_⟩;have := q0 hQ;simp only [<- gE];exact this
 · refine ⟨by decide,!gQ t z,?_,hP _ (hH'.trans (bT.app _ _))⟩;unfold lM;refine aJ (nJ (aR hc _) (bE _ _ [])) ?_;simp only [Option.map_some];congr 2;refine cE (sB ..) ?_;exact Dg _ _ _ fun k => rfl
theorem Gh {t : List Nat} {p : Nat} {P : d5} : ∀ (z f : Nat) (ρ : bI) (H : List MO),0 < z -> z <= f -> z <= 1000 -> ρ 0 = some (.str (S t)) -> ρ 1 = some (.ref p) -> ρ 2 = some (.int (z : Int)) -> (∀ ρ' H',ρ' 0 = some (.str (S t)) -> ρ' 1 = some (.ref p) -> ρ' 2 = some (.int (dA t z : Int)) -> bT [] H H' -> P .next ρ' H') -> eF Lo (aI (e7 2 vG (wK (.int 1))) aK) P (f + 1) ρ H := by
 intro z;induction z with
 | zero =>
   intro f ρ H h0 hf hz g0 g1 g2 hP;exact absurd h0 (lt_irrefl _)
 | succ z ih =>
   intro cs0;cases cs0 with
   | zero =>
     intro ρ H h0 hf hz g0 g1 g2 hP;exact absurd hf (by contradiction)
   | succ f =>
     intro ρ H h0 hf hz g0 g1 g2 hP;refine Gg g0 g2 hz fun H' hH' => ?_;have hs : dA t (z + 1) = if gQ t (z + 1) = true then z + 1 else dA t z := by rw [l9]
     cases hk : gQ t (z + 1) with
     | true =>
       refine hP ρ H' g0 g1 ?_ hH';refine aJ hs (aJ hk (aJ g2 ?_));rfl
     | false =>
       have hz0 : 0 < z := by
         rcases eq_zero_or_pos z with q | q
         · subst q;exact absurd hk (by trivial)
         · exact q
       refine ⟨_,g2,?_⟩;refine ih f _ H' hz0 (le_of_lt_succ ‹_›) (le_of_lt ‹_›) g0 g1 (show some (MV.int (((z + 1 : Nat) : Int) - 1)) = _ by exact aJ (by (simp;done) : ((z + 1 : Nat) : Int) - 1 = (z : Int)) rfl) fun ρ' H'' z0 z1 z2 z3 => hP ρ' H'' z0 z1 ?_ (hH'.trans z3);refine aJ z2 (aJ hs (aJ hk ?_));rfl
theorem Ja {p : Nat} {P : d5} : ∀ (f : Nat) (t : List Nat) (acc : List (List Nat)) (ρ : bI) (H : List MO),t.length <= f -> f <= 1000 -> acc.length + f <= 1000 -> H[p]? = some (.list (bR acc)) -> ρ 0 = some (.str (S t)) -> ρ 1 = some (.ref p) -> (∀ ρ' H',ρ' 1 = some (.ref p) -> H'[p]? = some (.list (bR (acc ++ fY (f + 1) t))) -> bT [p] H H' -> P .next ρ' H') -> eF (cD (aE 0)) (aI (aW 2 (aV cZ (aH (aE 0) aL))) (aI (cP Lo (aI (e7 2 vG (wK (.int 1))) aK)) (aI (a6 (bG "list" bA (aE 1) (aH (fZ (aE 0) kF (d8 (aE 2))) aL))) (aI (aW 0 (fZ (aE 0) (d8 (aE 2)) kF)) aK)))) P (f + 1) ρ H := by
 intro f;induction f with
 | zero =>
   intro t acc ρ H ht hf hl hp h0 h1 hP;have : t = [] := length_eq_zero_iff.mp (Nat.eq_zero_of_le_zero ‹_›);subst this;refine ⟨_,h0,false,rfl,?_⟩;exact hP ρ H h1 (by simpa [jY] using hp) .refl
 | succ f ih =>
   intro t acc ρ H ht hf hl hp h0 h1 hP;by_cases hn : t = []
   · subst hn;refine ⟨_,h0,false,rfl,?_⟩;exact hP ρ H h1 (by simpa [jY] using hp) .refl
   · have hpos : 0 < t.length := length_pos_iff.mpr hn;refine ⟨_,h0,true,?_,?_⟩
     · unfold J7
       skip
       congr 1;simp;exact ne_of_gt ‹_›
     refine ⟨_,h0,?_⟩;obtain ⟨s1,s2⟩ := zC t t.length hpos;refine ⟨t.length + 1,Gh (p := p) (t := t) t.length t.length _ H hpos (le_refl _) (by solve_by_elim (maxDepth := 4) [le_trans,le_of_lt,lt_of_lt_of_le,lt_of_le_of_lt,le_add_right,lt_succ_self]) h0 h1 (show some (MV.int ((S t).length : Int)) = _ by exact aJ (bX t : (S t).length = t.length) rfl) fun ρ' H' z0 z1 z2 z3 => ?_⟩;refine ⟨_,z1,.list (z3 _ _ not_mem_nil hp),_,z0,_,z2,⟨_,rfl,rfl,?_⟩⟩;refine aJ (by exact aJ (dQ ..) (aJ (iZ ..) rfl) : (⟨(jP (S t).cps.toList none (some (dA t t.length : Int))).toArray⟩ : Str) = S (t.take (dA t t.length))) ?_;refine ⟨_,z3 _ _ not_mem_nil hp,by exact Ht (lt_of_le_of_lt (le_trans (le_add_right _ _) ‹_›) (by decide)),?_⟩;refine ⟨_,z0,_,z2,⟨_,rfl,rfl,?_⟩⟩;refine aJ (by exact aJ (dQ ..) (aJ (wQ ..) rfl) : (⟨(jP (S t).cps.toList (some (dA t t.length : Int)) none).toArray⟩ : Str) = S (t.drop (dA t t.length))) ?_;refine aJ (by exact Qe : bR acc ++ [MV.str (S (t.take (dA t t.length)))] = bR (acc ++ [t.take (dA t t.length)])) ?_;refine ih (t.drop (dA t t.length)) (acc ++ [t.take (dA t t.length)]) _ _ (by simp;lia) (le_of_lt ‹_›) (lS ‹_›) (b9 (z3 _ _ not_mem_nil hp) _) rfl z1 fun ρ'' H'' y1 y2 y3 => hP ρ'' H'' y1 ?_ (fun i o hi e => y3 i o hi (bZ (z3 i o not_mem_nil e) (fun q => hi (by simp [q]))));refine aJ y2 ?_;refine aJ (by rw [jY,if_neg hn] : fY (f + 1 + 1) t = t.take (dA t t.length) :: fY (f + 1) (t.drop (dA t t.length))) ?_;exact aJ (append_assoc ..) rfl
theorem zD {t : List Nat} {H : List MO} {P : cM} (ht : t.length <= 400) (hP : ∀ (p : Nat) (H' : List MO),bT [] H H' -> H'[p]? = some (.list (bR (fY (t.length + 1) t))) -> P (.ref p) H') : hW [.str (S t)] H P := by
 refine ⟨rfl,(show 0 <= 1000 by decide),?_⟩;refine ⟨t.length + 1,Ja (p := H.length) t.length t [] _ _ (le_refl _) (by exact le_trans ‹_› (by decide)) (by exact nz ‹_› (by decide)) (bE _ _ []) rfl rfl fun ρ' H' z1 z2 z3 => ?_⟩;refine ⟨_,z1,?_⟩;refine hP _ _ (fun i o _ e => ?_) (by exact z2);have hi : i < H.length := (List.getElem?_eq_some_iff.mp e).1;exact z3 i o (xL ‹_›) (aR e _)
theorem gS : ∀ l : List (List Nat),vM (bR l) = some (l.map S) := by
 intro l;induction l with
 | nil =>
   exact rfl
 | cons x l ih =>
   show (vM (bR l)).map (S x :: ·) = _;refine aJ ih ?_;rfl
theorem Dh : ∀ (l : List Str) (a : Array Nat),(l.foldl (fun acc p => acc ++ (S []).cps ++ p.cps) a).toList = a.toList ++ (l.map fun p => p.cps.toList).flatten := by
 intro l;induction l with
 | nil =>
   intro a;exact (append_nil _).symm
 | cons p l ih =>
   intro a;rw [foldl_cons,ih];simp
theorem nK (l : List (List Nat)) : Builtin.Str.glued (S []) (l.map S) = S l.flatten := by
 skip
 apply congrArg Str.mk;apply toList_inj.mp;cases l with
 | nil => rfl
 | cons x l =>
   skip
   refine aJ (Dh ..) ?_;have e : (l.map S).map (fun p => p.cps.toList) = l := by
     refine aJ map_map ?_;exact (map_congr_left fun y _ => dQ y).trans (List.map_id' l)
   refine aJ e ?_;rfl
theorem nM {j : Nat} {l : List (List Nat)} {ρ : bI} {H : List MO} {P : cM} {e : WE} (he : ∀ Q : MV -> List MO -> Prop,(∀ E,(H ++ E)[j]? = some (.list (bR l)) -> Q (.ref j) (H ++ E)) -> e ρ H Q) (hl : (l.map List.length).sum <= 1000000) (hP : ∀ E,P (.str (S l.flatten)) (H ++ E)) : bG "str" hM (wK (.str "")) (aH e aL) ρ H P := by
 refine ⟨.str,?_⟩;refine he _ fun E hE => ?_;refine ⟨bR l,l.map S,hE,gS l,?_,?_⟩
 · have : ((l.map S).map fun y => y.length + (ofString "").length) = l.map List.length := by
     refine aJ map_map ?_;apply map_congr_left;intro x _;show (S x).length + 0 = x.length;refine aJ (bX ..) ?_;rfl
   refine aJ this ?_;exact hl
 · have : Builtin.Str.glued "" (l.map S) = S l.flatten := nK l;refine aJ this ?_;exact hP E
noncomputable def eJ (al : List Nat) (c : Nat) : List Nat := al.filter fun x => x != c
noncomputable def item (al : List Nat) (f c : Nat) : List Nat :=
 if f = 2 then [91,33] ++ eJ al c ++ [93] else if f = 3 /\ c ≠ 93 then [91,c,45,c,93] else if f = 0 /\ c ≠ 42 /\ c ≠ 63 /\ c ≠ 91 then [c] else [91,c,93]
noncomputable def eB (al : List Nat) (a : Nat) : Nat -> List Nat -> List (List Nat)
 | _,[] => []
 | k,c :: r => item al ((a + k) % 4) c :: eB al a (k + 1) r
theorem Jb {al : List Nat} {a : Nat} : ∀ u1,eB al a u1 [] = ([]) := fun _ => rfl
theorem uT {al : List Nat} {a : Nat} : ∀ k c r,eB al a k (c :: r) = (item al ((a + k) % 4) c :: eB al a (k + 1) r) := fun _ _ _ => rfl
theorem Gi {al : List Nat} (h : al.length <= 10) (f c : Nat) : (item al f c).length <= 20 := by
 have : (eJ al c).length <= al.length := length_filter_le _ _;unfold item;split
 · simp;exact le_trans ‹_› (le_trans ‹_› (by decide))
 · split
   · simp
   · split <;> simp
theorem Jc (l : List Nat) : lV (S l) = l.map fun c => MV.str (S [c]) := by
 unfold lV;exact aJ (dQ ..) rfl
theorem eM (n : Nat) : eT 0 (n : Int) 1 = a8 (List.range n) := by
 unfold eT rng;have e : (Builtin.Range.rangeSize 0 (n : Int) 1).toNat = n := by
   unfold Builtin.Range.rangeSize;simp only [show (1 : Int) > 0 by decide,if_true,Int.ediv_one];split <;> lia
 refine aJ e ?_;apply map_congr_left;intro i _;show MV.int (0 + (i : Int) * 1) = MV.int (i : Int);congr 1
 (simp;done)
theorem Gj {c : Nat} {x : List Nat} {b : Bool} {H : List MO} (h : decide (c ∈ x) = b) : B6 (.str (S [c])) (.str (S x)) H = some b := by
 unfold B6;simp [h]
theorem j8 {c : Nat} {x : List Nat} {b : Bool} {H : List MO} (h : decide (c ∈ x) = !b) : iD (.str (S [c])) (.str (S x)) H = some b := by
 unfold iD;refine aJ (Gj h) ?_;simp
theorem iV {a b : Nat} : (([a] : List Nat) == [b]) = decide (a = b) := by
 rw [Bool.eq_iff_iff];simp
noncomputable abbrev Qf : WS := (aI (aW 5 (a7 (aE 0) (aE 4)))
 (aI (aW 6 (aX pF (aX bD (aE 2) (aE 4)) (wK (.int 4))))
 (aI (bB (aN dH (aE 6) (wK (.int 2))) (aI (a6 (bG "list" bA (aE 3) (aH (aX bD (aX bD (wK (.str "[!")) (bG "str" hM (wK (.str "")) (aH (e8 (.nm 0) (hJ (aE 1)) [none,some 5] (aN lM (aE 0) (aE 1)) (aE 0)) aL))) (wK (.str "]"))) aL)))
 aK) (aI (bB (dF (aN dH (aE 6) (wK (.int 3))) (aN lM (aE 5) (wK (.str "]")))) (aI (a6 (bG "list" bA (aE 3) (aH (aX bD (aX bD (aX bD (aX bD (wK (.str "[")) (aE 5)) (wK (.str "-"))) (aE 5)) (wK (.str "]"))) aL)))
 aK) (aI (bB (dF (aN dH (aE 6) (wK (.int 0))) (aN iD (aE 5) (wK (.str "*?[")))) (aI (a6 (bG "list" bA (aE 3) (aH (aE 5) aL)))
 aK) (aI (a6 (bG "list" bA (aE 3) (aH (aX bD (aX bD (wK (.str "[")) (aE 5)) (wK (.str "]"))) aL)))
 aK))
 aK))
 aK))
 aK)))
theorem wU {al : List Nat} {c : Nat} {ρ : bI} {H : List MO} {P : cM} (h1 : ρ 1 = some (.str (S al))) (h5 : ρ 5 = some (.str (S [c]))) (hl : al.length <= 10) (hP : ∀ H',bT [] H H' -> P (.str (S (eJ al c))) H') : bG "str" hM (wK (.str "")) (aH (e8 (.nm 0) (hJ (aE 1)) [none,some 5] (aN lM (aE 0) (aE 1)) (aE 0)) aL) ρ H P := by
 refine ⟨.str,?_⟩
 skip
 refine iU (fun ρ => ρ 1 = some (.str (S [c]))) h5 (p := fun v => match v with | .str x => !(x == S [c]) | _ => false) (g := fun x => x) (chk := fun _ => True) (xs := al.map fun c => MV.str (S [c]))
   (fun Q hQ => ⟨_,h1,by
     show Q (lV (S al)) (fun _ => True) H;refine aJ (Jc ..) ?_;exact q0 (Q := fun x H => Q x (fun _ => True) H) hQ⟩) (fun _ _ => trivial) (by exact Ht (lt_of_le_of_lt ‹_› (by decide))) (fun x hx aY hr => ?_) (fun k H' hH' hk => ?_)
 · obtain ⟨d,_,rfl⟩ := mem_map.mp hx;refine ⟨_,rfl,hr,fun H' _ Q hQ => ?_,fun _ H' _ Q hQ => ⟨_,rfl,q0 hQ⟩⟩;refine ⟨_,rfl,_,hr,_,rfl,?_⟩;exact q0 hQ
 · have e : ((al.map fun c => MV.str (S [c])).filter fun v => match v with | .str x => !(x == S [c]) | _ => false).map (fun x => x) = bR ((eJ al c).map fun d => [d]) := by
     clear h1 hP hl hk;unfold eJ;induction al with
     | nil => rfl
     | cons d al ih =>
       simp only [map_cons,filter_cons];have e1 : (!((S [d]) == S [c])) = (d != c) := by
         refine aJ sW (aJ iV ?_);rfl
       by_cases hd : (d != c) = true
       · refine aJ (if_pos (e1.trans hd)) (aJ (if_pos hd) ?_);simp only [map_cons];exact aJ ih rfl
       · refine aJ (if_neg (by rw [e1];exact hd)) (aJ (if_neg hd) ?_);exact ih
   replace hk := e ▸ hk
   refine ⟨_,_,hk,gS _,?_,?_⟩
   · have hle : (eJ al c).length <= al.length := length_filter_le _ _;have : ((((eJ al c).map fun d => [d]).map S).map fun y => y.length + (ofString "").length) = (eJ al c).map fun _ => 1 := by
       refine aJ map_map (aJ map_map ?_);apply map_congr_left;intro x _;rfl
     refine aJ this ?_;have hs : ∀ l : List Nat,(l.map fun _ => 1).sum = l.length := fun l => by induction l with | nil => rfl | cons a l ih => simp [ih];exact add_comm _ _
     refine aJ (hs ..) ?_;exact le_trans ‹_› (le_trans ‹_› (by decide))
   · have : Builtin.Str.glued "" (((eJ al c).map fun d => [d]).map S) = S (eJ al c) := by
       have h := nK ((eJ al c).map fun d => [d]);have e2 : ((eJ al c).map fun d => [d]).flatten = eJ al c := by
         induction (eJ al c) with
         | nil => rfl
         | cons a l ih => simp [ih]
       replace h := e2 ▸ h;exact h
     refine aJ this ?_;exact hP _ hH'
theorem gT {n : Nat} (h : n <= 1000) : n <= sizeLine := le_trans h (show 1000 <= sizeLine by decide)
theorem add_str {a b : List Nat} {H : List MO} {P : cM} (h : a.length + b.length <= 1000) (hP : P (.str (S (a ++ b))) H) : bD (.str (S a)) (.str (S b)) H P := by
 refine ⟨gT (by refine aJ (bX ..) (aJ (bX ..) ?_);exact h),?_⟩;refine aJ (oB ..) ?_;exact hP
theorem Di {a b : List Nat} {H : List MO} {P : cM} (h : a.length + b.length <= 1000) (hP : P (.str (S (a ++ b))) H) : dD (.str (S a)) (.str (S b)) H P := by
 refine ⟨gT (by refine aJ (bX ..) (aJ (bX ..) ?_);exact h),?_⟩;refine aJ (oB ..) ?_;exact hP
theorem gU (l : List (List Nat)) (x : List Nat) : bR l ++ [MV.str (S x)] = bR (l ++ [x]) := by exact Qe
theorem Jd {al part : List Nat} {at_ : Int} {a0 a : Nat} {P : d5} (hal : al.length <= 10) (hat : ∀ k : Nat,(at_ + (k : Int)) % 4 = (((a0 + k) % 4 : Nat) : Int)) : ∀ (rest pre : List Nat) (acc : List (List Nat)) (ρ : bI) (H : List MO),part = pre ++ rest -> acc.length + rest.length <= 1000 -> ρ 0 = some (.str (S part)) -> ρ 1 = some (.str (S al)) -> ρ 2 = some (.int at_) -> ρ 3 = some (.ref a) -> H[a]? = some (.list (bR acc)) -> (∀ ρ' H',ρ' 3 = some (.ref a) -> H'[a]? = some (.list (bR (acc ++ eB al a0 pre.length rest))) -> bT [a] H H' -> P .next ρ' H') -> cR (.nm 4) Qf (fun _ => True) P (a8 (List.range' pre.length rest.length)) ρ H := by
 intro rest;induction rest with
 | nil =>
   intro pre acc ρ H hp hl h0 h1 h2 h3 ha hP;exact ⟨trivial,hP ρ H h3 (by simpa [Jb] using ha) .refl⟩
 | cons c rest ih =>
   intro pre acc ρ H hp hl h0 h1 h2 h3 ha hP;have hget : part[pre.length]? = some c := by refine aJ hp ?_;exact aM
   have next : ∀ (aY : bI) (H₁ : List MO),aY 0 = some (.str (S part)) -> aY 1 = some (.str (S al)) -> aY 2 = some (.int at_) -> aY 3 = some (.ref a) -> H₁[a]? = some (.list (bR (acc ++ [item al ((a0 + pre.length) % 4) c]))) -> bT [a] H H₁ ->
       cR (.nm 4) Qf (fun _ => True) P (a8 (List.range' (pre.length + 1) rest.length)) aY H₁ := fun aY H₁ g0 g1 g2 g3 ga gx => by
     have := ih (pre ++ [c]) (acc ++ [item al ((a0 + pre.length) % 4) c]) aY H₁ (by refine aJ hp ?_;exact aJ (append_assoc ..) rfl) (lS ‹_›) g0 g1 g2 g3 ga fun ρ' H' z3 z4 z5 => hP ρ' H' z3 (by rw [z4,uT];simp) (gx.trans z5);simpa using this
   have hm : (at_ + (pre.length : Int)) % 4 = (((a0 + pre.length) % 4 : Nat) : Int) := hat pre.length;generalize hf : (a0 + pre.length) % 4 = f at hm next
   have hf4 : f < 4 := by lia
   refine ⟨trivial,_,rfl,?_⟩;refine ⟨_,h0,_,rfl,_,bM hget,?_⟩;refine ⟨_,h2,_,rfl,by decide,?_⟩;refine aJ hm ?_;have push : ∀ (aY : bI) (H₁ : List MO) (x : List Nat),aY 0 = some (.str (S part)) -> aY 1 = some (.str (S al)) -> aY 2 = some (.int at_) -> aY 3 = some (.ref a) -> bT [] H H₁ -> x = item al f c ->
       xU a (.str (S x)) H₁ fun H' => cR (.nm 4) Qf (fun _ => True) P (a8 (List.range' (pre.length + 1) rest.length)) aY H' := fun aY H₁ x g0 g1 g2 g3 gx hx => by
     have ha1 := gx a _ not_mem_nil ha;refine ⟨_,ha1,by simp;exact lt_of_le_of_lt (le_trans (le_add_right _ _) ‹_›) (by decide),?_⟩;refine aJ (gU ..) ?_;exact next aY _ g0 g1 g2 g3 (by exact aJ (b9 ha1 ..) (aJ (hx ..) rfl)) (fun i o hi e => bZ (gx i o not_mem_nil e) (fun q => hi (by simp [q])))
   by_cases f2 : f = 2
   · refine ⟨_,rfl,true,Hv (by solve_by_elim (maxDepth := 3) [lt_irrefl,lt_of_lt_of_le]),?_⟩;refine ⟨_,h3,.list ha,?_⟩;refine wU (c := c) h1 rfl hal fun H' hH' => ?_;have hol : (eJ al c).length <= 10 := le_trans (length_filter_le _ _) hal;refine add_str (a := [91,33]) (by exact le_trans (add_le_add_left ‹_› _) (by decide)) ?_
     (first | dsimp only [wK] | skip)
     refine add_str (a := [91,33] ++ eJ al c) (b := [93]) (by simp;exact le_trans ‹_› (by decide)) ?_;refine push _ H' _ h0 h1 h2 h3 hH' ?_;unfold item;exact aJ (if_pos f2) rfl
   · refine ⟨_,rfl,false,I2 (mt Int.ofNat.inj ‹_›),?_⟩;by_cases f3 : f = 3 /\ c ≠ 93
     · refine ⟨_,rfl,true,Hv (by (simp [*];done)),?_⟩;refine ⟨_,rfl,true,Kk (x := [c]) (y := [93]) (by refine aJ iV ?_;simp [f3.2]),?_⟩;refine ⟨_,h3,.list ha,?_⟩;refine ⟨_,rfl,?_⟩;refine add_str (a := [91]) (b := [c]) (by simp) ?_
       (first | dsimp only [wK] | skip)
       refine add_str (a := [91,c]) (b := [45]) (by simp) ?_;refine ⟨_,rfl,?_⟩
       (first | dsimp only [wK] | skip)
       refine add_str (a := [91,c,45]) (b := [c]) (by simp) ?_
       (first | dsimp only [wK] | skip)
       refine add_str (a := [91,c,45,c]) (b := [93]) (by simp) ?_;refine push _ H _ h0 h1 h2 h3 .refl ?_;unfold item;refine aJ (if_neg f2) (aJ (if_pos f3) ?_);rfl
     · have skip3 : ∀ Q : Bool -> List MO -> Prop,Q false H -> ∀ aY : bI,aY 6 = some (.int (f : Int)) -> aY 5 = some (.str (S [c])) -> dF (aN dH (aE 6) (wK (.int 3))) (aN lM (aE 5) (wK (.str "]"))) aY H Q := fun Q hQ aY g6 g5 => by
         by_cases q3 : f = 3
         · have hc : c = 93 := Classical.byContradiction fun q => f3 ⟨q3,q⟩;refine ⟨_,g6,true,Hv (by solve_by_elim (maxDepth := 3) [lt_irrefl,lt_of_lt_of_le]),?_⟩;exact ⟨_,g5,false,Kk (x := [c]) (y := [93]) (by refine aJ iV ?_;exact if_pos ‹_›),hQ⟩
         · exact ⟨_,g6,false,I2 (mt Int.ofNat.inj ‹_›),hQ⟩
       refine skip3 _ ?_ _ rfl rfl;by_cases f0 : f = 0 /\ c ≠ 42 /\ c ≠ 63 /\ c ≠ 91
       · refine ⟨_,rfl,true,Hv (by (simp [*];done)),?_⟩;refine ⟨_,rfl,true,j8 (x := [42,63,91]) (by simp [f0.2]),?_⟩;refine ⟨_,h3,.list ha,_,rfl,?_⟩;refine push _ H _ h0 h1 h2 h3 .refl ?_;unfold item;exact aJ (if_neg f2) (aJ (if_neg f3) (aJ (if_pos f0) rfl))
       · have skip0 : ∀ Q : Bool -> List MO -> Prop,Q false H -> ∀ aY : bI,aY 6 = some (.int (f : Int)) -> aY 5 = some (.str (S [c])) -> dF (aN dH (aE 6) (wK (.int 0))) (aN iD (aE 5) (wK (.str "*?["))) aY H Q := fun Q hQ aY g6 g5 => by
           by_cases q0' : f = 0
           · refine ⟨_,g6,true,Hv (by solve_by_elim (maxDepth := 3) [lt_irrefl,lt_of_lt_of_le]),?_⟩;refine ⟨_,g5,false,j8 (x := [42,63,91]) ?_,hQ⟩;have : c = 42 \/ c = 63 \/ c = 91 := Classical.byContradiction fun q => f0 ⟨q0',by simp only [not_or] at q;exact q⟩;rcases this with rfl | rfl | rfl <;> rfl
           · exact ⟨_,g6,false,I2 (by (simp [*];done)),hQ⟩
         refine skip0 _ ?_ _ rfl rfl;refine ⟨_,h3,.list ha,?_⟩;refine ⟨_,rfl,?_⟩;refine add_str (a := [91]) (b := [c]) (by simp) ?_
         (first | dsimp only [wK] | skip)
         refine add_str (a := [91,c]) (b := [93]) (by simp) ?_;refine push _ H _ h0 h1 h2 h3 .refl ?_;unfold item;refine aJ (if_neg f2) (aJ (if_neg f3) (aJ (if_neg f0) ?_));rfl
theorem sY {al : List Nat} (hal : al.length <= 10) (a0 : Nat) : ∀ (l : List Nat) (k : Nat),((eB al a0 k l).map List.length).sum <= 20 * l.length := by
 intro l;induction l with
 | nil =>
   intro _;exact le_refl _
 | cons c l ih =>
   intro k;have h1 := Gi hal ((a0 + k) % 4) c;have h2 := ih (k + 1);rw [uT];simp only [map_cons,sum_cons,length_cons]
   lia
theorem nN {al part : List Nat} {at_ : Int} {a0 : Nat} {H : List MO} {P : cM} (hal : al.length <= 10) (hp : part.length <= 20) (hat : ∀ k : Nat,(at_ + (k : Int)) % 4 = (((a0 + k) % 4 : Nat) : Int)) (hP : ∀ H',bT [] H H' -> P (.str (S (eB al a0 0 part).flatten)) H') : eA [.str (S part),.str (S al),.int at_] H P := by
 refine ⟨rfl,(show 0 <= 1000 by decide),?_⟩;refine ⟨_,rfl,_,_,_,rfl,by decide,by refine aJ (bX ..) ?_;exact lt_of_le_of_lt ‹_› (by decide),?_⟩;have er : eT 0 ((S part).length : Int) 1 = a8 (List.range' 0 part.length) := by exact aJ (bX ..) (aJ (eM ..) (aJ (range_eq_range' ..) rfl))
 refine ⟨(by refine aJ er ?_;exact lm (lR (le_trans ‹_› (by decide)))),?_⟩
 skip
 refine aJ er ?_;refine Jd (a := H.length) hal hat part [] [] _ _ rfl (by simp;exact le_trans ‹_› (by decide)) rfl rfl rfl rfl (bE _ _ []) fun ρ' H' z3 z4 z5 => ?_;have up : bT [] H H' := fun i o _ e => z5 i o (by have := (List.getElem?_eq_some_iff.mp e).1;simp;exact ne_of_lt ‹_›) (aR e _);refine nM (j := H.length) (l := eB al a0 0 part) (fun Q hQ => ⟨_,z3,q0 (Q := Q) fun E => hQ E (aR z4 _)⟩) (le_trans (sY hal a0 part 0) (by exact le_trans (Nat.mul_le_mul_left _ ‹_›) (by decide))) fun E => ?_;exact hP _ (up.trans (bT.app _ _))
open PySem.StrLaws in
theorem Gk (s sub : Str) (hi : Nat) : ∀ (l : List Nat) (st : Array Nat × Nat),1 <= st.fst.size -> (forIn l st (occBody s sub hi 1)).run.fst = st.fst := by
 intro l;induction l with
 | nil =>
   intro st h;exact rfl
 | cons a l ih =>
   intro st h;refine aJ (forIn_cons ..) ?_;have : occBody s sub hi 1 a st = pure (ForInStep.yield (st.fst,st.snd)) := by
     unfold occBody;exact aJ (if_neg (by rintro ⟨⟨⟨h1,_⟩,_⟩,_⟩;exact absurd (by assumption) (not_lt.mpr (by assumption)))) rfl
   rw [this];exact ih (st.fst,st.snd) h
theorem sZ (x : List Nat) (c i : Nat) : Builtin.Str.subAt (S x) (S [c]) i = true ↔ x[i]? = some c := by
 unfold Builtin.Str.subAt;rw [beq_iff_eq];have hl : (S [c]).length = 1 := rfl;refine aJ hl ?_;constructor
 · intro h;have h2 := congrArg Array.toList h;dsimp only [toList_extract] at h2;have h3 : (x.drop i).take 1 = [c] := by simpa using h2
   have := congrArg (fun l : List Nat => l[0]?) h3;simpa [List.getElem?_take,getElem?_drop] using this
 · intro h;apply toList_inj.mp;dsimp only [toList_extract];have : (x.drop i).take 1 = [c] := by
     have hi := (List.getElem?_eq_some_iff.mp h).1;refine aJ (drop_eq_getElem_cons hi) ?_;show [x[i]] = [c];exact aJ ((List.getElem?_eq_some_iff.mp h).2) rfl
   simpa using this
open PySem.StrLaws in
theorem Je {x : List Nat} {c lo hi : Nat} (h : x[lo]? = some c) (hl : lo < hi) : Builtin.Str.occurrences (S x) (S [c]) lo hi 1 = [lo] := by
 refine aJ (occ_eq ..) ?_;obtain ⟨m,hm⟩ : ∃ m,hi + 1 - lo = m + 1 := ⟨hi - lo,by lia⟩;rw [hm,List.range'_succ,forIn_cons];have : occBody (S x) (S [c]) hi 1 lo (#[],lo) = pure (ForInStep.yield (#[lo],lo + 1)) := by
   unfold occBody;rw [if_pos ⟨⟨⟨by simp,le_refl _⟩,by rw [(rfl : (S [c]).length = 1)];assumption⟩,(sZ x c lo).mpr h⟩];rfl
 rw [this];show ((forIn _ (#[lo],lo + 1) (occBody (S x) (S [c]) hi 1)).run.fst).toList = [lo];rw [Gk _ _ _ _ _ (by simp)]
open PySem.StrLaws in
theorem wV {x : List Nat} {c lo hi : Nat} (h : ∀ i,lo <= i -> i < hi -> x[i]? ≠ some c) : Builtin.Str.occurrences (S x) (S [c]) lo hi 1 = [] := by
 refine aJ (occ_eq ..) ?_;have := (occ_none (S x) (S [c]) hi (List.range' lo (hi + 1 - lo)) lo (fun i hi' => by have := mem_range'_1.mp hi';(simp [*];done))).mpr (fun i hi' => by
   rintro ⟨h1,h2⟩
   rw [(rfl : (S [c]).length = 1)] at h1;exact h i (mem_range'_1.mp hi').1 (by assumption) ((sZ x c i).mp h2))
 rw [this]
noncomputable abbrev Gm (c : Nat) : List Nat := if jW.contains c then [92,c] else [c]
theorem Lp (c : Nat) : Fq c = S (Gm c) := by
 unfold Fq Gm;split <;> rfl
theorem wW {c : Nat} {H : List MO} {P : cM} (hc : c < 128) (hP : P (.str (S (Gm c))) H) : jX [.str (S [c])] H P := by
 refine ⟨rfl,_,rfl,rfl,true,rfl,_,rfl,.str,rfl,c,rfl,hc,?_⟩;refine aJ (Lp ..) ?_;exact hP
noncomputable abbrev Gn : WS := (bB (dF (aN fW (aE 8) (aE 6)) (aN dH (a7 (aE 0) (aE 8)) (wK (.str "!")))) (aI (aW 8 (aX bD (aE 8) (wK (.int 1))))
 aK) aK)
noncomputable abbrev zE : WS := (bB (dF (aN fW (aE 8) (aE 6)) (aN dH (a7 (aE 0) (aE 8)) (wK (.str "]")))) (aI (aW 8 (aX bD (aE 8) (wK (.int 1))))
 aK) aK)
noncomputable abbrev Oy : WS := (cP (dF (aN fW (aE 8) (aE 6)) (aN lM (a7 (aE 0) (aE 8)) (wK (.str "]")))) (aI (aW 8 (aX bD (aE 8) (wK (.int 1))))
 aK))
noncomputable abbrev Qg : WS := (bB (aN Es (aE 8) (aE 6)) (aI (a6 (bK (aE 4) (wK (.str "\\["))))
 aK) (aI (aW 9 (fZ (aE 0) (d8 (aE 5)) (d8 (aE 8))))
 (aI (bB (aN iD (wK (.str "-")) (aE 9)) (aI (aW 9 (vW (aE 9) "\\" "\\\\")) aK) (aI (aW 10 (bW aL))
 (aI (aW 11 (J8 (aN dH (a7 (aE 0) (aE 5)) (wK (.str "!"))) (aX bD (aE 5) (wK (.int 2))) (aX bD (aE 5) (wK (.int 1)))))
 (aI (cP (cD (wK (.bool true))) (aI (aW 11 (bG "str" n0 (aE 0) (aH (wK (.str "-")) (aH (aE 11) (aH (aE 8) aL)))))
 (aI (bB (aN fW (aE 11) (wK (.int 0))) (aI oK
 aK) aK)
 (aI (a6 (bG "list" bA (aE 10) (aH (fZ (aE 0) (d8 (aE 5)) (d8 (aE 11))) aL)))
 (aI (aW 5 (aX bD (aE 11) (wK (.int 1))))
 (aI (aW 11 (aX bD (aE 11) (wK (.int 3))))
 aK))))))
 (aI (aW 12 (fZ (aE 0) (d8 (aE 5)) (d8 (aE 8))))
 (aI (bB (cD (aE 12)) (aI (a6 (bG "list" bA (aE 10) (aH (aE 12) aL)))
 aK) (aI (iN (aE 10) (dO (wK (.int 1))) dD (wK (.str "-")))
 aK))
 (aI (kI (.nm 11) (dJ (dZ (aH (aX fN (aV cZ (aH (aE 10) aL)) (wK (.int 1))) (aH (wK (.int 0)) (aH (dO (wK (.int 1))) aL))))) (aI (bB (aN rL (a7 (a7 (aE 10) (aX fN (aE 11) (wK (.int 1)))) (dO (wK (.int 1)))) (a7 (a7 (aE 10) (aE 11)) (wK (.int 0)))) xP aK)
 aK))
 (aI (aW 9 (iO "-" "\\" "\\\\" "-" "\\-" (aE 10)))
 aK))))))))
 (aI (aW 9 (Fe (aE 9)))
 (aI (aW 5 (aX bD (aE 8) (wK (.int 1))))
 (aI (bB (eR (cD (aE 9))) (aI (a6 (bK (aE 4) (wK (.str "(?!)"))))
 aK) (aI (bB (aN dH (aE 9) (wK (.str "!"))) (aI (a6 (bK (aE 4) (wK (.str "."))))
 aK) (aI (bB (aN dH (a7 (aE 9) (wK (.int 0))) (wK (.str "!"))) (aI (aW 9 (aX bD (wK (.str "^")) (fZ (aE 9) (d8 (wK (.int 1))) kF)))
 aK) (aI (bB (aN B6 (a7 (aE 9) (wK (.int 0))) (d3 (aH (wK (.str "^")) (aH (wK (.str "[")) aL)))) (aI (aW 9 (aX bD (wK (.str "\\")) (aE 9)))
 aK) aK)
 aK))
 (aI (a6 (bK (aE 4) (kR (d0 "[" (kQ (aE 9) (d0 "]" kP))))))
 aK)))
 aK))
 aK))))))
noncomputable abbrev Bj : WS := (bB (aN iD (wK (.str "-")) (aE 9)) (aI (aW 9 (vW (aE 9) "\\" "\\\\")) aK) (aI (aW 10 (bW aL))
 (aI (aW 11 (J8 (aN dH (a7 (aE 0) (aE 5)) (wK (.str "!"))) (aX bD (aE 5) (wK (.int 2))) (aX bD (aE 5) (wK (.int 1)))))
 (aI (cP (cD (wK (.bool true))) (aI (aW 11 (bG "str" n0 (aE 0) (aH (wK (.str "-")) (aH (aE 11) (aH (aE 8) aL)))))
 (aI (bB (aN fW (aE 11) (wK (.int 0))) (aI oK
 aK) aK)
 (aI (a6 (bG "list" bA (aE 10) (aH (fZ (aE 0) (d8 (aE 5)) (d8 (aE 11))) aL)))
 (aI (aW 5 (aX bD (aE 11) (wK (.int 1))))
 (aI (aW 11 (aX bD (aE 11) (wK (.int 3))))
 aK))))))
 (aI (aW 12 (fZ (aE 0) (d8 (aE 5)) (d8 (aE 8))))
 (aI (bB (cD (aE 12)) (aI (a6 (bG "list" bA (aE 10) (aH (aE 12) aL)))
 aK) (aI (iN (aE 10) (dO (wK (.int 1))) dD (wK (.str "-")))
 aK))
 (aI (kI (.nm 11) (dJ (dZ (aH (aX fN (aV cZ (aH (aE 10) aL)) (wK (.int 1))) (aH (wK (.int 0)) (aH (dO (wK (.int 1))) aL))))) (aI (bB (aN rL (a7 (a7 (aE 10) (aX fN (aE 11) (wK (.int 1)))) (dO (wK (.int 1)))) (a7 (a7 (aE 10) (aE 11)) (wK (.int 0)))) xP aK)
 aK))
 (aI (aW 9 (iO "-" "\\" "\\\\" "-" "\\-" (aE 10)))
 aK))))))))
noncomputable abbrev Qh : WS := (bB (eR (cD (aE 9))) (aI (a6 (bK (aE 4) (wK (.str "(?!)"))))
 aK) (aI (bB (aN dH (aE 9) (wK (.str "!"))) (aI (a6 (bK (aE 4) (wK (.str "."))))
 aK) (aI (bB (aN dH (a7 (aE 9) (wK (.int 0))) (wK (.str "!"))) (aI (aW 9 (aX bD (wK (.str "^")) (fZ (aE 9) (d8 (wK (.int 1))) kF)))
 aK) (aI (bB (aN B6 (a7 (aE 9) (wK (.int 0))) (d3 (aH (wK (.str "^")) (aH (wK (.str "[")) aL)))) (aI (aW 9 (aX bD (wK (.str "\\")) (aE 9)))
 aK) aK)
 aK))
 (aI (a6 (bK (aE 4) (kR (d0 "[" (kQ (aE 9) (d0 "]" kP))))))
 aK)))
 aK))
noncomputable abbrev Qi : WS := (aW 11 (J8 (aN dH (a7 (aE 0) (aE 5)) (wK (.str "!"))) (aX bD (aE 5) (wK (.int 2))) (aX bD (aE 5) (wK (.int 1)))))
noncomputable abbrev Sf : WS := (cP (cD (wK (.bool true))) (aI (aW 11 (bG "str" n0 (aE 0) (aH (wK (.str "-")) (aH (aE 11) (aH (aE 8) aL)))))
 (aI (bB (aN fW (aE 11) (wK (.int 0))) (aI oK
 aK) aK)
 (aI (a6 (bG "list" bA (aE 10) (aH (fZ (aE 0) (d8 (aE 5)) (d8 (aE 11))) aL)))
 (aI (aW 5 (aX bD (aE 11) (wK (.int 1))))
 (aI (aW 11 (aX bD (aE 11) (wK (.int 3))))
 aK))))))
noncomputable abbrev Sg : WS := (bB (cD (aE 12)) (aI (a6 (bG "list" bA (aE 10) (aH (aE 12) aL)))
 aK) (aI (iN (aE 10) (dO (wK (.int 1))) dD (wK (.str "-")))
 aK))
noncomputable abbrev Sh : WS := (kI (.nm 11) (dJ (dZ (aH (aX fN (aV cZ (aH (aE 10) aL)) (wK (.int 1))) (aH (wK (.int 0)) (aH (dO (wK (.int 1))) aL))))) (aI (bB (aN rL (a7 (a7 (aE 10) (aX fN (aE 11) (wK (.int 1)))) (dO (wK (.int 1)))) (a7 (a7 (aE 10) (aE 11)) (wK (.int 0)))) xP aK)
 aK))
noncomputable abbrev Rj : WS := (aW 9 (iO "-" "\\" "\\\\" "-" "\\-" (aE 10)))
noncomputable abbrev tB : WS := (aI (aW 7 (a7 (aE 0) (aE 5)))
 (aI (aW 5 (aX bD (aE 5) (wK (.int 1))))
 (aI (bB (aN dH (aE 7) (wK (.str "*"))) (aI (bB (rM (eR (cD (aE 3))) (aN d4 (a7 (aE 3) (dO (wK (.int 1)))) (aE 1))) (aI (a6 (bK (aE 4) (aE 1)))
 aK) aK)
 aK) (aI (bB (aN dH (aE 7) (wK (.str "?"))) (aI (a6 (bK (aE 4) (aE 2)))
 aK) (aI (bB (aN dH (aE 7) (wK (.str "["))) (aI (aW 8 (aE 5))
 (aI (bB (dF (aN fW (aE 8) (aE 6)) (aN dH (a7 (aE 0) (aE 8)) (wK (.str "!")))) (aI (aW 8 (aX bD (aE 8) (wK (.int 1))))
 aK) aK)
 (aI (bB (dF (aN fW (aE 8) (aE 6)) (aN dH (a7 (aE 0) (aE 8)) (wK (.str "]")))) (aI (aW 8 (aX bD (aE 8) (wK (.int 1))))
 aK) aK)
 (aI (cP (dF (aN fW (aE 8) (aE 6)) (aN lM (a7 (aE 0) (aE 8)) (wK (.str "]")))) (aI (aW 8 (aX bD (aE 8) (wK (.int 1))))
 aK))
 (aI (bB (aN Es (aE 8) (aE 6)) (aI (a6 (bK (aE 4) (wK (.str "\\["))))
 aK) (aI (aW 9 (fZ (aE 0) (d8 (aE 5)) (d8 (aE 8))))
 (aI (bB (aN iD (wK (.str "-")) (aE 9)) (aI (aW 9 (vW (aE 9) "\\" "\\\\")) aK) (aI (aW 10 (bW aL))
 (aI (aW 11 (J8 (aN dH (a7 (aE 0) (aE 5)) (wK (.str "!"))) (aX bD (aE 5) (wK (.int 2))) (aX bD (aE 5) (wK (.int 1)))))
 (aI (cP (cD (wK (.bool true))) (aI (aW 11 (bG "str" n0 (aE 0) (aH (wK (.str "-")) (aH (aE 11) (aH (aE 8) aL)))))
 (aI (bB (aN fW (aE 11) (wK (.int 0))) (aI oK
 aK) aK)
 (aI (a6 (bG "list" bA (aE 10) (aH (fZ (aE 0) (d8 (aE 5)) (d8 (aE 11))) aL)))
 (aI (aW 5 (aX bD (aE 11) (wK (.int 1))))
 (aI (aW 11 (aX bD (aE 11) (wK (.int 3))))
 aK))))))
 (aI (aW 12 (fZ (aE 0) (d8 (aE 5)) (d8 (aE 8))))
 (aI (bB (cD (aE 12)) (aI (a6 (bG "list" bA (aE 10) (aH (aE 12) aL)))
 aK) (aI (iN (aE 10) (dO (wK (.int 1))) dD (wK (.str "-")))
 aK))
 (aI (kI (.nm 11) (dJ (dZ (aH (aX fN (aV cZ (aH (aE 10) aL)) (wK (.int 1))) (aH (wK (.int 0)) (aH (dO (wK (.int 1))) aL))))) (aI (bB (aN rL (a7 (a7 (aE 10) (aX fN (aE 11) (wK (.int 1)))) (dO (wK (.int 1)))) (a7 (a7 (aE 10) (aE 11)) (wK (.int 0)))) xP aK)
 aK))
 (aI (aW 9 (iO "-" "\\" "\\\\" "-" "\\-" (aE 10)))
 aK))))))))
 (aI (aW 9 (Fe (aE 9)))
 (aI (aW 5 (aX bD (aE 8) (wK (.int 1))))
 (aI (bB (eR (cD (aE 9))) (aI (a6 (bK (aE 4) (wK (.str "(?!)"))))
 aK) (aI (bB (aN dH (aE 9) (wK (.str "!"))) (aI (a6 (bK (aE 4) (wK (.str "."))))
 aK) (aI (bB (aN dH (a7 (aE 9) (wK (.int 0))) (wK (.str "!"))) (aI (aW 9 (aX bD (wK (.str "^")) (fZ (aE 9) (d8 (wK (.int 1))) kF)))
 aK) (aI (bB (aN B6 (a7 (aE 9) (wK (.int 0))) (d3 (aH (wK (.str "^")) (aH (wK (.str "[")) aL)))) (aI (aW 9 (aX bD (wK (.str "\\")) (aE 9)))
 aK) aK)
 aK))
 (aI (a6 (bK (aE 4) (kR (d0 "[" (kQ (aE 9) (d0 "]" kP))))))
 aK)))
 aK))
 aK))))))
 aK))))) (aI (a6 (bK (aE 4) (aV jX (aH (aE 7) aL))))
 aK))
 aK))
 aK))
 aK)))
noncomputable def Dj : List Nat -> Option (List Nat)
 | [] => none
 | h :: r => if h = 33 then (if r = [] then none else some ([91,94] ++ r ++ [93])) else if h = 94 \/ h = 91 then some ([91,92,h] ++ r ++ [93]) else some ([91,h] ++ r ++ [93])
theorem Dk {i : Nat} {y : List Nat} {ρ : bI} {H : List MO} {P : cM} (h : ρ i = some (.str (S y))) (hl : y.length <= 900) (hP : P (.str (S ([91] ++ y ++ [93]))) H) : kR (d0 "[" (kQ (aE i) (d0 "]" kP))) ρ H P := by
 have e1 : Str.empty ++ ofString "[" = S [91] := rfl;refine ⟨by decide,_,h,_,rfl,?_⟩;rw [e1,oB];refine ⟨gT (by rw [bX,bX];exact le_trans (add_le_add_left ‹_› _) (by decide)),gT (by
   rw [bX];show ([91] ++ y).length + 1 <= 1000;exact le_trans (Nat.add_le_add_right ‹_› 2) (by decide)),?_⟩
 have e2 : S ([91] ++ y) ++ ofString "]" = S ([91] ++ y ++ [93]) := oB _ [93];rw [e2];exact ⟨gT (by rw [bX];simp;exact le_trans ‹_› (by decide)),hP⟩
theorem zF {y : List Nat} {H : List MO} : J7 (.str (S y)) H = some (!y.isEmpty) := by
 skip
 skip
 cases y <;> rfl
theorem Go {h : Nat} {H : List MO} : B6 (.str (S [h])) (.tup [.str "^",.str "["]) H = some (decide (h = 94 \/ h = 91)) := by
 show some (((S [94]) == S [h]) || ((S [91]) == S [h])) = _;congr 1;rw [sW,sW,iV,iV,Bool.eq_iff_iff];simp;constructor
 · rintro (q | q) <;> simp [q]
 · rintro (q | q) <;> simp [q]
theorem Dl {r j : Nat} {r1 : Str} {s2 q : List Nat} {res : List MV} {ρ : bI} {H : List MO} {Q : d5} (h2 : n7 r1 = some (S s2)) (hq : Dj s2 = some q) (hl : s2.length <= 800) (h4 : ρ 4 = some (.app r)) (h8 : ρ 8 = some (.int (j : Int))) (h9 : ρ 9 = some (.str r1)) (hr : H[r]? = some (.list res)) (hrl : res.length <= 900) (hQ : ∀ ρ' : bI,(∀ i,i ≠ 5 -> i ≠ 9 -> ρ' i = ρ i) -> ρ' 5 = some (.int ((j + 1 : Nat) : Int)) -> Q .next ρ' (H.set r (.list (res ++ [.str (S q)])))) : aI (aW 9 (Fe (aE 9))) (aI (aW 5 (aX bD (aE 8) (wK (.int 1)))) (aI Qh aK)) ρ H Q := by
 refine ⟨_,h9,_,_,rfl,h2,?_⟩;refine ⟨_,h8,?_⟩;cases s2 with
 | nil => exact nS hq
 | cons h t =>
   have fin : ∀ (aY : bI) (y : List Nat),(∀ i,i ≠ 5 -> i ≠ 9 -> aY i = ρ i) -> aY 5 = some (.int ((j + 1 : Nat) : Int)) -> aY 9 = some (.str (S y)) -> y.length <= 900 -> q = [91] ++ y ++ [93] ->
       aI (a6 (bK (aE 4) (kR (d0 "[" (kQ (aE 9) (d0 "]" kP)))))) aK aY H Q := fun aY y g g5 g9 gl gq => by
     refine ⟨_,(g 4 (by decide) (by decide)).trans h4,?_⟩;refine Dk g9 gl ?_;refine ⟨r,rfl,res,hr,by exact lt_of_le_of_lt ‹_› (by decide),?_⟩;refine cE gq ?_;exact hQ aY g g5
   refine ⟨_,rfl,true,zF,?_⟩;by_cases h33 : h = 33
   · subst h33;have htn : t ≠ [] := fun e => by subst e;exact nS hq
     have hq' : q = [91] ++ (94 :: t) ++ [93] := by simp [Dj,htn] at hq;refine cE hq ?_;exact aJ (append_assoc ..) rfl
     refine ⟨_,rfl,false,gZ (y := [33]) (by simpa using htn),?_⟩;refine ⟨_,rfl,_,bM (k := 0) rfl,true,gZ (x := [33]) (y := [33]) rfl,?_⟩;refine ⟨_,rfl,⟨_,rfl,rfl,?_⟩⟩;have e1 : (⟨(jP (S (33 :: t)).cps.toList (some (1 : Int)) none).toArray⟩ : Str) = S t := by refine aJ (dQ ..) ?_;exact congrArg S (wQ (33 :: t) 1)
     refine aJ e1 ?_;refine add_str (a := [94]) (b := t) (by simp at hl ⊢;exact le_trans (add_le_add_left ‹_› _) (by decide)) ?_;exact fin _ (94 :: t) (fun i a b => by simp [upd,a,b]) rfl rfl (by exact le_trans ‹_› (by decide)) hq'
   · refine ⟨_,rfl,false,gZ (y := [33]) (by simp [h33]),?_⟩;refine ⟨_,rfl,_,bM (k := 0) rfl,false,gZ (x := [h]) (y := [33]) (by refine aJ iV ?_;exact if_neg ‹_›),?_⟩;by_cases hh : h = 94 \/ h = 91
     · have hq' : q = [91] ++ (92 :: h :: t) ++ [93] := by simp [Dj,h33,hh] at hq;refine cE hq ?_;exact aJ (append_assoc ..) rfl
       refine ⟨_,rfl,_,bM (k := 0) rfl,(show 2 <= 1000 by decide),true,Go.trans (by simp [hh]),?_⟩;refine ⟨_,rfl,?_⟩;refine add_str (a := [92]) (b := h :: t) (by exact le_trans (add_le_add_left ‹_› _) (by decide)) ?_;exact fin _ (92 :: h :: t) (fun i a b => by simp [upd,a,b]) rfl rfl (by exact le_trans (Nat.add_le_add_right ‹_› 1) (by decide)) hq'
     · have hq' : q = [91] ++ (h :: t) ++ [93] := by simp [Dj,h33,hh] at hq;refine cE hq ?_;exact aJ (append_assoc ..) rfl
       refine ⟨_,rfl,_,bM (k := 0) rfl,(show 2 <= 1000 by decide),false,Go.trans (by simpa using hh),?_⟩;exact fin _ (h :: t) (fun i a b => by simp [upd,a,b] : ∀ i,i ≠ 5 -> i ≠ 9 -> (upd (upd ρ 9 (.str (S (h :: t)))) 5 (.int ((j : Int) + 1))) i = ρ i) rfl rfl (by exact le_trans ‹_› (by decide)) hq'
theorem Jf {x : List Nat} {rest' : List Nat} {P : d5} {H : List MO} : ∀ (T pre : List Nat) (f : Nat) (ρ : bI),x = pre ++ T ++ 93 :: rest' -> T.length <= f -> (∀ c ∈ T,c ≠ 93) -> ρ 0 = some (.str (S x)) -> ρ 6 = some (.int (x.length : Int)) -> ρ 8 = some (.int (pre.length : Int)) -> (∀ ρ' : bI,(∀ i,i ≠ 8 -> ρ' i = ρ i) -> ρ' 8 = some (.int ((pre.length + T.length : Nat) : Int)) -> P .next ρ' H) -> eF (dF (aN fW (aE 8) (aE 6)) (aN lM (a7 (aE 0) (aE 8)) (wK (.str "]")))) (aI (aW 8 (aX bD (aE 8) (wK (.int 1)))) aK) P (f + 1) ρ H := by
 intro T;induction T with
 | nil =>
   intro pre f ρ hx hf hT h0 h6 h8 hP;have hg : x[pre.length]? = some 93 := by refine aJ hx ?_;simp
   refine ⟨_,h8,_,h6,true,r8 (by refine aJ hx ?_;exact pL),?_⟩;refine ⟨_,h0,_,h8,_,bM hg,false,Kk (x := [93]) (y := [93]) rfl,?_⟩;exact hP ρ (fun _ _ => rfl) h8
 | cons c T ih =>
   intro pre cs0;cases cs0 with
   | zero =>
     intro ρ hx hf hT h0 h6 h8 hP;simp at hf
   | succ f =>
     intro ρ hx hf hT h0 h6 h8 hP;have hg : x[pre.length]? = some c := by refine aJ hx ?_;exact Ot
     have hc : c ≠ 93 := hT c mem_cons_self;refine ⟨_,h8,_,h6,true,r8 (by refine aJ hx ?_;exact pL),?_⟩;refine ⟨_,h0,_,h8,_,bM hg,true,Kk (x := [c]) (y := [93]) (by refine aJ iV ?_;exact if_neg ‹_›),?_⟩;refine ⟨_,h8,?_⟩;refine ih (pre ++ [c]) f _ (by refine aJ hx ?_;simp) (by simp at hf;assumption) (fun d hd => hT d (mem_cons_of_mem _ ‹_›)) h0 h6 (by simp [upd]) fun ρ' g g8 => hP ρ' (fun i hi => (g i hi).trans (if_neg ‹_›)) ?_;refine aJ g8 ?_;congr 2;exact pE
theorem Gp {x pre u v T rest' : List Nat} {ρ : bI} {H : List MO} {R : WS} {Q : d5} (hx : x = pre ++ (u ++ v ++ T) ++ 93 :: rest') (hu : u = [33] \/ (u = [] /\ (v ++ T).head? ≠ some 33)) (hvT : v ++ T ≠ []) (hv : v = [93] \/ v = []) (hT : ∀ c ∈ T,c ≠ 93) (h0 : ρ 0 = some (.str (S x))) (h5 : ρ 5 = some (.int (pre.length : Int))) (h6 : ρ 6 = some (.int (x.length : Int))) (hR : ∀ ρ' : bI,(∀ i,i ≠ 8 -> ρ' i = ρ i) -> ρ' 8 = some (.int ((pre.length + (u ++ v ++ T).length : Nat) : Int)) -> R ρ' H Q) : aI (aW 8 (aE 5)) (aI Gn (aI zE (aI Oy R))) ρ H Q := by
 refine ⟨_,h5,?_⟩;have rest : ∀ aY : bI,(∀ i,i ≠ 8 -> aY i = ρ i) -> aY 8 = some (.int ((pre ++ u).length : Int)) -> aI zE (aI Oy R) aY H Q := fun aY g g8 => by
   have g0 := (g 0 (by decide)).trans h0;have g6 := (g 6 (by decide)).trans h6;have last : ∀ tG : bI,(∀ i,i ≠ 8 -> tG i = ρ i) -> tG 8 = some (.int ((pre ++ u ++ v).length : Int)) -> aI Oy R tG H Q := fun tG k k8 =>
     ⟨T.length + 1,Jf (x := x) (rest' := rest') T (pre ++ u ++ v) T.length tG (by refine aJ hx ?_;simp) (le_refl _) hT ((k 0 (by decide)).trans h0) ((k 6 (by decide)).trans h6) k8 fun ρ' z z8 => hR ρ' (fun i hi => (z i hi).trans (k i hi)) (by refine aJ z8 ?_;congr 2;simp;(simp only [Int.natCast_add,Int.natCast_one,Int.add_assoc];done))⟩
   rcases hv with rfl | rfl
   · have hg : x[(pre ++ u).length]? = some 93 := by refine aJ hx ?_;simp
     refine ⟨_,g8,_,g6,true,r8 (by refine aJ hx ?_;simp;exact iL),?_⟩;refine ⟨_,g0,_,g8,_,bM hg,true,gZ (x := [93]) (y := [93]) rfl,?_⟩;refine ⟨_,g8,?_⟩;exact last _ (fun i hi => by simp [upd,hi,g i hi]) (by simp [upd];rfl)
   · obtain ⟨c,T',rfl⟩ : ∃ c T',T = c :: T' := exists_cons_of_ne_nil (by exact hvT);have hg : x[(pre ++ u).length]? = some c := by refine aJ hx ?_;simp
     refine ⟨_,g8,_,g6,true,r8 (by refine aJ hx ?_;simp;exact iL),?_⟩;refine ⟨_,g0,_,g8,_,bM hg,false,gZ (x := [c]) (y := [93]) (by refine aJ iV ?_;simp [hT c (by simp)]),?_⟩;exact last aY g (by simpa using g8)
 rcases hu with rfl | ⟨rfl,hh⟩
 · have hg : x[pre.length]? = some 33 := by refine aJ hx ?_;exact Ot
   refine ⟨_,rfl,_,h6,true,r8 (by refine aJ hx ?_;exact pL),?_⟩;refine ⟨_,h0,_,rfl,_,bM hg,true,gZ (x := [33]) (y := [33]) rfl,?_⟩;refine ⟨_,rfl,?_⟩;exact rest _ (fun i hi => by simp [upd,hi]) (by simp [upd])
 · obtain ⟨c,r,hc⟩ : ∃ c r,v ++ T = c :: r := exists_cons_of_ne_nil hvT;have hc33 : c ≠ 33 := fun e => hh (by refine aJ hc (aJ e ?_);rfl);have hg : x[pre.length]? = some c := by refine aJ hx ?_;simp only [nil_append,hc];exact Ot
   refine ⟨_,rfl,_,h6,true,r8 (by refine aJ hx ?_;exact pL),?_⟩;refine ⟨_,h0,_,rfl,_,bM hg,false,gZ (x := [c]) (y := [33]) (by refine aJ iV ?_;exact if_neg ‹_›),?_⟩;exact rest _ (fun i hi => by exact if_neg ‹_›) (by simp [upd])
noncomputable def zG (cs : List (List Nat)) : Option Str :=
 if cs.length <= 50 /\ (∀ y ∈ cs.map S,y.length <= 50 /\ (Txt.replace y "\\" "\\\\").length <= 1000 /\ (Txt.replace (Txt.replace y "\\" "\\\\") "-" "\\-").length <= 10000) then
   some (Txt.join "-" ((cs.map S).map fun y => Txt.replace (Txt.replace y "\\" "\\\\") "-" "\\-")) else none
theorem nO {c : Nat} {cs : List (List Nat)} {r1 : Str} {ρ : bI} {H : List MO} {Q : d5} (hj : zG cs = some r1) (h10 : ρ 10 = some (.ref c)) (hc : H[c]? = some (.list (bR cs))) (hQ : Q .next (upd ρ 9 (.str r1)) H) : Rj ρ H Q := by
 unfold zG at hj;split at hj
 · rename_i hb
   (injection hj with hj;subst hj)
   refine ⟨_,h10,c,bR cs,cs.map S,rfl,hc,gS cs,by simpa using hb.1,hb.2,by decide,?_⟩;exact hQ
 · exact nS hj
theorem Dm {a : List Nat} {c : Nat} {H : List MO} (h : a.getLast? = some c) : gA (.str (S a)) (.int (-1)) H = some (.str (S [c])) := by
 obtain ⟨b,rfl⟩ := getLast?_eq_some_iff.mp h;unfold gA ix;simp only [bX];refine aJ (if_neg (by decide)) (aJ (if_pos (by exact nL)) ?_);have : ((-1 : Int) + ((b ++ [c]).length : Nat)).toNat = b.length := by exact tL
 refine aJ this ?_;simp
section
variable {x pre s rest' u : List Nat} {ρ : bI} {H : List MO} {Q : d5} {r1 : Str}
noncomputable abbrev Kl : WS := aI (aW 10 (bW aL)) (aI Qi (aI Sf (aI (aW 12 (fZ (aE 0) (d8 (aE 5)) (d8 (aE 8)))) (aI Sg (aI Sh (aI Rj aK))))))
theorem nP {k j : Nat} {m : Int} {ρ : bI} {H : List MO} {P : cM} (h0 : ρ 0 = some (.str (S x))) (h11 : ρ 11 = some (.int (k : Int))) (h8 : ρ 8 = some (.int (j : Int))) (hj : j <= x.length) (hm : (match Builtin.Str.occurrences (S x) (S [45]) k j 1 with | i :: _ => (i : Int) | [] => -1) = m) (hP : P (.int m) H) : bG "str" n0 (aE 0) (aH (wK (.str "-")) (aH (aE 11) (aH (aE 8) aL))) ρ H P := by
 refine ⟨_,h0,.str,_,h11,_,h8,?_⟩;refine ⟨by solve_by_elim (maxDepth := 2) [lt_of_lt_of_le],by solve_by_elim (maxDepth := 2) [lt_of_lt_of_le],by refine aJ (bX ..) ?_;exact Int.ofNat_le.mpr ‹_›,?_⟩;refine bP fun no => ?_;subst hm;refine no ?_;exact hP
theorem Bk (hx : x = pre ++ s ++ 93 :: rest') (hs : s ≠ []) (h0 : ρ 0 = some (.str (S x))) (h5 : ρ 5 = some (.int (pre.length : Int))) {k0 : Nat} (hk : k0 = if s.head? = some 33 then 2 else 1) {R : WS} (hR : R (upd ρ 11 (.int ((pre.length + k0 : Nat) : Int))) H Q) : aI Qi R ρ H Q := by
 obtain ⟨c,r,rfl⟩ : ∃ c r,s = c :: r := exists_cons_of_ne_nil hs;have hg : x[pre.length]? = some c := by refine aJ hx ?_;exact Ot
 by_cases h : c = 33
 · subst h;refine ⟨_,h0,_,h5,_,bM hg,true,gZ (x := [33]) (y := [33]) rfl,?_⟩;refine ⟨_,h5,?_⟩;subst hk;exact hR
 · refine ⟨_,h0,_,h5,_,bM hg,false,gZ (x := [c]) (y := [33]) (by refine aJ iV ?_;exact if_neg ‹_›),?_⟩;refine ⟨_,h5,?_⟩;have : k0 = 1 := by refine aJ hk ?_;simp [h]
   subst this;exact hR
theorem j9 (hx : x = pre ++ s ++ 93 :: rest') (a b : Nat) (hb : b <= s.length) : (⟨(jP (S x).cps.toList (some ((pre.length + a : Nat) : Int)) (some ((pre.length + b : Nat) : Int))).toArray⟩ : Str) = S ((s.take b).drop a) := by
 refine aJ (dQ ..) (aJ (yZ ..) ?_);congr 2;refine aJ hx ?_;have : (pre ++ s ++ 93 :: rest').take (pre.length + b) = pre ++ s.take b := by
   refine aJ (append_assoc ..) (aJ (take_append ..) (aJ (take_of_length_le (le_add_right _ _) ..) ?_));congr 1;exact aJ (show pre.length + b - pre.length = b by (exact add_sub_cancel_left ..;done)) (aJ (List.take_append_of_le_length hb) rfl)
 rw [this,List.drop_append,drop_eq_nil_of_le (le_add_right _ _)];rw [show pre.length + a - pre.length = a by (exact add_sub_cancel_left ..;done)];rfl
theorem Dn (hx : x = pre ++ s ++ 93 :: rest') (hs : s ≠ []) (h0 : ρ 0 = some (.str (S x))) (h5 : ρ 5 = some (.int (pre.length : Int))) (h8 : ρ 8 = some (.int ((pre.length + s.length : Nat) : Int))) {k0 : Nat} (hk : k0 = if s.head? = some 33 then 2 else 1) (hno : ∀ i,k0 <= i -> s[i]? ≠ some 45) (hj : zG [s] = some r1) (hQ : ∀ (ρ' : bI) (H' : List MO),(∀ i,i <= 8 -> i ≠ 5 -> ρ' i = ρ i) -> ρ' 9 = some (.str r1) -> bT [] H H' -> Q .next ρ' H') : Kl ρ H Q := by
 refine ⟨(show 0 <= 1000 by decide),?_⟩
 skip
 refine Bk (ρ := upd ρ 10 (.ref H.length)) hx hs h0 h5 hk ?_;have hlen : pre.length + s.length <= x.length := by rw [hx];simp
 have e0 := j9 hx 0 s.length (le_refl _);rw [add_zero,drop_zero,take_length] at e0;refine ⟨2,true,rfl,?_⟩;refine nP (m := -1) h0 rfl h8 hlen ?_ ?_
 · rw [wV fun i h1 h2 h3 => ?_];rw [hx,append_assoc,getElem?_append_right (by exact le_trans (le_add_right _ _) ‹_›),getElem?_append_left (by lia)] at h3;exact hno (i - pre.length) (by lia) h3
 refine ⟨_,rfl,true,r8 (by decide),?_⟩;refine ⟨_,h0,_,h5,_,rfl,_,h8,_,rfl,rfl,?_⟩;refine aJ e0 ?_;refine ⟨_,rfl,true,zF.trans (by simpa using hs),?_⟩;refine ⟨_,rfl,.list (bE _ _ []),_,rfl,[],bE _ _ [],by simp,?_⟩;refine ⟨_,rfl,_,b9 (bE _ _ []) _,?_⟩;refine ⟨_,rfl,_,_,_,rfl,(show (((1 : Nat) : Int) - 1).natAbs < 2 ^ 40 by decide),by decide,?_⟩;refine ⟨(show (eT (((1 : Nat) : Int) - 1) 0 (-1)).length <= 1000000 by decide),trivial,?_⟩;refine nO (cs := [s]) hj rfl (b9 (bE _ _ []) _) ?_;refine hQ _ _ (fun i h1 h2 => ?_) rfl (fun i o _ e => bZ (aR e _) (by have := (List.getElem?_eq_some_iff.mp e).1;exact ne_of_gt ‹_›));have : i ≠ 9 /\ i ≠ 10 /\ i ≠ 11 /\ i ≠ 12 := by exact Pa ‹_›
 simp [upd,this]
theorem wX {a b : List Nat} (hx : x = pre ++ s ++ 93 :: rest') (hs : s = a ++ 45 :: b) (hb2 : b.length <= 2) (h0 : ρ 0 = some (.str (S x))) (h5 : ρ 5 = some (.int (pre.length : Int))) (h8 : ρ 8 = some (.int ((pre.length + s.length : Nat) : Int))) {k0 : Nat} (hk : k0 = if s.head? = some 33 then 2 else 1) (hak : a.length = k0) {cs : List (List Nat)} (hcs : (b = [] /\ cs = [a ++ [45]]) \/ (b ≠ [] /\ cs = [a,b] /\ ∃ la hb,a.getLast? = some la /\ b.head? = some hb /\ ¬ hb < la)) (hj : zG cs = some r1) (hQ : ∀ (ρ' : bI) (H' : List MO),(∀ i,i <= 8 -> i ≠ 5 -> ρ' i = ρ i) -> ρ' 9 = some (.str r1) -> bT [] H H' -> Q .next ρ' H') : Kl ρ H Q := by
 have hsn : s ≠ [] := by refine aJ hs ?_;simp
 have hlen : pre.length + s.length <= x.length := by refine aJ hx ?_;simp
 have hsl : s.length = k0 + 1 + b.length := by refine aJ hs ?_;simp;lia
 have e0 := j9 hx 0 k0 (by (simp [*];done));rw [add_zero,drop_zero,show s.take k0 = a by rw [hs,<- hak];simp] at e0;have e1 := j9 hx (k0 + 1) s.length (le_refl _);rw [take_length,show s.drop (k0 + 1) = b by rw [hs,<- hak];simp] at e1;have hg : x[pre.length + k0]? = some 45 := by
   rw [hx,append_assoc,getElem?_append_right (le_add_right _ _),getElem?_append_left (by (simp [*];done)),show pre.length + k0 - pre.length = a.length by (simp [*];done),hs];exact aM
 have hk2 : k0 <= 2 := by rw [hk];split <;> lia
 have exH : ∀ y z,bT [] H (((H ++ [MO.list []]).set H.length y).set H.length z) := fun y z i o _ e => by
   have := (List.getElem?_eq_some_iff.mp e).1;exact bZ (bZ (aR e _) (ne_of_gt ‹_›)) (ne_of_gt ‹_›)
 refine ⟨(show 0 <= 1000 by decide),?_⟩;show aI Qi _ (upd ρ 10 (.ref H.length)) (H ++ [MO.list []]) Q;refine Bk (ρ := upd ρ 10 (.ref H.length)) hx hsn h0 h5 hk ?_;refine ⟨3,true,rfl,?_⟩;refine nP (m := ((pre.length + k0 : Nat) : Int)) h0 rfl h8 hlen ?_ ?_
 · rw [Je hg (by (simp [*];done))]
 refine ⟨_,rfl,false,Ep (by lia),?_⟩;refine ⟨_,rfl,.list (bE _ _ []),_,h0,_,h5,_,rfl,_,rfl,_,rfl,rfl,?_⟩;rw [e0];refine ⟨[],bE _ _ [],by simp,?_⟩;refine ⟨_,rfl,_,rfl,true,rfl,?_⟩;refine nP (k := pre.length + k0 + 3) (m := -1) h0 rfl h8 hlen ?_ ?_
 · rw [wV fun i h1 h2 h3 => by lia]
 refine ⟨_,rfl,true,r8 (by decide),?_⟩;refine ⟨_,h0,_,rfl,_,rfl,_,h8,_,rfl,rfl,?_⟩;have e1' : (⟨(jP (S x).cps.toList (some (((pre.length + k0 : Nat) : Int) + 1)) (some ((pre.length + s.length : Nat) : Int))).toArray⟩ : Str) = S b := e1;rw [e1'];have hl1 : ((H ++ [MO.list []]).set H.length (.list ([] ++ [MV.str (S a)])))[H.length]? = some (.list [MV.str (S a)]) := b9 (bE _ _ []) _;rcases hcs with ⟨rfl,rfl⟩ | ⟨hbn,rfl,la,hb,hla,hhb,hlt⟩
 · refine ⟨_,rfl,false,rfl,?_⟩;refine ⟨_,rfl,_,rfl,H.length,[],.str (S a),rfl,rfl,hl1,by decide,?_⟩;dsimp only [wK];refine Di (a := a) (b := [45]) (by simp;lia) ?_;refine ⟨hl1,?_⟩;refine ⟨_,rfl,_,b9 hl1 _,?_⟩;refine ⟨_,rfl,_,_,_,rfl,(show (((1 : Nat) : Int) - 1).natAbs < 2 ^ 40 by decide),by decide,?_⟩;refine ⟨(show (eT (((1 : Nat) : Int) - 1) 0 (-1)).length <= 1000000 by decide),trivial,?_⟩;refine nO (cs := [a ++ [45]]) hj rfl (b9 hl1 _) ?_;refine hQ _ _ (fun i h1 h2 => ?_) rfl (exH _ _);have : i ≠ 9 /\ i ≠ 10 /\ i ≠ 11 /\ i ≠ 12 := by exact Pa ‹_›
   simp [upd,this,h2]
 · refine ⟨_,rfl,true,zF.trans (by simpa using hbn),?_⟩;refine ⟨_,rfl,.list hl1,_,rfl,[.str (S a)],hl1,by simp,?_⟩;have hl2 := b9 hl1 (.list ([MV.str (S a)] ++ [MV.str (S b)]));refine ⟨_,rfl,_,hl2,?_⟩;refine ⟨_,rfl,_,_,_,rfl,(show (((2 : Nat) : Int) - 1).natAbs < 2 ^ 40 by decide),by decide,?_⟩;refine ⟨(show (eT (((2 : Nat) : Int) - 1) 0 (-1)).length <= 1000000 by decide),?_⟩;have er : eT (((2 : Nat) : Int) - 1) 0 (-1) = [.int 1] := rfl;show cR _ _ _ _ (eT (((2 : Nat) : Int) - 1) 0 (-1)) _ _;rw [er];refine ⟨trivial,_,rfl,?_⟩;have hbg : b[0]? = some hb := by rw [<- List.head?_eq_getElem?];exact hhb
   refine ⟨_,rfl,_,rfl,_,b8 (k := 0) hl2 rfl,⟨_,rfl,⟨_,Dm hla,_,rfl,_,rfl,_,b8 (k := 1) hl2 rfl,_,bM (k := 0) hbg,false,?_,?_⟩⟩⟩
   · unfold rL;simp only [<- gE,Bh,Kj];rw [if_neg hlt];split <;> rfl
   refine ⟨trivial,?_⟩;refine nO (cs := [a,b]) hj rfl hl2 ?_;refine hQ _ _ (fun i h1 h2 => ?_) rfl (exH _ _);have : i ≠ 9 /\ i ≠ 10 /\ i ≠ 11 /\ i ≠ 12 := by exact Pa ‹_›
   simp [upd,this,h2]
end
noncomputable def j0 (p q : List Nat) : Prop := ∀ (pre rest : List Nat) (ρ : bI) (H : List MO) (r : Nat) (res : List MV) (Q : d5),
 ρ 0 = some (.str (S (pre ++ p ++ rest))) -> ρ 4 = some (.app r) -> ρ 5 = some (.int (pre.length : Int)) -> ρ 6 = some (.int ((pre ++ p ++ rest).length : Int)) -> H[r]? = some (.list res) -> res.length <= 800 ->
 (∀ (ρ' : bI) (H' : List MO),(∀ i,i <= 6 -> i ≠ 5 -> ρ' i = ρ i) -> ρ' 5 = some (.int ((pre ++ p).length : Int)) -> H'[r]? = some (.list (res ++ [.str (S q)])) -> bT [r] H H' -> Q .next ρ' H') -> tB ρ H Q
theorem Dq {c : Nat} (h1 : c ≠ 42) (h2 : c ≠ 63) (h3 : c ≠ 91) (hc : c < 128) : j0 [c] (Gm c) := by
 intro pre rest ρ H r res Q h0 h4 h5 h6 hr hl hQ;refine ⟨_,h0,_,h5,_,bM (by exact Q1 : (pre ++ [c] ++ rest)[pre.length]? = some c),?_⟩;refine ⟨_,h5,?_⟩;refine ⟨_,rfl,false,gZ (x := [c]) (y := [42]) (by refine aJ iV ?_;exact if_neg ‹_›),?_⟩;refine ⟨_,rfl,false,gZ (x := [c]) (y := [63]) (by refine aJ iV ?_;exact if_neg ‹_›),?_⟩;refine ⟨_,rfl,false,gZ (x := [c]) (y := [91]) (by refine aJ iV ?_;exact if_neg ‹_›),?_⟩;refine ⟨_,h4,_,rfl,wW hc ?_⟩;refine ⟨r,rfl,res,hr,by exact lt_of_le_of_lt ‹_› (by decide),?_⟩;exact hQ _ _ (fun i hi h5' => by simp [upd,show i ≠ 7 by exact ne_of_lt (lt_of_le_of_lt ‹_› (by decide)),h5']) (by simp [upd]) (b9 hr _) (bT.set mem_cons_self)
theorem mF {s u v T s2 q : List Nat} {r1 : Str} (hs : s = u ++ v ++ T) (hu : u = [33] \/ (u = [] /\ (v ++ T).head? ≠ some 33)) (hvT : v ++ T ≠ []) (hv : v = [93] \/ v = []) (hT : ∀ c ∈ T,c ≠ 93) (hsl : s.length <= 500) (h2 : n7 r1 = some (S s2)) (hq : Dj s2 = some q) (hl2 : s2.length <= 800) (hd : ∀ (x pre rest : List Nat) (ρ : bI) (H : List MO) (Q : d5),x = pre ++ s ++ 93 :: rest -> ρ 0 = some (.str (S x)) -> ρ 5 = some (.int (pre.length : Int)) -> ρ 8 = some (.int ((pre.length + s.length : Nat) : Int)) -> ρ 9 = some (.str (S s)) -> (∀ (ρ' : bI) (H' : List MO),(∀ i,i <= 8 -> i ≠ 5 -> ρ' i = ρ i) -> ρ' 9 = some (.str r1) -> bT [] H H' -> Q .next ρ' H') -> Bj ρ H Q) : j0 (91 :: s ++ [93]) q := by
 intro pre rest ρ H r res Q h0 h4 h5 h6 hr hl hQ;have hx : pre ++ (91 :: s ++ [93]) ++ rest = (pre ++ [91]) ++ s ++ 93 :: rest := by simp
 rw [hx] at h0 h6;generalize hxx : (pre ++ [91]) ++ s ++ 93 :: rest = x at h0 h6;have hg : x[pre.length]? = some 91 := by refine cE hxx ?_;simp
 refine ⟨_,h0,_,h5,_,bM hg,?_⟩;refine ⟨_,h5,?_⟩;refine ⟨_,rfl,false,gZ (x := [91]) (y := [42]) rfl,?_⟩;refine ⟨_,rfl,false,gZ (x := [91]) (y := [63]) rfl,?_⟩;refine ⟨_,rfl,true,gZ (x := [91]) (y := [91]) rfl,?_⟩;have hbase : (((pre.length : Nat) : Int) + 1) = (((pre ++ [91]).length : Nat) : Int) := by simp
 have scan : ∀ (ρ1 : bI) (Q' : d5),ρ1 = upd (upd ρ 7 (.str (S [91]))) 5 (.int ((pre.length : Int) + 1)) -> (∀ ρ' H',Q .next ρ' H' -> Q' .next ρ' H') -> aI (aW 8 (aE 5)) (aI Gn (aI zE (aI Oy (aI Qg aK)))) ρ1 H Q' := by
   intro ρ1 Q' hρ1 hQ';have a1 : ∀ i,i ≠ 5 -> i ≠ 7 -> ρ1 i = ρ i := fun i x y => by refine aJ hρ1 ?_;simp [upd,x,y]
   have b5 : ρ1 5 = some (.int ((pre ++ [91]).length : Int)) := by refine aJ hρ1 (cE hbase ?_);rfl
   have b0 := (a1 0 (by decide) (by decide)).trans h0;have b6 := (a1 6 (by decide) (by decide)).trans h6;refine Gp (x := x) (pre := pre ++ [91]) (u := u) (v := v) (T := T) (rest' := rest) (by exact cE hs (cE hxx rfl)) hu hvT hv hT b0 b5 b6 fun ρ2 g g8 => ?_
   replace g8 := hs.symm ▸ g8
   have hlen : ((pre ++ [91]).length + s.length) < x.length := by refine cE hxx ?_;simp;lia
   have c0 := (g 0 (by decide)).trans b0;have c5 := (g 5 (by decide)).trans b5;refine ⟨_,g8,_,((g 6 (by decide)).trans b6),false,Rd (by exact Int.not_le.mpr (Int.ofNat_lt.mpr ‹_›)),?_⟩;have e0 := j9 (x := x) (pre := pre ++ [91]) (s := s) (rest' := rest) hxx.symm 0 s.length (le_refl _)
   replace e0 := (take_length ..) ▸ (drop_zero ..) ▸ (add_zero ..) ▸ e0
   refine ⟨_,c0,_,c5,_,rfl,_,g8,_,rfl,rfl,?_⟩;refine aJ e0 ?_;refine hd x (pre ++ [91]) rest (upd ρ2 9 (.str (S s))) H _ hxx.symm c0 c5 g8 rfl fun ρ3 H3 k k9 kH => ?_;have k8 : ρ3 8 = some (.int (((pre ++ [91]).length + s.length : Nat) : Int)) := (k 8 (by decide) (by decide)).trans g8;refine Dl (r1 := r1) (s2 := s2) (q := q) (r := r) h2 hq hl2 ((k 4 (by decide) (by decide)).trans ((g 4 (by decide)).trans ((a1 4 (by decide) (by decide)).trans h4)) : ρ3 4 = some (.app r)) k8 k9 (kH r _ not_mem_nil hr) (by exact le_trans ‹_› (by decide)) fun ρ4 m m5 => ?_;refine hQ' _ _ (hQ ρ4 _ (fun i hi hi5 => ?_) ?_ (b9 (kH r _ not_mem_nil hr) _) (fun i o hi e => bZ (kH i o not_mem_nil e) (fun q => hi (by simp [q]))))
   · have h9 : i ≠ 9 := by exact ne_of_lt (lt_of_le_of_lt ‹_› (by decide))
     refine (m i hi5 h9).trans ((k i (by exact le_trans ‹_› (by decide)) hi5).trans ?_);simp only [upd,h9,if_false];exact (g i (by exact ne_of_lt (lt_of_le_of_lt ‹_› (by decide)) : i ≠ 8)).trans (a1 i hi5 (by exact ne_of_lt (lt_of_le_of_lt ‹_› (by decide)) : i ≠ 7))
   · refine aJ m5 ?_;congr 2;simp;lia
 exact scan _ _ rfl fun _ _ h => h
noncomputable def uU (s : List Nat) : Option Str :=
 if 45 ∈ s then
   (if 45 ∈ s.drop (if s.head? = some 33 then 2 else 1) then
     (if s = s.take (if s.head? = some 33 then 2 else 1) ++ 45 :: s.drop ((if s.head? = some 33 then 2 else 1) + 1) /\ (s.drop ((if s.head? = some 33 then 2 else 1) + 1)).length <= 2 /\ (s.take (if s.head? = some 33 then 2 else 1)).length = (if s.head? = some 33 then 2 else 1) then
       (if s.drop ((if s.head? = some 33 then 2 else 1) + 1) = [] then zG [s.take (if s.head? = some 33 then 2 else 1) ++ [45]]
       else match (s.take (if s.head? = some 33 then 2 else 1)).getLast?,(s.drop ((if s.head? = some 33 then 2 else 1) + 1)).head? with
         | some la,some hb => if hb < la then none else zG [s.take (if s.head? = some 33 then 2 else 1),s.drop ((if s.head? = some 33 then 2 else 1) + 1)]
         | _,_ => none) else none)
   else zG [s])
 else some (Txt.replace (S s) "\\" "\\\\")
theorem mG {s : List Nat} {r1 : Str} (hn : s ≠ []) (hsl : s.length <= 500) (h : uU s = some r1) : ∀ (x pre rest : List Nat) (ρ : bI) (H : List MO) (Q : d5),x = pre ++ s ++ 93 :: rest -> ρ 0 = some (.str (S x)) -> ρ 5 = some (.int (pre.length : Int)) -> ρ 8 = some (.int ((pre.length + s.length : Nat) : Int)) -> ρ 9 = some (.str (S s)) -> (∀ (ρ' : bI) (H' : List MO),(∀ i,i <= 8 -> i ≠ 5 -> ρ' i = ρ i) -> ρ' 9 = some (.str r1) -> bT [] H H' -> Q .next ρ' H') -> Bj ρ H Q := by
 intro x pre rest ρ H Q hx h0 h5 h8 h9 hQ;unfold uU at h;split at h
 · rename_i h45;refine ⟨_,h9,false,j8 (c := 45) (if_pos ‹_›),?_⟩;generalize hk : (if s.head? = some 33 then 2 else 1 : Nat) = k0 at h;split at h
   · split at h
     · rename_i hc;split at h
       · rename_i hb;exact wX (a := s.take k0) (b := s.drop (k0 + 1)) hx hc.1 hc.2.1 h0 h5 h8 hk.symm hc.2.2 (.inl ⟨hb,rfl⟩) h hQ
       · rename_i hb;split at h
         · rename_i la hb' e1 e2;split at h
           · exact nS h
           · rename_i hlt;exact wX (a := s.take k0) (b := s.drop (k0 + 1)) hx hc.1 hc.2.1 h0 h5 h8 hk.symm hc.2.2 (.inr ⟨hb,rfl,la,hb',e1,e2,hlt⟩) h hQ
         · exact nS h
     · exact nS h
   · rename_i hno;refine Dn hx hn h0 h5 h8 hk.symm (fun i hi e => hno ?_) h hQ;have : (s.drop k0)[i - k0]? = some 45 := by refine aJ getElem?_drop (aJ (show k0 + (i - k0) = i by exact Nat.add_sub_of_le ‹_›) ?_);exact e
     exact mem_of_getElem? this
 · rename_i h45
   (injection h with h;subst h)
   refine ⟨_,h9,true,j8 (c := 45) (if_neg ‹_›),?_⟩;refine ⟨_,h9,_,rfl,by rw [bX];exact le_trans ‹_› (by decide),?_⟩;exact hQ _ _ (fun i h1 h2 => by simp [upd,show i ≠ 9 by exact ne_of_lt (lt_of_le_of_lt ‹_› (by decide))]) rfl .refl
noncomputable abbrev Si : WT := (dF (aN fW (aE 4) (aE 5)) (aN d4 (a7 (aE 0) (aE 4)) (aE 1)))
noncomputable abbrev Sj : WS := (aI (a6 (bK (aE 3) (a7 (aE 0) (aE 4))))
 (aI (e7 4 dD (wK (.int 1)))
 aK))
noncomputable abbrev Sk : WT := (aN fW (aE 4) (aE 5))
noncomputable abbrev Sl : WT := (dF (aN fW (aE 4) (aE 5)) (aN d4 (a7 (aE 0) (aE 4)) (aE 1)))
noncomputable abbrev Sn : WS := (aI (a6 (bG "list" bA (aE 6) (aH (a7 (aE 0) (aE 4)) aL)))
 (aI (e7 4 dD (wK (.int 1)))
 aK))
noncomputable abbrev So : WS := (aI (i5 (aN Mc (a7 (aE 0) (aE 4)) (aE 1)))
 (aI (e7 4 dD (wK (.int 1)))
 (aI (bB (aN dH (aE 4) (aE 5)) (aI (a6 (bK (aE 3) (wK (.str ".*"))))
 (aI oK
 aK)) aK)
 (aI (i5 (aN d4 (a7 (aE 0) (aE 4)) (aE 1)))
 (aI (aW 6 (bW aL))
 (aI (cP (dF (aN fW (aE 4) (aE 5)) (aN d4 (a7 (aE 0) (aE 4)) (aE 1))) (aI (a6 (bG "list" bA (aE 6) (aH (a7 (aE 0) (aE 4)) aL)))
 (aI (e7 4 dD (wK (.int 1)))
 aK)))
 (aI (aW 6 (bG "str" hM (wK (.str "")) (aH (aE 6) aL)))
 (aI (bB (aN dH (aE 4) (aE 5)) (aI (a6 (bK (aE 3) (wK (.str ".*"))))
 (aI (a6 (bK (aE 3) (aE 6)))
 aK)) (aI (a6 (bK (aE 3) (kR (d0 "(?>.*?" (kQ (aE 6) (d0 ")" kP))))))
 aK))
 aK))))))))
noncomputable def Gq (s : List Nat) : Bool :=
 decide (s.drop (if s.head? = some 33 then 1 else 0) ≠ []) && ((s.drop (if s.head? = some 33 then 1 else 0)).drop (if (s.drop (if s.head? = some 33 then 1 else 0)).head? = some 93 then 1 else 0)).all (fun c => c != 93)
noncomputable def zH (s : List Nat) : Option (List Nat) :=
 if Gq s = true then
   match uU s with
   | some r1 => match n7 r1 with
     | some y => if y.cps.toList.length <= 800 then Dj y.cps.toList else none
     | none => none
   | none => none
 else none
theorem Dr {s q : List Nat} (hsl : s.length <= 500) (h : zH s = some q) : j0 (91 :: s ++ [93]) q := by
 unfold zH at h;split at h
 · rename_i hc0;have hc : s.drop (if s.head? = some 33 then 1 else 0) ≠ [] /\ ((s.drop (if s.head? = some 33 then 1 else 0)).drop (if (s.drop (if s.head? = some 33 then 1 else 0)).head? = some 93 then 1 else 0)).all (fun c => c != 93) = true := by
     unfold Gq at hc0;simpa using hc0
   clear hc0;split at h
   · rename_i r1 hr1;split at h
     · rename_i y hy;split at h
       · rename_i hyl;have hy' : n7 r1 = some (S y.cps.toList) := by exact aJ hy rfl
         have hn : s ≠ [] := fun e => hc.1 (by refine aJ e ?_;rfl);by_cases h33 : s.head? = some 33
         · obtain ⟨s',rfl⟩ : ∃ s',s = 33 :: s' := head?_eq_some_iff.mp h33;dsimp only [List.head?_cons,if_true,List.drop_one,List.tail_cons] at hc;by_cases h93 : s'.head? = some 93
           · obtain ⟨T,rfl⟩ : ∃ T,s' = 93 :: T := head?_eq_some_iff.mp h93;refine mF (u := [33]) (v := [93]) (T := T) rfl (.inl rfl) (cons_ne_nil _ _) (.inl rfl) (fun c hcm => ?_) hsl hy' h hyl (mG hn hsl hr1);have := all_eq_true.mp hc.2 c (by exact hcm);simpa using this
           · refine mF (u := [33]) (v := []) (T := s') rfl (.inl rfl) (by exact hc.1) (.inr rfl) (fun c hcm => ?_) hsl hy' h hyl (mG hn hsl hr1);have := all_eq_true.mp hc.2 c (by simpa [h93] using hcm);simpa using this
         · simp only [h33,if_false,drop_zero] at hc;by_cases h93 : s.head? = some 93
           · obtain ⟨T,rfl⟩ : ∃ T,s = 93 :: T := head?_eq_some_iff.mp h93;refine mF (u := []) (v := [93]) (T := T) rfl (.inr ⟨rfl,by assumption⟩) ‹_› (.inl rfl) (fun c hcm => ?_) hsl hy' h hyl (mG hn hsl hr1);have := all_eq_true.mp hc.2 c (by exact hcm);simpa using this
           · refine mF (u := []) (v := []) (T := s) rfl (.inr ⟨rfl,by exact h33⟩) (by exact hn) (.inr rfl) (fun c hcm => ?_) hsl hy' h hyl (mG hn hsl hr1);have := all_eq_true.mp hc.2 c (by simpa [h93] using hcm);simpa using this
       · exact nS h
     · exact nS h
   · exact nS h
 · exact nS h
noncomputable def j1 (p : List Nat) : Option (List Nat) := match p with
 | [] => none
 | [c] => if c = 42 \/ c = 63 \/ c = 91 \/ 128 <= c then none else some (Gm c)
 | h :: r => if h = 91 /\ r = r.dropLast ++ [93] /\ r.dropLast.length <= 500 then zH r.dropLast else none
theorem wY {p q : List Nat} (h : j1 p = some q) : j0 p q := by
 unfold j1 at h;split at h
 · exact nS h
 · split at h
   · exact nS h
   · rename_i c hc
     (injection h with h;subst h)
     simp only [not_or] at hc;exact Dq hc.1 hc.2.1 hc.2.2.1 (by lia)
 · split at h
   · rename_i hd r _ hc;obtain ⟨rfl,hr,hl⟩ := hc;have := Dr hl h;rw [cons_append,<- hr] at this;exact this
   · exact nS h
noncomputable abbrev pv (st : Nat) : Option (List Nat) -> MV
 | none => .ref st
 | some q => .str (S q)
inductive Tk where
 | star
 | it (p q : List Nat)
noncomputable def Tk.pat : Tk -> List Nat
 | .star => [42]
 | .it p _ => p
noncomputable def Tk.Ok : Tk -> Prop
 | .star => True
 | .it p q => j0 p q /\ p ≠ []
noncomputable def Tk.put (res : List (Option (List Nat))) : Tk -> List (Option (List Nat))
 | .star => if res.getLast? = some none then res else res ++ [none]
 | .it _ q => res ++ [some q]
theorem Jg (res : List (Option (List Nat))) : ∀ k : Tk,(Tk.put res k).length <= res.length + 1
 | .star => by
   show (if res.getLast? = some none then res else res ++ [none]).length <= _;split <;> simp
 | .it p q => by simp [Tk.put]
theorem zI {st r : Nat} {x : List Nat} {P : d5} : ∀ (toks : List Tk) (pre : List Nat) (f : Nat) (res : List (Option (List Nat))) (ρ : bI) (H : List MO),(∀ k ∈ toks,k.Ok) -> x = pre ++ (toks.map Tk.pat).flatten -> toks.length <= f -> res.length + toks.length <= 700 -> ρ 0 = some (.str (S x)) -> ρ 1 = some (.ref st) -> ρ 3 = some (.ref r) -> ρ 4 = some (.app r) -> ρ 5 = some (.int (pre.length : Int)) -> ρ 6 = some (.int (x.length : Int)) -> H[r]? = some (.list (res.map (pv st))) -> (∀ (ρ' : bI) (H' : List MO),ρ' 3 = some (.ref r) -> ρ' 5 = some (.int (x.length : Int)) -> ρ' 6 = some (.int (x.length : Int)) -> H'[r]? = some (.list ((toks.foldl Tk.put res).map (pv st))) -> bT [r] H H' -> P .next ρ' H') -> eF (aN fW (aE 5) (aE 6)) tB P (f + 1) ρ H := by
 intro toks;induction toks with
 | nil =>
   intro pre f res ρ H hk hx hf hl h0 h1 h3 h4 h5 h6 hr hP;have : x = pre := by simpa using hx
   subst this;refine ⟨_,h5,_,h6,false,Ep (by (simp;done)),?_⟩;exact hP ρ H h3 h5 h6 hr .refl
 | cons k toks ih =>
   intro pre f res ρ H hk hx hf hl h0 h1 h3 h4 h5 h6 hr hP;cases f with
   | zero => exact absurd hf (Nat.not_succ_le_zero _)
   | succ f =>
     cases k with
     | it p q =>
       obtain ⟨ok,hpn⟩ := hk (.it p q) mem_cons_self;have hx' : x = pre ++ p ++ (toks.map Tk.pat).flatten := by refine aJ hx ?_;exact aJ (append_assoc ..) rfl
       have hpl : 0 < p.length := length_pos_iff.mpr hpn;refine ⟨_,h5,_,h6,true,r8 (by refine aJ hx' ?_;simp;lia),?_⟩;rw [hx'] at h0 h6;refine ok pre (toks.map Tk.pat).flatten ρ H r (res.map (pv st)) _ h0 h4 h5 h6 hr (by simp;exact le_trans (le_trans (le_add_right _ _) ‹_›) (by decide)) fun ρ' H' g g5 gr gx => ?_;rw [<- hx'] at h0 h6;refine ih (pre ++ p) f (res ++ [some q]) ρ' H' (fun k hk' => hk k (mem_cons_of_mem _ ‹_›)) hx' (by simp at hf;assumption) (lS ‹_›) ((g 0 (by decide) (by decide)).trans h0) ((g 1 (by decide) (by decide)).trans h1) ((g 3 (by decide) (by decide)).trans h3) ((g 4 (by decide) (by decide)).trans h4) g5 ((g 6 (by decide) (by decide)).trans h6) (by refine aJ gr ?_;simp) fun ρ'' H'' z3 z5 z6 zr zx => hP ρ'' H'' z3 z5 z6 zr (gx.trans zx)
     | star =>
       have hx' : x = pre ++ [42] ++ (toks.map Tk.pat).flatten := by refine aJ hx ?_;exact aJ (append_assoc ..) rfl
       have hg : x[pre.length]? = some 42 := by refine aJ hx' ?_;exact Q1
       refine ⟨_,h5,_,h6,true,r8 (by refine aJ hx' ?_;exact O8),?_⟩;refine ⟨_,h0,_,h5,_,bM hg,?_⟩;refine ⟨_,h5,?_⟩;refine ⟨_,rfl,true,gZ (x := [42]) (y := [42]) rfl,?_⟩;have next : ∀ (ρ' : bI) (H' : List MO),ρ' = upd (upd ρ 7 (.str (S [42]))) 5 (.int ((pre.length : Int) + 1)) -> H'[r]? = some (.list ((Tk.put res .star).map (pv st))) -> bT [r] H H' -> eF (aN fW (aE 5) (aE 6)) tB P (f + 1) ρ' H' := fun ρ' H' e gr gx => by
         subst e;refine ih (pre ++ [42]) f (Tk.put res .star) _ H' (fun k hk' => hk k (mem_cons_of_mem _ ‹_›)) hx' (by simp at hf;assumption) ?_ h0 h1 h3 h4 (by simp [upd]) h6 gr fun ρ'' H'' z3 z5 z6 zr zx => hP ρ'' H'' z3 z5 z6 zr (gx.trans zx);have := Jg res .star;simp at hl
         lia
       have push : ∀ (ρ' : bI),ρ' = upd (upd ρ 7 (.str (S [42]))) 5 (.int ((pre.length : Int) + 1)) -> res.getLast? ≠ some none -> xU r (.ref st) H fun eQ => eF (aN fW (aE 5) (aE 6)) tB P (f + 1) ρ' eQ := fun ρ' e hne => by
         refine ⟨_,hr,by simp;exact lt_of_le_of_lt (le_trans (le_add_right _ _) ‹_›) (by decide),?_⟩;refine next ρ' _ e ?_ (bT.set mem_cons_self)
         refine aJ (b9 hr ..) ?_;unfold Tk.put;refine aJ (if_neg hne) ?_;simp
       cases hres : res.getLast? with
       | none =>
         have : res = [] := getLast?_eq_none_iff.mp hres;refine bP fun no => ?_;subst this;refine no ?_;refine ⟨_,h3,false,j7 hr,?_⟩;refine ⟨_,h4,_,h1,r,rfl,?_⟩;exact push _ rfl (by decide)
       | some lst =>
         obtain ⟨res0,rfl⟩ := getLast?_eq_some_iff.mp hres;have hr' : H[r]? = some (.list (res0.map (pv st) ++ [pv st lst])) := by refine aJ hr ?_;simp
         refine ⟨_,h3,true,(j7 hr).trans (by simp),?_⟩;cases lst with
         | none =>
           refine ⟨_,h3,⟨_,rfl,⟨_,gR hr',_,h1,false,?_,?_⟩⟩⟩
           · show (some (st == st)).map (!·) = some false;simp
           refine next _ H rfl ?_ .refl
           refine aJ hr ?_;simp [Tk.put]
         | some q =>
           refine ⟨_,h3,⟨_,rfl,⟨_,gR hr',_,h1,true,rfl,?_⟩⟩⟩;refine ⟨_,h4,_,h1,r,rfl,?_⟩;exact push _ rfl (by simp)
theorem wZ {st : Nat} {qm : MV} {toks : List Tk} {H : List MO} {P : cM} (hk : ∀ k ∈ toks,k.Ok) (hl : toks.length <= 600) (hP : ∀ (r : Nat) (H' : List MO),bT [] H H' -> H'[r]? = some (.list ((toks.foldl Tk.put []).map (pv st))) -> P (.ref r) H') : l8 [.str (S (toks.map Tk.pat).flatten),.ref st,qm] H P := by
 refine ⟨rfl,(show 0 <= 1000 by decide),?_⟩;refine ⟨_,rfl,_,_,rfl,bE _ _ [],?_⟩;refine ⟨_,rfl,(show 2 <= 1000 by decide),_,_,rfl,?_⟩;refine ⟨toks.length + 1,zI (st := st) (r := H.length) (x := (toks.map Tk.pat).flatten) toks [] toks.length [] _ _ hk rfl (le_refl _) (by exact nz ‹_› (by decide)) rfl rfl rfl rfl rfl (show some (MV.int ((S (toks.map Tk.pat).flatten).length : Int)) = _ by exact aJ (bX ..) rfl) (bE _ _ []) fun ρ' H' z3 z5 z6 zr zx => ?_⟩;refine ⟨_,z5,_,z6,true,Hv rfl,rfl,?_⟩;refine ⟨_,z3,?_⟩;exact hP _ _ (fun i o _ e => zx i o (by have := (List.getElem?_eq_some_iff.mp e).1;exact xL ‹_›) (aR e _)) zr
section
variable {st r : Nat} {L : List (Option (List Nat))} {H : List MO}
theorem uV {q : List Nat} : d4 (.str (S q)) (.ref st) H = some true := rfl
theorem Bl : d4 (.ref st) (.ref st) H = some false := by
 show (some (st == st)).map (!·) = some false;simp
theorem Jh {inp : Nat} {P : d5} (hir : inp ≠ r) : ∀ (seg : List (List Nat)) (pre : List (Option (List Nat))) (tail : List (Option (List Nat))) (f : Nat) (acc : List (List Nat)) (ρ : bI) (H : List MO),L = pre ++ seg.map some ++ tail -> (tail = [] \/ ∃ t',tail = none :: t') -> seg.length <= f -> acc.length + seg.length <= 700 -> ρ 0 = some (.ref inp) -> ρ 1 = some (.ref st) -> ρ 3 = some (.app r) -> ρ 4 = some (.int (pre.length : Int)) -> ρ 5 = some (.int (L.length : Int)) -> H[inp]? = some (.list (L.map (pv st))) -> H[r]? = some (.list (bR acc)) -> (∀ (ρ' : bI) (H' : List MO),(∀ i,i ≠ 4 -> ρ' i = ρ i) -> ρ' 4 = some (.int ((pre.length + seg.length : Nat) : Int)) -> H'[r]? = some (.list (bR (acc ++ seg))) -> bT [r] H H' -> P .next ρ' H') -> eF Si Sj P (f + 1) ρ H := by
 intro seg;induction seg with
 | nil =>
   intro pre tail f acc ρ H hL ht hf hl h0 h1 h3 h4 h5 hi hr hP;have fin := hP ρ H (fun _ _ => rfl) h4 (by simpa using hr) .refl;rcases ht with rfl | ⟨t',rfl⟩
   · refine ⟨_,h4,_,h5,false,Ep (by refine aJ hL ?_;simp),?_⟩;exact fin
   · have hg : (L.map (pv st))[pre.length]? = some (.ref st) := by refine aJ hL ?_;simp
     refine ⟨_,h4,_,h5,true,r8 (by refine aJ hL ?_;exact pL),?_⟩;refine ⟨_,h0,_,h4,_,b8 hi hg,_,h1,false,Bl,?_⟩;exact fin
 | cons q seg ih =>
   intro pre tail cs0;cases cs0 with
   | zero =>
     intro acc ρ H hL ht hf hl h0 h1 h3 h4 h5 hi hr hP;simp at hf
   | succ f =>
     intro acc ρ H hL ht hf hl h0 h1 h3 h4 h5 hi hr hP;have hg : (L.map (pv st))[pre.length]? = some (.str (S q)) := by refine aJ hL ?_;simp
     refine ⟨_,h4,_,h5,true,r8 (by refine aJ hL ?_;exact O8),?_⟩;refine ⟨_,h0,_,h4,_,b8 hi hg,_,h1,true,uV,?_⟩;refine ⟨_,h3,_,h0,_,h4,_,b8 hi hg,r,rfl,_,hr,by simp;exact lt_of_le_of_lt (le_trans (le_add_right _ _) ‹_›) (by decide),?_⟩;refine ⟨_,h4,?_⟩;refine aJ (gU ..) ?_;refine ih (pre ++ [some q]) tail f (acc ++ [q]) _ _ (by refine aJ hL ?_;simp) ht (by simp at hf;assumption) (lS ‹_›) h0 h1 h3 (by simp [upd]) h5 (bZ hi (Ne.symm hir)) (b9 hr _) fun ρ' H' g g4 gr gx => hP ρ' H' (fun i hi => (g i hi).trans (if_neg ‹_›)) ?_ ?_ ((bT.set mem_cons_self).trans gx)
     · refine aJ g4 ?_;congr 2;exact pE
     · refine aJ gr ?_;exact aJ (append_assoc ..) rfl
theorem Ji {inp fx : Nat} {P : d5} (hir : inp ≠ fx) : ∀ (seg : List (List Nat)) (pre : List (Option (List Nat))) (tail : List (Option (List Nat))) (f : Nat) (acc : List (List Nat)) (ρ : bI) (H : List MO),L = pre ++ seg.map some ++ tail -> (tail = [] \/ ∃ t',tail = none :: t') -> seg.length <= f -> acc.length + seg.length <= 700 -> ρ 0 = some (.ref inp) -> ρ 1 = some (.ref st) -> ρ 6 = some (.ref fx) -> ρ 4 = some (.int (pre.length : Int)) -> ρ 5 = some (.int (L.length : Int)) -> H[inp]? = some (.list (L.map (pv st))) -> H[fx]? = some (.list (bR acc)) -> (∀ (ρ' : bI) (H' : List MO),(∀ i,i ≠ 4 -> ρ' i = ρ i) -> ρ' 4 = some (.int ((pre.length + seg.length : Nat) : Int)) -> H'[fx]? = some (.list (bR (acc ++ seg))) -> bT [fx] H H' -> P .next ρ' H') -> eF Sl Sn P (f + 1) ρ H := by
 intro seg;induction seg with
 | nil =>
   intro pre tail f acc ρ H hL ht hf hl h0 h1 h3 h4 h5 hi hr hP;have fin := hP ρ H (fun _ _ => rfl) h4 (by simpa using hr) .refl;rcases ht with rfl | ⟨t',rfl⟩
   · refine ⟨_,h4,_,h5,false,Ep (by refine aJ hL ?_;simp),?_⟩;exact fin
   · have hg : (L.map (pv st))[pre.length]? = some (.ref st) := by refine aJ hL ?_;simp
     refine ⟨_,h4,_,h5,true,r8 (by refine aJ hL ?_;exact pL),?_⟩;refine ⟨_,h0,_,h4,_,b8 hi hg,_,h1,false,Bl,?_⟩;exact fin
 | cons q seg ih =>
   intro pre tail cs0;cases cs0 with
   | zero =>
     intro acc ρ H hL ht hf hl h0 h1 h3 h4 h5 hi hr hP;simp at hf
   | succ f =>
     intro acc ρ H hL ht hf hl h0 h1 h3 h4 h5 hi hr hP;have hg : (L.map (pv st))[pre.length]? = some (.str (S q)) := by refine aJ hL ?_;simp
     refine ⟨_,h4,_,h5,true,r8 (by refine aJ hL ?_;exact O8),?_⟩;refine ⟨_,h0,_,h4,_,b8 hi hg,_,h1,true,uV,?_⟩;refine ⟨_,h3,.list hr,_,h0,_,h4,_,b8 hi hg,_,hr,by simp;exact lt_of_le_of_lt (le_trans (le_add_right _ _) ‹_›) (by decide),?_⟩;refine ⟨_,h4,?_⟩;refine aJ (gU ..) ?_;refine ih (pre ++ [some q]) tail f (acc ++ [q]) _ _ (by refine aJ hL ?_;simp) ht (by simp at hf;assumption) (lS ‹_›) h0 h1 h3 (by simp [upd]) h5 (bZ hi (Ne.symm hir)) (b9 hr _) fun ρ' H' g g4 gr gx => hP ρ' H' (fun i hi => (g i hi).trans (if_neg ‹_›)) ?_ ?_ ((bT.set mem_cons_self).trans gx)
     · refine aJ g4 ?_;congr 2;exact pE
     · refine aJ gr ?_;exact aJ (append_assoc ..) rfl
end
noncomputable abbrev fA (segs : List (List (List Nat))) : List (Option (List Nat)) := segs.flatMap fun s => none :: s.map some
noncomputable def gV : List (List (List Nat)) -> List (List Nat)
 | [] => []
 | [s] => [[46,42],s.flatten]
 | s :: r => ([40,63,62,46,42,63] ++ s.flatten ++ [41]) :: gV r
section
variable {st r inp : Nat} {L : List (Option (List Nat))}
theorem Jj {P : d5} (hir : inp ≠ r) : ∀ (segs : List (List (List Nat))) (pre : List (Option (List Nat))) (f : Nat) (acc : List (List Nat)) (ρ : bI) (H : List MO),L = pre ++ fA segs -> (∀ s ∈ segs,s ≠ [] /\ s.flatten.length <= 800 /\ s.length <= 600) -> segs.length <= f -> acc.length + 2 * segs.length <= 600 -> inp < H.length -> r < H.length -> ρ 0 = some (.ref inp) -> ρ 1 = some (.ref st) -> ρ 2 = some (.ref r) -> ρ 3 = some (.app r) -> ρ 4 = some (.int (pre.length : Int)) -> ρ 5 = some (.int (L.length : Int)) -> H[inp]? = some (.list (L.map (pv st))) -> H[r]? = some (.list (bR acc)) -> (∀ (ρ' : bI) (H' : List MO),ρ' 2 = some (.ref r) -> ρ' 4 = some (.int (L.length : Int)) -> ρ' 5 = some (.int (L.length : Int)) -> H'[r]? = some (.list (bR (acc ++ gV segs))) -> bT [r] H H' -> P .next ρ' H') -> eF Sk So P (f + 1) ρ H := by
 intro segs;induction segs with
 | nil =>
   intro pre f acc ρ H hL hs hf hl hil hrl h0 h1 h2 h3 h4 h5 hi hr hP;have hL' : L = pre := by simpa using hL
   subst hL';refine ⟨_,h4,_,h5,false,Ep (by (simp;done)),?_⟩;exact hP ρ H h2 h4 h5 (by simpa [gV] using hr) .refl
 | cons s segs ih =>
   intro pre f acc ρ H hL hs hf hl hil hrl h0 h1 h2 h3 h4 h5 hi hr hP;cases f with
   | zero => exact absurd hf (Nat.not_succ_le_zero _)
   | succ f =>
     obtain ⟨hsn,hsb,hsl⟩ := hs s mem_cons_self;obtain ⟨q,s',rfl⟩ : ∃ q s',s = q :: s' := exists_cons_of_ne_nil hsn;have hL1 : L = (pre ++ [none]) ++ (q :: s').map some ++ fA segs := by rw [hL];simp
     have hg0 : (L.map (pv st))[pre.length]? = some (.ref st) := by rw [hL];simp
     have hg1 : (L.map (pv st))[pre.length + 1]? = some (.str (S q)) := by rw [hL];simp
     have hlen : pre.length + 1 < L.length := by rw [hL];simp
     refine ⟨_,h4,_,h5,true,r8 (by lia),?_⟩;refine ⟨_,h0,_,h4,_,b8 hi hg0,_,h1,true,?_,rfl,?_⟩
     · show some (st == st) = some true;simp
     refine ⟨_,h4,?_⟩;refine ⟨_,rfl,_,h5,false,I2 (by exact mt Int.ofNat_inj.mp (ne_of_lt ‹_›)),?_⟩;refine ⟨_,h0,_,rfl,_,b8 (k := pre.length + 1) hi hg1,_,h1,true,uV,rfl,?_⟩;refine ⟨(show 0 <= 1000 by decide),?_⟩;have htl : fA segs = [] \/ ∃ t',fA segs = none :: t' := by
       cases segs with
       | nil => exact .inl rfl
       | cons a b => exact .inr ⟨_,rfl⟩
     refine ⟨(q :: s').length + 1,Ji (st := st) (inp := inp) (fx := H.length) (L := L) (ne_of_lt ‹_›) (q :: s') (pre ++ [none]) (fA segs) (q :: s').length [] _ _ hL1 htl (le_refl _) (by exact nz ‹_› (by decide)) h0 h1 rfl (by simp [upd]) h5 (aR hi _) (bE _ _ []) fun ρ1 H1 g g4 gx gX => ?_⟩;have i1 : H1[inp]? = some (.list (L.map (pv st))) := gX inp _ (xL ‹_›) (aR hi _);have r1 : H1[r]? = some (.list (bR acc)) := gX r _ (xL ‹_›) (aR hr _);have up1 : bT [r] H H1 := fun i o hi e => gX i o (by have := (List.getElem?_eq_some_iff.mp e).1;exact xL ‹_›) (aR e _);have hil1 : inp < H1.length := (List.getElem?_eq_some_iff.mp i1).1;have hrl1 : r < H1.length := (List.getElem?_eq_some_iff.mp r1).1;have hsum : ((q :: s').map List.length).sum <= 800 := by rw [<- length_flatten];exact hsb
     refine nM (j := H.length) (l := q :: s') (fun Q hQ => ⟨_,((g 6 (by decide)).trans rfl : ρ1 6 = some (.ref H.length)),q0 (Q := Q) fun E => hQ E (aR (by exact gx : H1[H.length]? = some (.list (bR (q :: s')))) _)⟩) (by exact le_trans ‹_› (by decide)) fun E => ?_;have k0 : ∀ i,i ≠ 4 -> i ≠ 6 -> ρ1 i = ρ i := fun i a b => (g i a).trans (by simp [upd,a,b]);have i2 := aR i1 E;have r2 := aR r1 E;have up2 : bT [r] H (H1 ++ E) := up1.trans (bT.app _ _);have e4 : ((pre ++ [none]).length + (q :: s').length : Nat) = (pre ++ none :: (q :: s').map some).length := by simp;exact Nat.add_right_comm _ _ _
     rw [e4] at g4;cases segs with
     | nil =>
       have hn : L.length = (pre ++ none :: (q :: s').map some).length := by refine aJ hL ?_;simp
       refine ⟨_,g4,_,(k0 5 (by decide) (by decide)).trans h5,true,Hv (by solve_by_elim (maxDepth := 3) [lt_irrefl,lt_of_lt_of_le]),?_⟩;refine ⟨_,(k0 3 (by decide) (by decide)).trans h3,r,rfl,_,r2,by simp;simp at hl;exact lt_of_le_of_lt ‹_› (by decide),?_⟩;have hr3 : ((H1 ++ E).set r (.list (bR acc ++ [MV.str ".*"])))[r]? = some (.list (bR (acc ++ [[46,42]]))) := by
         refine aJ (b9 r2 ..) ?_;simp;rfl
       refine ⟨_,(k0 3 (by decide) (by decide)).trans h3,_,rfl,r,rfl,_,hr3,by simp;exact le_trans ‹_› (by decide),?_⟩;refine aJ (gU (acc ++ [[46,42]]) (q :: s').flatten) ?_;have := ih L f (acc ++ [[46,42]] ++ [(q :: s').flatten]) (upd ρ1 6 (.str (S (q :: s').flatten))) (((H1 ++ E).set r (.list (bR acc ++ [MV.str ".*"]))).set r (.list (bR (acc ++ [[46,42]] ++ [(q :: s').flatten])))) (by exact (append_nil _).symm) (by decide) (by simp) (by simp at hl ⊢;assumption) (by simp;exact lt_of_lt_of_le ‹_› (le_add_right _ _)) (by simp;exact lt_of_lt_of_le ‹_› (le_add_right _ _)) ((k0 0 (by decide) (by decide)).trans h0) ((k0 1 (by decide) (by decide)).trans h1) ((k0 2 (by decide) (by decide)).trans h2) ((k0 3 (by decide) (by decide)).trans h3) (g4.trans (aJ hn rfl)) ((k0 5 (by decide) (by decide)).trans h5) (bZ (bZ i2 (Ne.symm hir)) (Ne.symm hir)) (b9 hr3 _) fun ρ' H' z2 z4 z5 zr zx => hP ρ' H' z2 z4 z5 (by refine aJ zr ?_;simp [gV]) ((up2.trans ((bT.set (by simp)).trans (bT.set (by simp)))).trans zx);exact this
     | cons s2 segs =>
       have hn : (pre ++ none :: (q :: s').map some).length < L.length := by refine aJ hL ?_;simp
       refine ⟨_,g4,_,(k0 5 (by decide) (by decide)).trans h5,false,I2 (by exact mt Int.ofNat_inj.mp (ne_of_lt ‹_›)),?_⟩;refine ⟨_,(k0 3 (by decide) (by decide)).trans h3,?_⟩;have e1 : Str.empty ++ ofString "(?>.*?" = S [40,63,62,46,42,63] := rfl;refine ⟨by decide,_,rfl,_,rfl,?_⟩;rw [e1,oB];have e2 : S ([40,63,62,46,42,63] ++ (q :: s').flatten) ++ ofString ")" = S ([40,63,62,46,42,63] ++ (q :: s').flatten ++ [41]) := oB _ [41];refine ⟨gT (by rw [bX,bX];simp only [length_cons,length_nil];exact le_trans (add_le_add_left ‹_› _) (by decide)),gT (by rw [bX];show _ + 1 <= 1000;simp only [length_append,length_cons,length_nil];lia),?_⟩;rw [e2];refine ⟨gT (by rw [bX];simp only [length_append,length_cons,length_nil];lia),?_⟩;refine ⟨r,rfl,_,r2,by simp;exact lt_of_le_of_lt (le_trans (le_add_right _ _) ‹_›) (by decide),?_⟩;rw [gU];have := ih (pre ++ none :: (q :: s').map some) f (acc ++ [[40,63,62,46,42,63] ++ (q :: s').flatten ++ [41]]) (upd ρ1 6 (.str (S (q :: s').flatten))) ((H1 ++ E).set r (.list (bR (acc ++ [[40,63,62,46,42,63] ++ (q :: s').flatten ++ [41]])))) (by rw [hL];exact aJ (append_assoc ..) rfl) (fun s hs' => hs s (mem_cons_of_mem _ hs')) (by simp at hf ⊢;assumption) (by simp at hl ⊢;lia) (by simp;exact lt_of_lt_of_le ‹_› (le_add_right _ _)) (by simp;exact lt_of_lt_of_le ‹_› (le_add_right _ _)) ((k0 0 (by decide) (by decide)).trans h0) ((k0 1 (by decide) (by decide)).trans h1) ((k0 2 (by decide) (by decide)).trans h2) ((k0 3 (by decide) (by decide)).trans h3) g4 ((k0 5 (by decide) (by decide)).trans h5) (bZ i2 (Ne.symm hir)) (b9 r2 _) fun ρ' H' z2 z4 z5 zr zx => hP ρ' H' z2 z4 z5 (by rw [zr];exact aJ (append_assoc ..) rfl) ((up2.trans (bT.set mem_cons_self)).trans zx);exact this
end
noncomputable def s5 (seg0 : List (List Nat)) (segs : List (List (List Nat))) : List Nat := [40,63,115,58] ++ (seg0 ++ gV segs).flatten ++ [41,92,90]
theorem zJ {st inp : Nat} {seg0 : List (List Nat)} {segs : List (List (List Nat))} {H : List MO} {P : cM} (hi : H[inp]? = some (.list ((seg0.map some ++ fA segs).map (pv st)))) (hs : ∀ s ∈ segs,s ≠ [] /\ s.flatten.length <= 800 /\ s.length <= 600) (h0 : seg0.length + 2 * segs.length <= 500) (hf : (seg0 ++ gV segs).flatten.length <= 900) (hP : ∀ H',bT [] H H' -> P (.str (S (s5 seg0 segs))) H') : cW [.ref inp,.ref st] H P := by
 have hil : inp < H.length := (List.getElem?_eq_some_iff.mp hi).1;refine ⟨rfl,(show 0 <= 1000 by decide),?_⟩;refine ⟨_,rfl,_,_,rfl,bE _ _ [],?_⟩;refine ⟨_,rfl,_,aR hi _,(show 2 <= 1000 by decide),_,_,rfl,?_⟩;have htl : fA segs = [] \/ ∃ t',fA segs = none :: t' := by
   cases segs with
   | nil => exact .inl rfl
   | cons a b => exact .inr ⟨_,rfl⟩
 refine ⟨seg0.length + 1,Jh (st := st) (r := H.length) (inp := inp) (L := seg0.map some ++ fA segs) (ne_of_lt ‹_›) seg0 [] (fA segs) seg0.length [] _ _ (by rfl : (seg0.map some ++ fA segs) = [] ++ seg0.map some ++ fA segs) htl (le_refl _) (by simp;exact le_trans (le_trans (le_add_right _ _) ‹_›) (by decide)) rfl rfl rfl rfl (show some (MV.int (((seg0.map some ++ fA segs).map (pv st)).length : Int)) = _ by exact aJ (length_map ..) rfl) (aR hi _) (bE _ _ []) fun ρ1 H1 g g4 gr gX => ?_⟩;have i1 : H1[inp]? = some (.list ((seg0.map some ++ fA segs).map (pv st))) := gX inp _ (xL ‹_›) (aR hi _);have gr' : H1[H.length]? = some (.list (bR seg0)) := by exact gr
 refine ⟨segs.length + 1,Jj (st := st) (r := H.length) (inp := inp) (L := seg0.map some ++ fA segs) (ne_of_lt ‹_›) segs (seg0.map some) segs.length seg0 _ _ rfl hs (le_refl _) (by exact le_trans ‹_› (by decide)) (List.getElem?_eq_some_iff.mp i1).1 (List.getElem?_eq_some_iff.mp gr').1 ((g 0 (by decide)).trans rfl) ((g 1 (by decide)).trans rfl) ((g 2 (by decide)).trans rfl) ((g 3 (by decide)).trans rfl) (g4.trans (by simp)) ((g 5 (by decide)).trans (show some (MV.int (((seg0.map some ++ fA segs).map (pv st)).length : Int)) = _ by exact aJ (length_map ..) rfl)) i1 gr' fun ρ2 H2 z2 z4 z5 zr zX => ?_⟩;refine ⟨_,z4,_,z5,true,Hv rfl,rfl,?_⟩;have up2 : bT [] H H2 := fun i o _ e => zX i o (by have := (List.getElem?_eq_some_iff.mp e).1;exact xL ‹_›) ((fun i o _ e => gX i o (by have := (List.getElem?_eq_some_iff.mp e).1;exact xL ‹_›) (aR e _) : bT [] H H1) i o ‹_› e);refine nM (j := H.length) (l := seg0 ++ gV segs) (fun Q hQ => ⟨_,z2,q0 (Q := Q) fun E => hQ E (aR zr _)⟩) (by refine cE length_flatten ?_;exact le_trans ‹_› (by decide)) fun E => ?_;have e1 : Str.empty ++ ofString "(?s:" = S [40,63,115,58] := rfl;refine ⟨by decide,_,rfl,_,rfl,?_⟩;rw [e1,oB];have e2 : S ([40,63,115,58] ++ (seg0 ++ gV segs).flatten) ++ ofString ")\\Z" = S (s5 seg0 segs) := oB _ [41,92,90];refine ⟨gT (by rw [bX,bX];dsimp only [length_cons,length_nil];exact le_trans (add_le_add_left ‹_› _) (by decide)),gT (by rw [bX];show _ + 3 <= 1000;simp only [length_append,length_cons,length_nil] at hf ⊢;lia),?_⟩;rw [e2];refine ⟨gT (by rw [bX];unfold s5;simp only [length_append,length_cons,length_nil] at hf ⊢;lia),?_⟩;exact hP _ (up2.trans (bT.app _ _))
noncomputable abbrev Jk (l : List (List Nat × List Nat)) : List Tk := l.map fun p => .it p.1 p.2
theorem w3 : ∀ (l : List (List Nat × List Nat)) (res : List (Option (List Nat))),(Jk l).foldl Tk.put res = res ++ l.map fun p => some p.2 := by
 intro l;induction l with
 | nil =>
   intro res;exact (append_nil _).symm
 | cons p l ih =>
   intro res
   skip
   refine aJ (ih ..) ?_;exact aJ (append_assoc ..) rfl
theorem zK (k : Nat) (res : List (Option (List Nat))) (h : res.getLast? ≠ some none) : (List.replicate (k + 1) Tk.star).foldl Tk.put res = res ++ [none] := by
 refine aJ replicate_succ (aJ foldl_cons ?_);have e : Tk.put res .star = res ++ [none] := if_neg h;refine aJ e ?_;clear e;induction k with
 | zero => rfl
 | succ k ih =>
   refine aJ replicate_succ (aJ foldl_cons ?_);have e : Tk.put (res ++ [none]) .star = res ++ [none] := if_pos (by simp);refine aJ e ?_;exact ih
noncomputable abbrev Hw (k : Nat) (segs : List (List (List Nat × List Nat))) : List Tk := segs.flatMap fun s => List.replicate (k + 1) Tk.star ++ Jk s
theorem Ds (k : Nat) : ∀ (segs : List (List (List Nat × List Nat))) (res : List (Option (List Nat))),(∀ s ∈ segs,s ≠ []) -> res.getLast? ≠ some none -> (Hw k segs).foldl Tk.put res = res ++ fA (segs.map fun s => s.map (·.2)) := by
 intro segs;induction segs with
 | nil =>
   intro res _ _;exact (append_nil _).symm
 | cons s segs ih =>
   intro res hs h;show ((List.replicate (k + 1) Tk.star ++ Jk s) ++ Hw k segs).foldl Tk.put res = _;rw [foldl_append,foldl_append,zK k res h,w3,ih _ (fun s hs' => hs s (mem_cons_of_mem _ hs')) ?_]
   · simp
   · obtain ⟨s0,l,rfl⟩ : ∃ s0 l,s = s0 ++ [l] := ⟨s.dropLast,s.getLast (hs s mem_cons_self),(dropLast_concat_getLast _).symm⟩;rw [map_append,map_cons,map_nil,<- append_assoc,getLast?_concat];simp
theorem qP {k : Nat} {seg0 : List (List Nat × List Nat)} {segs : List (List (List Nat × List Nat))} {pat : List Nat} {H : List MO} {P : cM} (hpat : pat = (seg0.map (·.1)).flatten ++ (segs.flatMap fun s => List.replicate (k + 1) 42 ++ (s.map (·.1)).flatten)) (hk : k <= 1) (hok : ∀ p ∈ seg0,j0 p.1 p.2 /\ p.1 ≠ []) (hoks : ∀ s ∈ segs,∀ p ∈ s,j0 p.1 p.2 /\ p.1 ≠ []) (hs0 : seg0 ≠ []) (hs : ∀ s ∈ segs,s ≠ [] /\ (s.map (·.2)).flatten.length <= 800 /\ s.length <= 100) (hl0 : seg0.length <= 100) (hls : segs.length <= 100) (hf : (seg0.map (·.2) ++ gV (segs.map fun s => s.map (·.2))).flatten.length <= 900) (htl : (Jk seg0 ++ Hw k segs).length <= 600) (hP : ∀ H',bT [] H H' -> P (.str (S (s5 (seg0.map (·.2)) (segs.map fun s => s.map (·.2))))) H') : cU [.str (S pat)] H P := by
 have hp : pat = ((Jk seg0 ++ Hw k segs).map Tk.pat).flatten := by
   refine aJ hpat (aJ map_append (aJ flatten_append ?_));congr 1
   · refine aJ map_map ?_;rfl
   · clear hpat hP hf htl hls hs hoks;induction segs with
     | nil => rfl
     | cons s segs ih =>
       refine aJ flatMap_cons (aJ ih ?_);show _ = (List.map Tk.pat ((List.replicate (k + 1) Tk.star ++ Jk s) ++ Hw k segs)).flatten;refine aJ map_append (aJ map_append (aJ flatten_append (aJ flatten_append (aJ map_map (aJ List.map_replicate ?_)))));congr 2;have : ∀ n,List.replicate n 42 = (List.replicate n (Tk.pat .star)).flatten := fun n => by
         induction n with
         | zero => rfl
         | succ n ih => refine aJ replicate_succ (aJ replicate_succ (aJ flatten_cons (cE ih ?_)));rfl
       exact this _
 refine ⟨rfl,rfl,?_⟩;refine aJ hp ?_;refine ⟨_,rfl,_,rfl,?_⟩;refine wZ (toks := Jk seg0 ++ Hw k segs) (fun t ht => ?_) htl fun r H1 hX hr => ?_
 · rcases mem_append.mp ht with q | q
   · obtain ⟨p,hp',rfl⟩ := mem_map.mp q;exact hok p hp'
   · obtain ⟨s,hs',q⟩ := mem_flatMap.mp q;rcases mem_append.mp q with q | q
     · refine aJ ((List.mem_replicate.mp q).2) ?_;trivial
     · obtain ⟨p,hp',rfl⟩ := mem_map.mp q;exact hoks s hs' p hp'
 · have hfold : (Jk seg0 ++ Hw k segs).foldl Tk.put [] = (seg0.map (·.2)).map some ++ fA (segs.map fun s => s.map (·.2)) := by
     rw [foldl_append,w3,Ds k segs _ (fun s h => (hs s h).1)]
     · simp
     · obtain ⟨s0,l,rfl⟩ : ∃ s0 l,seg0 = s0 ++ [l] := ⟨seg0.dropLast,seg0.getLast hs0,(dropLast_concat_getLast _).symm⟩;simp
   rw [hfold] at hr;refine ⟨_,rfl,_,rfl,?_⟩;refine zJ hr (fun s hs' => ?_) ?_ hf fun H' hX' => hP H' (fun i o hi e => hX' i o hi (hX i o hi (aR e _)))
   · obtain ⟨s',h1,rfl⟩ := mem_map.mp hs';refine bP fun no => ?_;obtain ⟨a,b,c⟩ := hs s' h1;refine no ?_;exact ⟨by simpa using a,b,by exact lm (le_trans ‹_› (by decide))⟩
   · simp;lia
noncomputable def one : List Nat -> Option (Nat × List Nat)
 | [] => none
 | c :: r => if c = 92 then (match r with | [] => none | d :: r' => some (d,r')) else some (c,r)
theorem qQ {x pre l r : List Nat} {c : Nat} {H : List MO} {P : cM} (hx : x = pre ++ l) (h : one l = some (c,r)) (hP : ∀ pre' : List Nat,x = pre' ++ r -> P (.tup [.str (S [c]),.int (pre'.length : Int)]) H) : dU [.str (S x),.int (pre.length : Int)] H P := by
 cases l with
 | nil => exact nS h
 | cons d l =>
   have hg : x[pre.length]? = some d := by rw [hx];exact aM
   by_cases hd : d = 92
   · subst hd;cases l with
     | nil => exact nS h
     | cons e l =>
       simp [one] at h;refine bP fun no => ?_;obtain ⟨rfl,rfl⟩ := h;refine no ?_;have hg1 : x[pre.length + 1]? = some e := by rw [hx];simp
       have := hP (pre ++ [92,e]) (by rw [hx];exact aJ (append_assoc ..) rfl);rw [(by simp : (((pre ++ [92,e]).length : Nat) : Int) = (pre.length : Int) + 2)] at this;refine ⟨rfl,_,rfl,_,rfl,_,bM hg,true,gZ (x := [92]) (y := [92]) rfl,?_⟩;refine ⟨_,rfl,_,rfl,_,bM (k := pre.length + 1) hg1,?_⟩;exact ⟨_,rfl,(show 2 <= 1000 by decide),this⟩
   · simp [one,hd] at h;obtain ⟨rfl,rfl⟩ := h;have := hP (pre ++ [d]) (by rw [hx];exact aJ (append_assoc ..) rfl);rw [(by simp : (((pre ++ [d]).length : Nat) : Int) = (pre.length : Int) + 1)] at this;refine ⟨rfl,_,rfl,_,rfl,_,bM hg,false,gZ (x := [d]) (y := [92]) (by rw [iV];exact if_neg ‹_›),?_⟩;refine ⟨_,rfl,_,rfl,_,bM hg,_,rfl,?_⟩;exact ⟨(show 2 <= 1000 by decide),this⟩
noncomputable abbrev w4 (p : Nat × Nat) : MV := .tup [.str (S [p.1]),.str (S [p.2])]
noncomputable def eC : Nat -> List Nat -> List (Nat × Nat) -> Option (List (Nat × Nat) × List Nat)
 | 0,_,_ => none
 | f + 1,l,acc => if acc ≠ [] /\ l.head? = some 93 then some (acc,l.drop 1) else
   match one l with
   | none => none
   | some (lo,l1) => if l1 = [] then none else if l1.head? = some 45 then (match one (l1.drop 1) with | none => none | some (hi,l2) => if l2 = [] then none else eC f l2 (acc ++ [(lo,hi)])) else eC f l1 (acc ++ [(lo,lo)])
theorem jE : ∀ f l acc,eC (f + 1) l acc = (if acc ≠ [] /\ l.head? = some 93 then some (acc,l.drop 1) else match one l with
   | none => none
   | some (lo,l1) => if l1 = [] then none else if l1.head? = some 45 then (match one (l1.drop 1) with | none => none | some (hi,l2) => if l2 = [] then none else eC f l2 (acc ++ [(lo,hi)])) else eC f l1 (acc ++ [(lo,lo)])) := fun _ _ _ => rfl
noncomputable abbrev Qj : WT := rM (aN dH (aE 3) (bW aL)) (aN lM (a7 (aE 0) (aE 1)) (wK (.str "]")))
noncomputable abbrev Oz : WS := (aI (mS [4,1] (aV dU (aH (aE 0) (aH (aE 1) aL))))
 (aI (aW 5 (aE 4))
 (aI (bB (aN dH (a7 (aE 0) (aE 1)) (wK (.str "-"))) (aI (mS [5,1] (aV dU (aH (aE 0) (aH (aX bD (aE 1) (wK (.int 1))) aL))))
 aK) aK)
 (aI (a6 (bG "list" bA (aE 3) (aH (d3 (aH (aE 4) (aH (aE 5) aL))) aL)))
 aK))))
theorem Gr {x : List Nat} {q : Nat} {P : d5} {prs : List (Nat × Nat)} {r : List Nat} : ∀ (f : Nat) (l pre : List Nat) (acc : List (Nat × Nat)) (ρ : bI) (H : List MO),x = pre ++ l -> l ≠ [] -> acc.length + f <= 700 -> eC f l acc = some (prs,r) -> ρ 0 = some (.str (S x)) -> ρ 1 = some (.int (pre.length : Int)) -> ρ 3 = some (.ref q) -> H[q]? = some (.list (acc.map w4)) -> (∀ (ρ' : bI) (H' : List MO) (pre' : List Nat),x = pre' ++ 93 :: r -> ρ' 0 = ρ 0 -> ρ' 1 = some (.int (pre'.length : Int)) -> ρ' 2 = ρ 2 -> ρ' 3 = some (.ref q) -> H'[q]? = some (.list (prs.map w4)) -> bT [q] H H' -> P .next ρ' H') -> eF Qj Oz P f ρ H := by
 intro f;induction f with
 | zero => intro l pre acc ρ H hx hn hl h;exact nS h
 | succ f ih =>
   intro l pre acc ρ H hx hn hl h h0 h1 h3 hq hP;obtain ⟨c,l',rfl⟩ : ∃ c l',l = c :: l' := exists_cons_of_ne_nil hn;have hg : x[pre.length]? = some c := by refine aJ hx ?_;exact aM
   have hq1 : (H ++ [MO.list []])[q]? = some (.list (acc.map w4)) := aR hq _;have hemp : dH (.ref q) (.ref H.length) (H ++ [MO.list []]) = some (acc.map w4).isEmpty := nJ hq1 (bE _ _ []);rw [jE] at h;by_cases hend : acc ≠ [] /\ (c :: l').head? = some 93
   · replace h := (if_pos hend) ▸ h
     refine bP fun no => ?_;cases h;have hc : c = 93 := by simpa using hend.2
     subst hc;refine no ?_;refine ⟨_,h3,by decide,false,hemp.trans (by simpa using hend.1),?_⟩;refine ⟨_,h0,_,h1,_,bM hg,false,Kk (x := [93]) (y := [93]) rfl,?_⟩;exact hP ρ _ pre (by refine aJ hx ?_;rfl) rfl h1 rfl h3 hq1 (bT.app _ _)
   · replace h := (if_neg hend) ▸ h
     split at h
     · exact nS h
     rename_i lo l1 hone;split at h
     · exact nS h
     rename_i hl1;have turn : ∀ H₁ : List MO,H₁[q]? = some (.list (acc.map w4)) -> bT [q] H H₁ -> Oz ρ H₁ (pJ (eF Qj Oz P f) P) := fun H₁ tH hX => by
       refine ⟨_,h0,_,h1,qQ hx hone fun pre1 hx1 => ?_⟩;refine ⟨_,rfl,rfl,?_⟩;refine ⟨_,rfl,?_⟩;obtain ⟨d,l1',rfl⟩ : ∃ d l1',l1 = d :: l1' := exists_cons_of_ne_nil hl1;have hg1 : x[pre1.length]? = some d := by refine aJ hx1 ?_;exact aM
       by_cases hd : d = 45
       · subst hd
         replace h := (if_pos (show (45 :: l1').head? = some 45 from rfl)) ▸ h
         split at h
         · exact nS h
         rename_i hi l2 hone2;split at h
         · exact nS h
         rename_i hl2;refine ⟨_,h0,_,rfl,_,bM hg1,true,gZ (x := [45]) (y := [45]) rfl,?_⟩;have hx2 : x = (pre1 ++ [45]) ++ l1' := by refine aJ hx1 ?_;exact aJ (append_assoc ..) rfl
         refine ⟨_,h0,_,rfl,?_⟩;show dU [.str (S x),.int ((pre1.length : Int) + 1)] _ _;refine aJ (by simp : ((pre1.length : Int) + 1) = (((pre1 ++ [45]).length : Nat) : Int)) ?_;refine qQ hx2 (by exact hone2) fun pre2 hx3 => ?_;refine ⟨_,rfl,rfl,?_⟩;refine ⟨_,h3,.list tH,_,rfl,_,rfl,(show 2 <= 1000 by decide),_,tH,by exact Ht (lt_of_le_of_lt (le_trans (le_add_right _ _) ‹_›) (by decide)),?_⟩;refine aJ (by simp : acc.map w4 ++ [MV.tup [.str (S [lo]),.str (S [hi])]] = (acc ++ [(lo,hi)]).map w4) ?_;refine ih l2 pre2 (acc ++ [(lo,hi)]) _ _ hx3 hl2 (lS ‹_›) h h0 rfl h3 (b9 tH _) fun ρ' H' pre' z z0 z1 z2 z3 zq zX => hP ρ' H' pre' z z0 z1 z2 z3 zq ((hX.trans (bT.set mem_cons_self)).trans zX)
       · rw [if_neg (by simpa using hd)] at h;refine ⟨_,h0,_,rfl,_,bM hg1,false,gZ (x := [d]) (y := [45]) (by refine aJ iV ?_;exact if_neg ‹_›),?_⟩;refine ⟨_,h3,.list tH,_,rfl,_,rfl,(show 2 <= 1000 by decide),_,tH,by exact Ht (lt_of_le_of_lt (le_trans (le_add_right _ _) ‹_›) (by decide)),?_⟩;refine aJ (by simp : acc.map w4 ++ [MV.tup [.str (S [lo]),.str (S [lo])]] = (acc ++ [(lo,lo)]).map w4) ?_;refine ih (d :: l1') pre1 (acc ++ [(lo,lo)]) _ _ hx1 ‹_› (lS ‹_›) h h0 rfl h3 (b9 tH _) fun ρ' H' pre' z z0 z1 z2 z3 zq zX => hP ρ' H' pre' z z0 z1 z2 z3 zq ((hX.trans (bT.set mem_cons_self)).trans zX)
     by_cases hacc : acc = []
     · refine ⟨_,h3,by decide,true,hemp.trans (by refine aJ hacc ?_;rfl),?_⟩;exact turn _ hq1 (bT.app _ _)
     · have hc : c ≠ 93 := fun e => hend ⟨hacc,by refine aJ e ?_;rfl⟩;refine ⟨_,h3,by decide,false,hemp.trans (by simpa using hacc),?_⟩;refine ⟨_,h0,_,h1,_,bM hg,true,Kk (x := [c]) (y := [93]) (by refine aJ iV ?_;exact if_neg ‹_›),?_⟩;exact turn _ hq1 (bT.app _ _)
noncomputable def sC (l : List Nat) : Option ((Bool × List (Nat × Nat)) × List Nat) :=
 if l.head? = some 94 then (eC 20 (l.drop 1) []).map fun p => ((true,p.1),p.2) else (eC 20 l []).map fun p => ((false,p.1),p.2)
theorem Gs {x pre l r : List Nat} {b : Bool} {prs : List (Nat × Nat)} {H : List MO} {P : cM} (hx : x = pre ++ l) (hn : l.drop 1 ≠ []) (h : sC l = some ((b,prs),r)) (hP : ∀ (pre' : List Nat) (q : Nat) (H' : List MO),x = pre' ++ r -> bT [] H H' -> H.length <= q -> H'[q]? = some (.list (prs.map w4)) -> P (.tup [.tup [.bool b,.ref q],.int (pre'.length : Int)]) H') : gG [.str (S x),.int (pre.length : Int)] H P := by
 obtain ⟨c,l',rfl⟩ : ∃ c l',l = c :: l' := exists_cons_of_ne_nil (by intro e;subst e;contradiction);have hg : x[pre.length]? = some c := by refine aJ hx ?_;exact aM
 have fin : ∀ (b' : Bool) (l1 pre1 : List Nat) (ρ : bI),x = pre1 ++ l1 -> l1 ≠ [] -> eC 20 l1 [] = some (prs,r) -> b' = b -> ρ 0 = some (.str (S x)) -> ρ 1 = some (.int (pre1.length : Int)) -> ρ 2 = some (.bool b') ->
     aI (aW 3 (bW aL)) (aI (cP Qj Oz) (aI (dG (d3 (aH (d3 (aH (aE 2) (aH (aE 3) aL))) (aH (aX bD (aE 1) (wK (.int 1))) aL)))) aK)) ρ H (fun fl _ H' => match fl with | .ret v => P v H' | _ => P .none H') := fun b' l1 pre1 ρ hx1 hn1 hl hb h0 h1 h2 => by
   subst hb;refine ⟨(show 0 <= 1000 by decide),?_⟩;refine ⟨20,Gr (q := H.length) 20 l1 pre1 [] _ _ hx1 hn1 (by decide) hl h0 h1 rfl (bE _ _ []) fun ρ' H' pre' z z0 z1 z2 z3 zq zX => ?_⟩;refine ⟨_,z2.trans h2,_,z3,(show 2 <= 1000 by decide),_,z1,(show 2 <= 1000 by decide),?_⟩
   skip
   refine aJ (by simp : ((pre'.length : Int) + 1) = (((pre' ++ [93]).length : Nat) : Int)) ?_;exact hP (pre' ++ [93]) H.length H' (by refine aJ z ?_;exact aJ (append_assoc ..) rfl) (fun i o _ e => zX i o (by have := (List.getElem?_eq_some_iff.mp e).1;exact xL ‹_›) (aR e _)) (le_refl _) zq
 unfold sC at h;by_cases hc : c = 94
 · subst hc
   replace h := (if_pos (show (94 :: l').head? = some 94 from rfl)) ▸ h
   refine bP fun no => ?_;obtain ⟨p,hp,he⟩ := Option.map_eq_some_iff.mp h;cases he;refine no ?_;refine ⟨rfl,_,rfl,_,rfl,_,bM hg,true,gZ (x := [94]) (y := [94]) rfl,?_⟩;refine ⟨_,rfl,true,rfl,?_⟩;refine ⟨_,rfl,?_⟩;refine fin true l' (pre ++ [94]) _ (by refine aJ hx ?_;exact aJ (append_assoc ..) rfl) hn hp rfl rfl (by simp [upd]) rfl
 · rw [if_neg (by simpa using hc)] at h;refine bP fun no => ?_;obtain ⟨p,hp,he⟩ := Option.map_eq_some_iff.mp h;cases he;refine no ?_;refine ⟨rfl,_,rfl,_,rfl,_,bM hg,false,gZ (x := [c]) (y := [94]) (by refine aJ iV ?_;exact if_neg ‹_›),?_⟩;refine ⟨_,rfl,false,rfl,?_⟩;exact fin false (c :: l') pre _ hx (cons_ne_nil _ _) hp rfl rfl rfl rfl
noncomputable abbrev Sp : WT := (aN fW (aE 2) (aX fN (aV cZ (aH (aE 0) aL)) (wK (.int 3))))
noncomputable abbrev Nv : WS := (aI (bB (aN dH (fZ (aE 0) (d8 (aE 2)) (d8 (aX bD (aE 2) (wK (.int 6))))) (wK (.str "(?>.*?"))) (aI (a6 (bG "list" bA (aE 1) (aH (d3 (aH (wK (.str "held")) (aH (bW aL) aL))) aL)))
 (aI (e7 2 dD (wK (.int 6)))
 aK)) (aI (bB (aN dH (fZ (aE 0) (d8 (aE 2)) (d8 (aX bD (aE 2) (wK (.int 2))))) (wK (.str ".*"))) (aI (a6 (bG "list" bA (aE 1) (aH (d3 (aH (wK (.str "tail")) (aH (bW aL) aL))) aL)))
 (aI (e7 2 dD (wK (.int 2)))
 aK)) (aI (bB (aN dH (a7 (aE 0) (aE 2)) (wK (.str ")"))) (aI (a6 (bG "list" bA (aE 1) (aH (d3 (aH (wK (.str "")) (aH (bW aL) aL))) aL)))
 (aI (e7 2 dD (wK (.int 1)))
 aK)) (aI (bB (aN dH (a7 (aE 0) (aE 2)) (wK (.str "."))) (aI (a6 (bG "list" bA (a7 (a7 (aE 1) (dO (wK (.int 1)))) (wK (.int 1))) (aH (d3 (aH (wK (.bool true)) (aH (bW aL) aL))) aL)))
 (aI (e7 2 dD (wK (.int 1)))
 aK)) (aI (bB (aN dH (a7 (aE 0) (aE 2)) (wK (.str "["))) (aI (mS [3,2] (aV gG (aH (aE 0) (aH (aX bD (aE 2) (wK (.int 1))) aL))))
 (aI (a6 (bG "list" bA (a7 (a7 (aE 1) (dO (wK (.int 1)))) (wK (.int 1))) (aH (aE 3) aL)))
 aK)) (aI (bB (aN B6 (a7 (aE 0) (aE 2)) (wK (.str "^$*+?{}|("))) (aI (a6 (bG "list" bA (a7 (a7 (aE 1) (dO (wK (.int 1)))) (wK (.int 1))) (aH (d3 (aH (wK (.bool false)) (aH (bW aL) aL))) aL)))
 (aI (e7 2 dD (wK (.int 1)))
 aK)) (aI (mS [4,2] (aV dU (aH (aE 0) (aH (aE 2) aL))))
 (aI (a6 (bG "list" bA (a7 (a7 (aE 1) (dO (wK (.int 1)))) (wK (.int 1))) (aH (d3 (aH (wK (.bool false)) (aH (bW (aH (d3 (aH (aE 4) (aH (aE 4) aL))) aL)) aL))) aL)))
 aK)))
 aK))
 aK))
 aK))
 aK))
 aK))
 aK)
noncomputable abbrev dR := Bool × List (Nat × Nat)
noncomputable def jF {α β : Type} (p : α -> β -> Prop) : List α -> List β -> Prop
 | [],[] => True
 | a :: as,b :: bs => p a b /\ jF p as bs
 | _,_ => False
theorem jF.app {α β : Type} {p : α -> β -> Prop} : ∀ {as : List α} {bs : List β} {as' : List α} {bs' : List β},jF p as bs -> jF p as' bs' -> jF p (as ++ as') (bs ++ bs')
 | [],[],_,_,_,h => h
 | _ :: _,_ :: _,_,_,h,h' => ⟨h.1,h.2.app h'⟩
theorem jF.imp {α β : Type} {p q : α -> β -> Prop} (i : ∀ a b,p a b -> q a b) : ∀ {as : List α} {bs : List β},jF p as bs -> jF q as bs
 | [],[],_ => trivial
 | _ :: _,_ :: _,h => ⟨i _ _ h.1,h.2.imp i⟩
theorem jF.len {α β : Type} {p : α -> β -> Prop} : ∀ {as : List α} {bs : List β},jF p as bs -> as.length = bs.length
 | [],[],_ => rfl
 | _ :: _,_ :: _,h => congrArg (· + 1) h.2.len
noncomputable def d7 (av : List Nat) (H : List MO) (v : MV) (it : dR) : Prop := ∃ q,q ∉ av /\ v = .tup [.bool it.1,.ref q] /\ H[q]? = some (.list (it.2.map w4))
noncomputable def j2 (av : List Nat) (H : List MO) (v : MV) (r : List Nat × List dR) : Prop := ∃ l vs,l ∉ av /\ v = .tup [.str (S r.1),.ref l] /\ H[l]? = some (.list vs) /\ jF (d7 av H) vs r.2
theorem d7.ex {av : List Nat} {H H' : List MO} (hx : bT av H H') {v : MV} {it : dR} (h : d7 av H v it) : d7 av H' v it :=
 (by obtain ⟨q,a,b,c⟩ := h;exact ⟨q,a,b,hx q _ a c⟩)
theorem j2.ex {av : List Nat} {H H' : List MO} (hx : bT av H H') {v : MV} {r : List Nat × List dR} (h : j2 av H v r) : j2 av H' v r :=
 (by obtain ⟨l,vs,a,b,c,d⟩ := h;exact ⟨l,vs,a,b,hx l _ a c,d.imp fun _ _ => d7.ex hx⟩)
theorem d7.av {av av' : List Nat} {H : List MO} (hx : ∀ q,q < H.length -> q ∉ av -> q ∉ av') {v : MV} {it : dR} (h : d7 av H v it) : d7 av' H v it :=
 (by obtain ⟨q,a,b,c⟩ := h;exact ⟨q,hx q (List.getElem?_eq_some_iff.mp c).1 a,b,c⟩)
theorem j2.av {av av' : List Nat} {H : List MO} (hx : ∀ q,q < H.length -> q ∉ av -> q ∉ av') {v : MV} {r : List Nat × List dR} (h : j2 av H v r) : j2 av' H v r :=
 (by obtain ⟨l,vs,a,b,c,d⟩ := h;exact ⟨l,vs,hx l (List.getElem?_eq_some_iff.mp c).1 a,b,c,d.imp fun _ _ => d7.av hx⟩)
structure RS (x : List Nat) (R lc : Nat) (done : List (List Nat × List dR)) (kind : List Nat) (items : List dR) (pre : List Nat) (ρ : bI) (H : List MO) : Prop where
 r0 : ρ 0 = some (.str (S x))
 r1 : ρ 1 = some (.ref R)
 r2 : ρ 2 = some (.int (pre.length : Int))
 ne : R ≠ lc
 sm : done.length <= 300 /\ items.length <= 300
 st : ∃ rows vs,H[R]? = some (.list (rows ++ [.tup [.str (S kind),.ref lc]])) /\ jF (j2 [R,lc] H) rows done /\ H[lc]? = some (.list vs) /\ jF (d7 [R,lc] H) vs items
theorem w5 {x pre l : List Nat} (hx : x = pre ++ l) (n : Nat) : (⟨(jP (S x).cps.toList (some (pre.length : Int)) (some ((pre.length : Int) + (n : Int)))).toArray⟩ : Str) = S (l.take n) := by
 have : (jP (S x).cps.toList (some (pre.length : Int)) (some ((pre.length : Int) + (n : Int)))) = l.take n := by
   refine aJ (dQ ..) ?_;rw [(by rfl : (pre.length : Int) + (n : Int) = ((pre.length + n : Nat) : Int)),yZ,hx,take_append,take_of_length_le (le_add_right _ _),show pre.length + n - pre.length = n by (exact add_sub_cancel_left ..;done)];exact drop_append_length
 rw [this]
section
variable {x : List Nat} {R lc : Nat} {done : List (List Nat × List dR)} {kind : List Nat} {items : List dR} {pre : List Nat} {ρ : bI} {H : List MO} {Q : d5}
theorem RS.push (rs : RS x R lc done kind items pre ρ H) {pre' : List Nat} {ρ' : bI} {H₁ : List MO} {it : dR} {v : MV} (h0 : ρ' 0 = ρ 0) (h1 : ρ' 1 = ρ 1) (h2 : ρ' 2 = some (.int (pre'.length : Int))) (hX : bT [] H H₁) (hv : d7 [R,lc] H₁ v it) (hi : items.length < 300) : ∃ vs,H₁[lc]? = some (.list vs) /\ vs.length < 1000000 /\ RS x R lc done kind (items ++ [it]) pre' ρ' (H₁.set lc (.list (vs ++ [v]))) := by
 refine bP fun no => ?_;obtain ⟨rows,vs,a,b,c,d⟩ := rs.st;refine no ?_;have c1 := hX lc _ not_mem_nil c;have hXb : bT [R,lc] H (H₁.set lc (.list (vs ++ [v]))) := (fun i o hi e => bZ (hX i o not_mem_nil e) (fun q => hi (by simp [q])));refine ⟨vs,c1,by have := d.len;lia,⟨h0.trans rs.r0,h1.trans rs.r1,h2,rs.ne,⟨rs.sm.1,by exact aJ lA (le_trans (succ_le_of_lt ‹_›) (by decide))⟩,rows,vs ++ [v],bZ (hX R _ not_mem_nil a) (Ne.symm rs.ne),b.imp fun _ _ => j2.ex hXb,b9 c1 _,(d.imp fun _ _ => d7.ex hXb).app ⟨hv.ex (bT.set (mem_cons_of_mem _ mem_cons_self) : bT [R,lc] H₁ (H₁.set lc (.list (vs ++ [v])))),trivial⟩⟩⟩
theorem RS.rowget (rs : RS x R lc done kind items pre ρ H) {H₁ : List MO} (hX : bT [] H H₁) : gA (.ref R) (.int (-1)) H₁ = some (.tup [.str (S kind),.ref lc]) := by
 obtain ⟨rows,vs,a,b,c,d⟩ := rs.st;exact gR (hX R _ not_mem_nil a)
theorem RS.row (rs : RS x R lc done kind items pre ρ H) {pre' kind' : List Nat} {ρ' : bI} (h0 : ρ' 0 = ρ 0) (h1 : ρ' 1 = ρ 1) (h2 : ρ' 2 = some (.int (pre'.length : Int))) (hd : done.length < 300) : ∃ xs,(H ++ [MO.list []])[R]? = some (.list xs) /\ xs.length < 1000000 /\ RS x R H.length (done ++ [(kind,items)]) kind' [] pre' ρ' ((H ++ [MO.list []]).set R (.list (xs ++ [.tup [.str (S kind'),.ref H.length]]))) := by
 refine bP fun no => ?_;obtain ⟨rows,vs,a,b,c,d⟩ := rs.st;refine no ?_;have hR : R < H.length := (List.getElem?_eq_some_iff.mp a).1;have hlc : lc < H.length := (List.getElem?_eq_some_iff.mp c).1;have av : ∀ q,q < H.length -> q ∉ [R,lc] -> q ∉ [R,H.length] := fun q h1 h2 => by
   simp only [mem_cons,not_mem_nil,or_false,not_or] at h2 ⊢;exact ⟨h2.1,by exact ne_of_lt ‹_›⟩
 refine ⟨_,aR a _,by have := b.len;simp;have := rs.sm.1;lia,?_⟩;have hXb : bT [R,H.length] H ((H ++ [MO.list []]).set R (.list ((rows ++ [.tup [.str (S kind),.ref lc]]) ++ [.tup [.str (S kind'),.ref H.length]]))) := fun i o hi e => bZ (aR e _) (fun q => hi (by simp [q]));refine ⟨h0.trans rs.r0,h1.trans rs.r1,h2,by exact ne_of_lt ‹_›,⟨by exact aJ lA (le_trans (succ_le_of_lt ‹_›) (by decide)),by exact zero_le _⟩,rows ++ [.tup [.str (S kind),.ref lc]],[],b9 (aR a _) _,?_,bZ (bE _ _ []) (ne_of_lt ‹_›),trivial⟩;refine jF.app (b.imp fun _ _ h => (h.av av).ex hXb) ⟨⟨lc,vs,?_,rfl,?_,d.imp fun _ _ h => (h.av av).ex hXb⟩,trivial⟩
 · simp only [mem_cons,not_mem_nil,or_false,not_or];exact ⟨Ne.symm rs.ne,by exact ne_of_lt ‹_›⟩
 · exact hXb lc _ (by simp only [mem_cons,not_mem_nil,or_false,not_or];exact ⟨Ne.symm rs.ne,by exact ne_of_lt ‹_›⟩) c
end
theorem qR {x pre l : List Nat} (hx : x = pre ++ l) : (⟨(jP (S x).cps.toList (some (pre.length : Int)) (some ((pre.length : Int) + 6))).toArray⟩ : Str) = S (l.take 6) := w5 hx 6
theorem uW {x pre l : List Nat} (hx : x = pre ++ l) : (⟨(jP (S x).cps.toList (some (pre.length : Int)) (some ((pre.length : Int) + 2))).toArray⟩ : Str) = S (l.take 2) := w5 hx 2
theorem qS {h n c : Nat} {l w : List Nat} (hne : h ≠ c) : ((h :: l).take (n + 1) == c :: w) = false := by
 rw [beq_eq_false_iff_ne];intro e;rw [take_succ_cons] at e;exact hne (List.cons.inj e).1
theorem uX {l s r : List Nat} {c : Nat} (h : one l = some (c,r)) : one (l ++ s) = some (c,r ++ s) := by
 cases l with
 | nil => exact nS h
 | cons d l =>
   by_cases hd : d = 92
   · subst hd;cases l with
     | nil => exact nS h
     | cons e l => simp [one] at h ⊢;simp [h]
   · simp [one,hd] at h ⊢;simp [h]
theorem mH {s r : List Nat} {p : List (Nat × Nat)} : ∀ (f : Nat) (l : List Nat) (acc : List (Nat × Nat)),eC f l acc = some (p,r) -> eC f (l ++ s) acc = some (p,r ++ s) := by
 intro f;induction f with
 | zero =>
   intro l acc h;exact nS h
 | succ f ih =>
   intro cs0;cases cs0 with
   | nil =>
     intro acc h;rw [jE,if_neg (by simp)] at h;exact nS h
   | cons c l =>
     intro acc h;rw [jE] at h ⊢;have hh : ((c :: l) ++ s).head? = (c :: l).head? := rfl;refine aJ hh ?_;by_cases hend : acc ≠ [] /\ (c :: l).head? = some 93
     · rw [if_pos hend] at h ⊢;cases h;rfl
     · rw [if_neg hend] at h ⊢;split at h
       · exact nS h
       rename_i lo l1 hone;refine aJ (uX hone) ?_;split at h
       · exact nS h
       rename_i hl1;obtain ⟨d,l1',rfl⟩ : ∃ d l1',l1 = d :: l1' := exists_cons_of_ne_nil hl1;dsimp only [(rfl : ((d :: l1') ++ s).head? = (d :: l1').head?),(rfl : ((d :: l1') ++ s).drop 1 = (d :: l1').drop 1 ++ s)];refine aJ (if_neg (cons_ne_nil _ _)) ?_;split at h
       · rename_i h45;refine aJ (if_pos h45) ?_;split at h
         · exact nS h
         rename_i hi l2 hone2;refine aJ (uX hone2) ?_;split at h
         · exact nS h
         rename_i hl2;dsimp only;refine aJ (if_neg (by simp [hl2])) ?_;exact ih _ _ h
       · rename_i h45;refine aJ (if_neg h45) ?_;exact ih _ _ h
theorem Gu {l s r : List Nat} {it : Bool × List (Nat × Nat)} (h : sC l = some (it,r)) : sC (l ++ s) = some (it,r ++ s) := by
 cases l with
 | nil => unfold sC at h;rw [if_neg (by decide)] at h;obtain ⟨p,hp,_⟩ := Option.map_eq_some_iff.mp h;rw [jE,if_neg (by decide)] at hp;exact nS hp
 | cons c l =>
   unfold sC at h ⊢;refine aJ (rfl : ((c :: l) ++ s).head? = (c :: l).head?) ?_;split at h
   · rename_i hc;refine aJ (if_pos hc) ?_;obtain ⟨p,hp,he⟩ := Option.map_eq_some_iff.mp h;cases he;refine aJ (rfl : ((c :: l) ++ s).drop 1 = (c :: l).drop 1 ++ s) (aJ (mH 20 _ _ hp) ?_);rfl
   · rename_i hc;refine aJ (if_neg hc) ?_;obtain ⟨p,hp,he⟩ := Option.map_eq_some_iff.mp h;cases he;refine aJ (mH 20 _ _ hp) ?_;rfl
noncomputable def lG (q : List Nat) : Option dR := match q with
 | [] => none
 | c :: l => if c = 91 then (match sC l with | some (it,[]) => if l.drop 1 = [] then none else some it | _ => none)
   else if c ∈ [40,46,41,94,36,42,43,63,123,125,124] then none
   else match one (c :: l) with | some (d,[]) => some (false,[(d,d)]) | _ => none
inductive gH where
 | it (q : List Nat) (i : dR)
 | held
 | close
 | tail
noncomputable def gH.txt : gH -> List Nat
 | .it q _ => q
 | .held => [40,63,62,46,42,63]
 | .close => [41]
 | .tail => [46,42]
noncomputable def gH.Ok : gH -> Prop
 | .it q i => lG q = some i
 | _ => True
noncomputable abbrev Rk := List (List Nat × List dR) × List Nat × List dR
noncomputable def gH.put : Rk -> gH -> Rk
 | (d,k,is),.it _ i => (d,k,is ++ [i])
 | (d,k,is),.held => (d ++ [(k,is)],[104,101,108,100],[])
 | (d,k,is),.close => (d ++ [(k,is)],[],[])
 | (d,k,is),.tail => (d ++ [(k,is)],[116,97,105,108],[])
theorem Gv {x pre q rest pre' : List Nat} (hx : x = pre ++ (q ++ rest)) (h' : x = pre' ++ rest) : pre' = pre ++ q := by
 have : pre' ++ rest = pre ++ q ++ rest := by refine cE h' (aJ hx ?_);exact aJ (append_assoc ..) rfl
 exact List.append_cancel_right this
section
variable {x : List Nat} {R lc : Nat} {done : List (List Nat × List dR)} {kind : List Nat} {items : List dR} {pre rest : List Nat} {ρ : bI} {H : List MO} {Q : d5}
theorem Sq {l : List Nat} {i : dR} {C : Prop} (h : lG (91 :: l) = some i) (k : ∀ it,sC l = some (it,[]) -> (if l.drop 1 = [] then none else some it) = some i -> C) : C := by
 have h' : (match sC l with | some (it,[]) => if l.drop 1 = [] then none else some it | _ => none) = some i := h;generalize sC l = o at h' k;cases o with
 | none => exact nS h'
 | some p => cases p with | mk a b => cases b with
   | nil => exact k a rfl h'
   | cons _ _ => exact nS h'
theorem Sr {c : Nat} {l : List Nat} {i : dR} (hc : c ≠ 91) (h : lG (c :: l) = some i) : (if c ∈ [40,46,41,94,36,42,43,63,123,125,124] then none else (match one (c :: l) with | some (d,[]) => some (false,[(d,d)]) | _ => none)) = some i := (if_neg hc).symm.trans h
theorem Su {o : Option (Nat × List Nat)} {i : dR} {C : Prop} (h : (match o with | some (d,[]) => some (false,[(d,d)]) | _ => none) = some i) (k : ∀ d,o = some (d,[]) -> (false,[(d,d)]) = i -> C) : C := by
 cases o with
 | none => exact nS h
 | some p => cases p with | mk a b => cases b with
   | nil => exact k a rfl (si h)
   | cons _ _ => exact nS h
theorem Dt {q : List Nat} {i : dR} (hp : lG q = some i) (hx : x = pre ++ (q ++ rest)) (rs : RS x R lc done kind items pre ρ H) (hi : items.length < 300) (hQ : ∀ ρ' H',RS x R lc done kind (items ++ [i]) (pre ++ q) ρ' H' -> bT [R,lc] H H' -> Q .next ρ' H') : Nv ρ H Q := by
 obtain ⟨rows,vs,ea,eb,ec,ed⟩ := rs.st;have hRl : R < H.length := (List.getElem?_eq_some_iff.mp ea).1;have hcl : lc < H.length := (List.getElem?_eq_some_iff.mp ec).1;cases q with
 | nil => exact nS hp
 | cons c l =>
   have hx0 : x = pre ++ (c :: (l ++ rest)) := hx;have hg : x[pre.length]? = some c := by rw [hx0];exact aM
   by_cases hc : c = 91
   · subst hc;refine Sq hp fun it hset hp => ?_;by_cases hn : l.drop 1 = []
     · rw [if_pos hn] at hp;exact nS hp
     · rw [if_neg hn] at hp;cases hp;refine ⟨_,rs.r0,_,rs.r2,_,rfl,_,rs.r2,_,rfl,rfl,?_⟩;rw [qR hx0];refine ⟨false,gZ (y := [40,63,62,46,42,63]) (qS (by decide)),?_⟩;refine ⟨_,rs.r0,_,rs.r2,_,rfl,_,rs.r2,_,rfl,rfl,?_⟩;rw [uW hx0];refine ⟨false,gZ (y := [46,42]) (qS (by decide)),?_⟩;refine ⟨_,rs.r0,_,rs.r2,_,bM hg,false,gZ (x := [91]) (y := [41]) rfl,?_⟩;refine ⟨_,rs.r0,_,rs.r2,_,bM hg,false,gZ (x := [91]) (y := [46]) rfl,?_⟩;refine ⟨_,rs.r0,_,rs.r2,_,bM hg,true,gZ (x := [91]) (y := [91]) rfl,?_⟩;have hx1 : x = (pre ++ [91]) ++ (l ++ rest) := by rw [hx0];exact aJ (append_assoc ..) rfl
       have e1 : ((pre.length : Int) + 1) = (((pre ++ [91]).length : Nat) : Int) := by simp
       refine ⟨_,rs.r0,_,rs.r2,?_⟩;show gG [.str (S x),.int ((pre.length : Int) + 1)] _ _;rw [e1];have hl1 : 1 < l.length := by
         have := length_pos_iff.mpr hn;simp at this;lia
       refine Gs (b := i.1) (prs := i.2) hx1 (by intro e;have := congrArg List.length e;simp at this;lia) (Gu hset) fun pre' a H₁ hx2 hX ha hl => ?_;refine ⟨_,rfl,rfl,?_⟩;have hpre : pre' = pre ++ 91 :: l := Gv hx hx2;subst hpre;obtain ⟨vs',c1,cl,rs'⟩ := rs.push (pre' := pre ++ 91 :: l) (ρ' := eI ρ [3,2] [.tup [.bool i.1,.ref a],.int ((pre ++ 91 :: l).length : Int)]) (H₁ := H₁) (it := i) (v := .tup [.bool i.1,.ref a]) rfl rfl rfl hX ⟨a,by simp only [mem_cons,not_mem_nil,or_false,not_or];lia,rfl,hl⟩ hi;refine ⟨_,rs'.r1,⟨_,rfl,⟨_,rs.rowget hX,⟨_,fK (k := 1) rfl,.list c1,?_⟩⟩⟩⟩;refine ⟨_,rfl,vs',c1,cl,?_⟩;exact hQ _ _ rs' (fun j o hj e => bZ (hX j o not_mem_nil e) (fun q => hj (by simp [q])))
   · replace hp := Sr hc hp
     by_cases hbare : c ∈ [40,46,41,94,36,42,43,63,123,125,124]
     · rw [if_pos hbare] at hp;exact nS hp
     rw [if_neg hbare] at hp;simp only [mem_cons,not_mem_nil,or_false,not_or] at hbare;refine Su hp fun d hone hp => ?_
     · subst hp;refine ⟨_,rs.r0,_,rs.r2,_,rfl,_,rs.r2,_,rfl,rfl,?_⟩;rw [qR hx0];refine ⟨false,gZ (y := [40,63,62,46,42,63]) (qS (by simp [hbare])),?_⟩;refine ⟨_,rs.r0,_,rs.r2,_,rfl,_,rs.r2,_,rfl,rfl,?_⟩;rw [uW hx0];refine ⟨false,gZ (y := [46,42]) (qS (by simp [hbare])),?_⟩;refine ⟨_,rs.r0,_,rs.r2,_,bM hg,false,gZ (x := [c]) (y := [41]) (by rw [iV];simp [hbare]),?_⟩;refine ⟨_,rs.r0,_,rs.r2,_,bM hg,false,gZ (x := [c]) (y := [46]) (by rw [iV];simp [hbare]),?_⟩;refine ⟨_,rs.r0,_,rs.r2,_,bM hg,false,gZ (x := [c]) (y := [91]) (by rw [iV];exact if_neg ‹_›),?_⟩;refine ⟨_,rs.r0,_,rs.r2,_,bM hg,false,Gj (x := [94,36,42,43,63,123,125,124,40]) (by simp [hbare]),?_⟩;refine ⟨_,rs.r0,_,rs.r2,qQ hx (uX hone) fun pre' hx2 => ?_⟩;have hpre : pre' = pre ++ c :: l := Gv hx hx2;subst hpre;refine ⟨_,rfl,rfl,?_⟩;obtain ⟨vs',c1,cl,rs'⟩ := rs.push (pre' := pre ++ c :: l) (ρ' := eI ρ [4,2] [.str (S [d]),.int ((pre ++ c :: l).length : Int)]) (H₁ := H ++ [MO.list [w4 (d,d)]]) (it := (false,[(d,d)])) (v := .tup [.bool false,.ref H.length]) rfl rfl rfl (bT.app _ _) ⟨H.length,by simp only [mem_cons,not_mem_nil,or_false,not_or];exact ⟨ne_of_gt ‹_›,ne_of_gt ‹_›⟩,rfl,bE _ _ []⟩ hi;refine ⟨_,rs'.r1,⟨_,rfl,⟨_,rs.rowget .refl,⟨_,fK (k := 1) rfl,.list ec,?_⟩⟩⟩⟩;refine ⟨_,rfl,_,rfl,(show 2 <= 1000 by decide),(show 1 <= 1000 by decide),(show 2 <= 1000 by decide),vs',c1,cl,?_⟩;exact hQ _ _ rs' (fun j o hj e => bZ (aR e _) (fun q => hj (by simp [q])))
end
section
variable {x : List Nat} {R lc : Nat} {done : List (List Nat × List dR)} {kind : List Nat} {items : List dR} {pre rest : List Nat} {ρ : bI} {H : List MO} {Q : d5}
noncomputable abbrev eU : List Nat := [104,101,108,100]
noncomputable abbrev eX : List Nat := [116,97,105,108]
theorem Du (hx : x = pre ++ ([40,63,62,46,42,63] ++ rest)) (rs : RS x R lc done kind items pre ρ H) (hd : done.length < 300) (hQ : ∀ ρ' H',RS x R H.length (done ++ [(kind,items)]) eU [] (pre ++ [40,63,62,46,42,63]) ρ' H' -> bT [R] H H' -> Q .next ρ' H') : Nv ρ H Q := by
 refine bP fun no => ?_;obtain ⟨rows,vs,ea,eb,ec,ed⟩ := rs.st;refine no ?_;refine ⟨_,rs.r0,_,rs.r2,_,rfl,_,rs.r2,_,rfl,rfl,?_⟩;refine aJ (qR hx) ?_;refine ⟨true,gZ (y := [40,63,62,46,42,63]) rfl,?_⟩;have e1 : ((pre.length : Int) + 6) = (((pre ++ [40,63,62,46,42,63]).length : Nat) : Int) := by simp
 obtain ⟨xs,c1,cl,rs'⟩ := rs.row (pre' := pre ++ [40,63,62,46,42,63]) (kind' := eU) (ρ' := upd ρ 2 (.int ((pre.length : Int) + 6))) rfl rfl (by refine cE e1 ?_;rfl) hd;refine ⟨_,rs.r1,(.list ea),(show 0 <= 1000 by decide),(show 2 <= 1000 by decide),xs,c1,cl,?_⟩;refine ⟨_,rs.r2,?_⟩;exact hQ _ _ rs' (fun j o hj e => bZ (aR e _) (fun q => hj (by simp [q])))
theorem Dv (hx : x = pre ++ ([46,42] ++ rest)) (rs : RS x R lc done kind items pre ρ H) (hd : done.length < 300) (hQ : ∀ ρ' H',RS x R H.length (done ++ [(kind,items)]) eX [] (pre ++ [46,42]) ρ' H' -> bT [R] H H' -> Q .next ρ' H') : Nv ρ H Q := by
 refine bP fun no => ?_;obtain ⟨rows,vs,ea,eb,ec,ed⟩ := rs.st;refine no ?_;have hx0 : x = pre ++ (46 :: (42 :: rest)) := hx;refine ⟨_,rs.r0,_,rs.r2,_,rfl,_,rs.r2,_,rfl,rfl,?_⟩;refine aJ (qR hx) ?_;refine ⟨false,gZ (y := [40,63,62,46,42,63]) (qS (by decide)),?_⟩;refine ⟨_,rs.r0,_,rs.r2,_,rfl,_,rs.r2,_,rfl,rfl,?_⟩;refine aJ (uW hx) ?_;refine ⟨true,gZ (y := [46,42]) rfl,?_⟩;have e1 : ((pre.length : Int) + 2) = (((pre ++ [46,42]).length : Nat) : Int) := by simp
 obtain ⟨xs,c1,cl,rs'⟩ := rs.row (pre' := pre ++ [46,42]) (kind' := eX) (ρ' := upd ρ 2 (.int ((pre.length : Int) + 2))) rfl rfl (by refine cE e1 ?_;rfl) hd;refine ⟨_,rs.r1,(.list ea),(show 0 <= 1000 by decide),(show 2 <= 1000 by decide),xs,c1,cl,?_⟩;refine ⟨_,rs.r2,?_⟩;exact hQ _ _ rs' (fun j o hj e => bZ (aR e _) (fun q => hj (by simp [q])))
theorem zL (hx : x = pre ++ ([41] ++ rest)) (rs : RS x R lc done kind items pre ρ H) (hd : done.length < 300) (hQ : ∀ ρ' H',RS x R H.length (done ++ [(kind,items)]) [] [] (pre ++ [41]) ρ' H' -> bT [R] H H' -> Q .next ρ' H') : Nv ρ H Q := by
 refine bP fun no => ?_;obtain ⟨rows,vs,ea,eb,ec,ed⟩ := rs.st;refine no ?_;have hg : x[pre.length]? = some 41 := by refine aJ hx ?_;exact aM
 refine ⟨_,rs.r0,_,rs.r2,_,rfl,_,rs.r2,_,rfl,rfl,?_⟩;refine aJ (qR hx) ?_;refine ⟨false,gZ (y := [40,63,62,46,42,63]) (qS (by decide)),?_⟩;refine ⟨_,rs.r0,_,rs.r2,_,rfl,_,rs.r2,_,rfl,rfl,?_⟩;refine aJ (uW hx) ?_;refine ⟨false,gZ (y := [46,42]) (qS (by decide)),?_⟩;refine ⟨_,rs.r0,_,rs.r2,_,bM hg,true,gZ (x := [41]) (y := [41]) rfl,?_⟩;have e1 : ((pre.length : Int) + 1) = (((pre ++ [41]).length : Nat) : Int) := by simp
 obtain ⟨xs,c1,cl,rs'⟩ := rs.row (pre' := pre ++ [41]) (kind' := []) (ρ' := upd ρ 2 (.int ((pre.length : Int) + 1))) rfl rfl (by refine cE e1 ?_;rfl) hd;refine ⟨_,rs.r1,(.list ea),(show 0 <= 1000 by decide),(show 2 <= 1000 by decide),xs,c1,cl,?_⟩;refine ⟨_,rs.r2,?_⟩;exact hQ _ _ rs' (fun j o hj e => bZ (aR e _) (fun q => hj (by simp [q])))
end
theorem Lq {t : gH} (h : t.Ok) : t.txt ≠ [] := by
 cases t with
 | it q i => intro e;rw [show q = [] from e] at h;exact nS h
 | held => decide
 | close => decide
 | tail => decide
noncomputable def Up (N : Nat) (H H' : List MO) : Prop := ∀ (i : Nat) (o : MO),i < N -> H[i]? = some o -> H'[i]? = some o
theorem bT.up {X : List Nat} {H H' : List MO} {N : Nat} (h : bT X H H') (hX : ∀ i ∈ X,N <= i) : Up N H H' := fun i o hi e => h i o (fun q => by have := hX i q;exact absurd ‹_› (not_lt.mpr ‹_›)) e
theorem Up.trans {N : Nat} {H H' H'' : List MO} (a : Up N H H') (b : Up N H' H'') : Up N H H'' := fun i o hi e => b i o hi (a i o hi e)
theorem Dw {x : List Nat} {R N : Nat} {P : d5} (hNR : N <= R) : ∀ (toks : List gH) (f : Nat) (pre : List Nat) (lc : Nat) (d : List (List Nat × List dR)) (k : List Nat) (is : List dR) (ρ : bI) (H : List MO),(∀ t ∈ toks,t.Ok) -> x = pre ++ ((toks.map gH.txt).flatten ++ [41,92,90]) -> toks.length <= f -> d.length + toks.length <= 299 -> is.length + toks.length <= 299 -> N <= lc -> N <= H.length -> RS x R lc d k is pre ρ H -> (∀ (lc' : Nat) (pre' : List Nat) (ρ' : bI) (H' : List MO),N <= lc' -> RS x R lc' (toks.foldl gH.put (d,k,is)).1 (toks.foldl gH.put (d,k,is)).2.1 (toks.foldl gH.put (d,k,is)).2.2 pre' ρ' H' -> Up N H H' -> P .next ρ' H') -> eF Sp Nv P (f + 1) ρ H := by
 intro toks;induction toks with
 | nil =>
   intro f pre lc d k is ρ H ho hx hf hd hi hl hH rs hP;refine ⟨_,rs.r2,_,rs.r0,false,Ep (by refine aJ (bX ..) (aJ ((by exact hx : x = pre ++ [41,92,90]) ..) ?_);simp),?_⟩;exact hP lc pre ρ H hl rs (fun _ _ _ e => e)
 | cons t toks ih =>
   intro cs0;cases cs0 with
   | zero =>
     intro pre lc d k is ρ H ho hx hf hd hi hl hH rs hP;simp at hf
   | succ f =>
     intro pre lc d k is ρ H ho hx hf hd hi hl hH rs hP;have ht := ho t mem_cons_self;have htx := length_pos_iff.mpr (Lq ht);have hx' : x = pre ++ (t.txt ++ ((toks.map gH.txt).flatten ++ [41,92,90])) := by refine aJ hx ?_;exact congrArg _ (append_assoc ..)
     refine ⟨_,rs.r2,_,rs.r0,true,r8 (by refine aJ (bX ..) (aJ (hx' ..) ?_);simp;lia),?_⟩;have hsm := rs.sm;refine bP fun no => ?_;obtain ⟨rows,vs,ea,eb,ec,ed⟩ := rs.st;refine no ?_;have hRl : R < H.length := (List.getElem?_eq_some_iff.mp ea).1;dsimp only [length_cons] at hf hd hi;cases t with
     | it q i =>
       refine Dt ht hx' rs (by exact lt_of_le_of_lt (le_trans (le_add_right _ _) ‹_›) (by decide)) fun ρ' H' rs' hX => ?_;obtain ⟨rows',vs',ea',_⟩ := rs'.st;exact ih f (pre ++ q) lc d k (is ++ [i]) ρ' H' (fun t h => ho t (mem_cons_of_mem _ ‹_›)) (by refine aJ hx' ?_;exact aJ (append_assoc ..) rfl) (le_of_lt_succ ‹_›) (le_of_lt ‹_›) (lS ‹_›) hl (by have := (List.getElem?_eq_some_iff.mp ea').1;lia) rs' fun lc' pre' ρ'' H'' z1 z2 z3 => hP lc' pre' ρ'' H'' z1 z2 ((hX.up (by simp;exact ⟨by assumption,by assumption⟩) : Up N H H').trans z3)
     | held =>
       refine Du hx' rs (by exact lt_of_le_of_lt (le_trans (le_add_right _ _) ‹_›) (by decide)) fun ρ' H' rs' hX => ?_;obtain ⟨rows',vs',ea',_⟩ := rs'.st;exact ih f (pre ++ [40,63,62,46,42,63]) H.length (d ++ [(k,is)]) eU [] ρ' H' (fun t h => ho t (mem_cons_of_mem _ ‹_›)) (by refine aJ hx' ?_;exact aJ (append_assoc ..) rfl) (le_of_lt_succ ‹_›) (lS ‹_›) (by simp;lia) hH (by have := (List.getElem?_eq_some_iff.mp ea').1;lia) rs' fun lc' pre' ρ'' H'' z1 z2 z3 => hP lc' pre' ρ'' H'' z1 z2 ((hX.up (by simp;assumption) : Up N H H').trans z3)
     | close =>
       refine zL hx' rs (by exact lt_of_le_of_lt (le_trans (le_add_right _ _) ‹_›) (by decide)) fun ρ' H' rs' hX => ?_;obtain ⟨rows',vs',ea',_⟩ := rs'.st;exact ih f (pre ++ [41]) H.length (d ++ [(k,is)]) [] [] ρ' H' (fun t h => ho t (mem_cons_of_mem _ ‹_›)) (by refine aJ hx' ?_;exact aJ (append_assoc ..) rfl) (le_of_lt_succ ‹_›) (lS ‹_›) (by simp;lia) hH (by have := (List.getElem?_eq_some_iff.mp ea').1;lia) rs' fun lc' pre' ρ'' H'' z1 z2 z3 => hP lc' pre' ρ'' H'' z1 z2 ((hX.up (by simp;assumption) : Up N H H').trans z3)
     | tail =>
       refine Dv hx' rs (by exact lt_of_le_of_lt (le_trans (le_add_right _ _) ‹_›) (by decide)) fun ρ' H' rs' hX => ?_;obtain ⟨rows',vs',ea',_⟩ := rs'.st;exact ih f (pre ++ [46,42]) H.length (d ++ [(k,is)]) eX [] ρ' H' (fun t h => ho t (mem_cons_of_mem _ ‹_›)) (by refine aJ hx' ?_;exact aJ (append_assoc ..) rfl) (le_of_lt_succ ‹_›) (lS ‹_›) (by simp;lia) hH (by have := (List.getElem?_eq_some_iff.mp ea').1;lia) rs' fun lc' pre' ρ'' H'' z1 z2 z3 => hP lc' pre' ρ'' H'' z1 z2 ((hX.up (by simp;assumption) : Up N H H').trans z3)
theorem Dx {x : List Nat} {toks : List gH} {H : List MO} {P : cM} (hx : x = [40,63,115,58] ++ ((toks.map gH.txt).flatten ++ [41,92,90])) (ho : ∀ t ∈ toks,t.Ok) (hl : toks.length <= 299) (hP : ∀ (R : Nat) (H' : List MO) (rows : List MV),bT [] H H' -> H'[R]? = some (.list rows) -> jF (j2 [] H') rows ((toks.foldl gH.put ([],[],[])).1 ++ [(toks.foldl gH.put ([],[],[])).2]) -> rows.length <= 301 -> P (.ref R) H') : jC [.str (S x)] H P := by
 refine ⟨rfl,(show 0 <= 1000 by decide),(show 2 <= 1000 by decide),(show 1 <= 1000 by decide),?_⟩;have hset : RS x (H ++ [MO.list []]).length H.length [] [] [] [40,63,115,58] (upd (upd (fun i => [MV.str (S x)][i]?) 1 (.ref (H ++ [MO.list []]).length)) 2 (.int 4)) ((H ++ [MO.list []]) ++ [MO.list [.tup [.str (S []),.ref H.length]]]) :=
   ⟨rfl,rfl,rfl,by simp,by simp,[],[],by simp,trivial,aR (bE _ _ []) _,trivial⟩
 refine ⟨toks.length + 1,Dw (R := (H ++ [MO.list []]).length) (N := H.length) (by simp) toks toks.length [40,63,115,58] H.length [] [] [] _ _ ho hx (le_refl _) (by simpa using hl) (by simpa using hl) (le_refl _) (by simp) hset fun lc' pre' ρ' H' hlc rs hup => ?_⟩;refine bP fun no => ?_;obtain ⟨rows,vs,ea,eb,ec,ed⟩ := rs.st;refine no ?_;refine ⟨_,rs.r1,?_⟩;have av : ∀ q,q < H'.length -> q ∉ [(H ++ [MO.list []]).length,lc'] -> q ∉ ([] : List Nat) := fun _ _ _ => by exact not_mem_nil
 refine hP _ H' _ (fun i o _ e => hup i o (List.getElem?_eq_some_iff.mp e).1 (aR (aR e _) _)) ea ?_ ?_
 · exact (eb.imp fun _ _ h => h.av av).app ⟨⟨lc',vs,by simp,rfl,ec,ed.imp fun _ _ h => h.av av⟩,trivial⟩
 · have := eb.len;have := rs.sm.1;simp;(simp [*];done)
noncomputable def w6 (it : dR) (c : Nat) : Bool := (it.2.any fun p => decide (p.1 <= c) && decide (c <= p.2)) != it.1
noncomputable def kT : List dR -> List Nat -> Bool
 | [],_ => true
 | _ :: _,[] => false
 | it :: its,c :: cs => w6 it c && kT its cs
theorem o7 : ∀ it its c cs,kT (it :: its) (c :: cs) = (w6 it c && kT its cs) := fun _ _ _ _ => rfl
noncomputable def fB (its : List dR) (name : List Nat) (a : Nat) : Bool := decide (a + its.length <= name.length) && kT its (name.drop a)
theorem Rl {a b : Nat} {H : List MO} : vD (.str (S [a])) (.str (S [b])) H = some (decide (a <= b)) := by
 unfold vD;simp only [<- gE,Bh,Kj];congr 1;by_cases h1 : b < a
 · refine aJ (if_pos h1) ?_;symm;simp;assumption
 · refine aJ (if_neg h1) ?_;symm;have : a <= b := by exact not_lt.mp ‹_›
   simp [this]
noncomputable abbrev Qk (c : Nat) : MV -> Bool := fun v => match v with | .tup [.str x,.str y] => decide (x.cps.toList.headD 0 <= c) && decide (c <= y.cps.toList.headD 0) | _ => false
noncomputable abbrev Rm : MV -> MV := fun v => match v with | .tup (x :: _) => x | _ => v
theorem Jl (c : Nat) : ∀ l : List (Nat × Nat),(((l.map w4).filter (Qk c)).map Rm).isEmpty = !(l.any fun p => decide (p.1 <= c) && decide (c <= p.2)) := by
 intro l;induction l with
 | nil =>
   exact rfl
 | cons pr0 l ih =>
   obtain ⟨a,b⟩ := pr0;have e : Qk c (w4 (a,b)) = (decide (a <= c) && decide (c <= b)) := rfl;refine aJ map_cons (aJ filter_cons (aJ e (aJ any_cons ?_)));cases decide (a <= c) && decide (c <= b) with
   | true => rfl
   | false => exact ih
noncomputable abbrev Sv : WS := (aI (mS [4,5] (a7 (aE 0) (aE 3)))
 (aI (aW 6 (kD lM (e8 (.tp [0,1]) (hJ (aE 5)) [none,none,some 1,some 2,some 3] (oZ vD vD (aE 0) (a7 (aE 2) (aX bD (aE 3) (aE 4))) (aE 1)) (aE 0)) (bW aL)))
 (aI (bB (aN dH (aE 6) (aE 4)) (aI (dG (wK (.bool false)))
 aK) aK)
 aK)))
theorem w7 {q a k c : Nat} {name : List Nat} {l : List (Nat × Nat)} {ρ : bI} {H : List MO} {P : cM} (h5 : ρ 5 = some (.ref q)) (h1 : ρ 1 = some (.str (S name))) (h2 : ρ 2 = some (.int (a : Int))) (h3 : ρ 3 = some (.int (k : Int))) (hq : H[q]? = some (.list (l.map w4))) (hl : l.length <= 100) (hc : name[a + k]? = some c) (hP : ∀ H',bT [] H H' -> P (.bool (l.any fun p => decide (p.1 <= c) && decide (c <= p.2))) H') : kD lM (e8 (.tp [0,1]) (hJ (aE 5)) [none,none,some 1,some 2,some 3] (oZ vD vD (aE 0) (a7 (aE 2) (aX bD (aE 3) (aE 4))) (aE 1)) (aE 0)) (bW aL) ρ H P := by
 skip
 have hg : ∀ H' : List MO,gA (.str (S name)) (.int ((a : Int) + (k : Int))) H' = some (.str (S [c])) := fun H' => by
   have := bM (H := H') hc
   rwa [show ((a + k : Nat) : Int) = (a : Int) + (k : Int) by rfl] at this
 refine iU (fun ρ => ρ 2 = some (.str (S name)) /\ ρ 3 = some (.int (a : Int)) /\ ρ 4 = some (.int (k : Int))) ⟨h1,h2,h3⟩ (p := Qk c) (g := Rm) (chk := fun H => H[q]? = some (.list (l.map w4))) (xs := l.map w4)
   (fun Q hQ => sX h5 hq (by exact lm (le_trans ‹_› (by decide))) hQ) (fun H' hX => hX q _ not_mem_nil hq) (by exact Ht (lt_of_le_of_lt ‹_› (by decide))) (fun x hx aY hr => ?_) (fun r H' hX hr => ?_)
 · obtain ⟨⟨lo,hi⟩,_,rfl⟩ := mem_map.mp hx;refine ⟨_,rfl,hr,fun H' hX Q hQ => ?_,fun _ H' hX Q hQ => ⟨_,rfl,q0 hQ⟩⟩;refine ⟨_,rfl,_,hr.1,_,hr.2.1,_,hr.2.2,_,hg H',_,Rl,?_⟩;have hQ0 : Q (decide (lo <= c) && decide (c <= hi)) H' := q0 hQ;cases h : decide (lo <= c) with
   | false => rw [h] at hQ0;exact hQ0
   | true => rw [h] at hQ0;exact ⟨_,rfl,_,Rl,hQ0⟩
 · refine ⟨(show 0 <= 1000 by decide),(l.any fun p => decide (p.1 <= c) && decide (c <= p.2)),?_,hP _ (hX.trans (bT.app _ _))⟩;unfold lM;rw [nJ (aR hr _) (bE _ _ []),Jl];simp
theorem mI {a b : WS} {ρ : bI} {H : List MO} {P : d5} (h : a ρ H (Ig b P)) : aI a b ρ H P := h
theorem Gw {i : Nat} {w : WE} {ρ : bI} {H : List MO} {P : d5} (h : w ρ H (Eu i ρ P)) : aW i w ρ H P := h
theorem Dy {j a : Nat} {name : List Nat} {vs : List MV} {P : d5} : ∀ (its : List dR) (pre rest : List MV) (ρ : bI) (H : List MO),vs = pre ++ rest -> jF (d7 [] H) rest its -> (∀ it ∈ its,it.2.length <= 100) -> H[j]? = some (.list vs) -> a + vs.length <= name.length -> ρ 0 = some (.ref j) -> ρ 1 = some (.str (S name)) -> ρ 2 = some (.int (a : Int)) -> (kT its (name.drop (a + pre.length)) = true -> ∀ ρ' H',bT [] H H' -> P .next ρ' H') -> (kT its (name.drop (a + pre.length)) = false -> ∀ ρ' H',bT [] H H' -> P (.ret (.bool false)) ρ' H') -> cR (.nm 3) Sv (fun _ => True) P (a8 (List.range' pre.length rest.length)) ρ H := by
 intro its;induction its with
 | nil =>
   intro pre cs0;cases cs0 with
   | nil =>
     intro ρ H hv hi hs hj hl h0 h1 h2 hT hF;exact ⟨trivial,hT rfl ρ H .refl⟩
   | cons _ _ =>
     intro ρ H hv hi hs hj hl h0 h1 h2 hT hF;first | exact False.elim hv | exact False.elim hi | exact False.elim hs | exact False.elim hj | exact False.elim hl | exact False.elim h0 | exact False.elim h1 | exact False.elim h2 | exact False.elim hT | exact False.elim hF
 | cons it its ih =>
   intro pre cs0;cases cs0 with
   | nil =>
     intro ρ H hv hi hs hj hl h0 h1 h2 hT hF;first | exact False.elim hv | exact False.elim hi | exact False.elim hs | exact False.elim hj | exact False.elim hl | exact False.elim h0 | exact False.elim h1 | exact False.elim h2 | exact False.elim hT | exact False.elim hF
   | cons v rest =>
     intro ρ H hv hi hs hj hl h0 h1 h2 hT hF;obtain ⟨⟨q,_,rfl,hq⟩,hi'⟩ := hi;have hk : a + pre.length < name.length := by rw [hv] at hl;simp at hl;lia
     obtain ⟨c,hc⟩ : ∃ c,name[a + pre.length]? = some c := ⟨_,getElem?_eq_getElem hk⟩;have hdrop : name.drop (a + pre.length) = c :: name.drop (a + (pre.length + 1)) := by
       rw [drop_eq_getElem_cons hk];rw [getElem?_eq_getElem hk] at hc
       (injection hc with hc;subst hc);rfl
     rw [hdrop] at hT hF;have hg : vs[pre.length]? = some (.tup [.bool it.1,.ref q]) := by rw [hv];exact aM
     refine ⟨trivial,_,rfl,?_⟩;refine ⟨_,h0,_,rfl,_,b8 hj hg,?_⟩;refine ⟨_,rfl,rfl,?_⟩;refine mI (Gw ?_);refine w7 (ρ := eI (upd ρ 3 (.int (pre.length : Int))) [4,5] [.bool it.1,.ref q]) (q := q) (a := a) (k := pre.length) (c := c) (name := name) (l := it.2) rfl h1 h2 rfl hq (hs it mem_cons_self) hc fun H' hX => ?_;generalize hb : (it.2.any fun p => decide (p.1 <= c) && decide (c <= p.2)) = b;have hh : w6 it c = (b != it.1) := by unfold w6;exact aJ hb rfl
     refine ⟨_,rfl,_,rfl,b == it.1,rfl,?_⟩;cases he : (b == it.1) with
     | true =>
       have hh0 : w6 it c = false := by rw [hh,bne,he];rfl
       exact hF (by rw [o7,hh0];rfl) _ H' hX
     | false =>
       have hh1 : w6 it c = true := by rw [hh,bne,he];rfl
       have := ih (pre ++ [.tup [.bool it.1,.ref q]]) rest (upd (eI (upd ρ 3 (.int (pre.length : Int))) [4,5] [.bool it.1,.ref q]) 6 (.bool b)) H' (by refine aJ hv ?_;exact aJ (append_assoc ..) rfl) (hi'.imp fun _ _ => d7.ex hX) (fun i h => hs i (mem_cons_of_mem _ ‹_›)) (hX j _ not_mem_nil hj) hl h0 h1 h2
         (fun h ρ' H'' z => hT (by rw [o7,hh1];simpa using h) ρ' H'' (hX.trans z)) (fun h ρ' H'' z => hF (by rw [o7,hh1];simpa using h) ρ' H'' (hX.trans z))
       replace this := (by exact lA : (pre ++ [MV.tup [.bool it.1,.ref q]]).length = pre.length + 1) ▸ this
       exact this
theorem nR {j a : Nat} {name : List Nat} {vs : List MV} {its : List dR} {H : List MO} {P : cM} (hj : H[j]? = some (.list vs)) (hi : jF (d7 [] H) vs its) (hs : ∀ it ∈ its,it.2.length <= 100) (hl : vs.length <= 1000) (hP : ∀ H',bT [] H H' -> P (.bool (fB its name a)) H') : cY [.ref j,.str (S name),.int (a : Int)] H P := by
 refine ⟨rfl,_,rfl,false,Ep (by (simp;done)),?_⟩;have hlen := hi.len;by_cases hfit : a + its.length <= name.length
 · refine ⟨_,rfl,_,rfl,_,hj,_,rfl,false,Nu (by rw [bX];lia),?_⟩;refine ⟨_,rfl,_,hj,_,_,_,rfl,by decide,by exact lt_of_le_of_lt ‹_› (by decide),?_⟩;have er : eT 0 (vs.length : Int) 1 = a8 (List.range' 0 vs.length) := by rw [eM,range_eq_range']
   refine ⟨(by rw [er];exact lm (lR (le_trans ‹_› (by decide)))),?_⟩
   skip
   rw [er];have hd : fB its name a = kT its (name.drop a) := by unfold fB;simp [hfit]
   refine Dy (vs := vs) its [] vs _ _ rfl hi hs hj (by (simp [*];done)) rfl rfl rfl (fun h ρ' H' hX => ?_) (fun h ρ' H' hX => ?_)
   · have := hP H' hX;rw [hd,show kT its (name.drop a) = true from h] at this;exact this
   · have := hP H' hX;rw [hd,show kT its (name.drop a) = false from h] at this;exact this
 · refine ⟨_,rfl,_,rfl,_,hj,_,rfl,true,Ox (by rw [bX];lia),?_⟩;have := hP H .refl;rw [show fB its name a = false by unfold fB;simp [hfit]] at this;exact this
noncomputable def iW (its : List dR) (t : List Nat) : Nat -> Nat -> Nat
 | 0,a => a
 | f + 1,a => if a < t.length /\ fB its t a = false then iW its t f (a + 1) else a
theorem mJ {its : List dR} {t : List Nat} : ∀ f a,iW its t (f + 1) a = (if a < t.length /\ fB its t a = false then iW its t f (a + 1) else a) := fun _ _ => rfl
noncomputable def gW (t : List Nat) : List (List Nat × List dR) -> Nat -> Bool
 | [],a => a == t.length
 | (kind,its) :: rs,a =>
   if kind = eX then decide (its.length + a <= t.length) && fB its t (t.length - its.length)
   else if fB its t (if kind = eU then iW its t (t.length + 1) a else a) then gW t rs ((if kind = eU then iW its t (t.length + 1) a else a) + its.length) else false
theorem iX {t : List Nat} : ∀ kind its rs a,gW t ((kind,its) :: rs) a = (if kind = eX then decide (its.length + a <= t.length) && fB its t (t.length - its.length) else if fB its t (if kind = eU then iW its t (t.length + 1) a else a) then gW t rs ((if kind = eU then iW its t (t.length + 1) a else a) + its.length) else false) := fun _ _ _ _ => rfl
noncomputable abbrev Sw : WS := (cP (dF (aN fW (aE 2) (aV cZ (aH (aE 1) aL))) (eR (cD (aV cY (aH (aE 4) (aH (aE 1) (aH (aE 2) aL))))))) (aI (e7 2 dD (wK (.int 1)))
 aK))
noncomputable abbrev Rn : WS := (aI (bB (aN dH (aE 3) (wK (.str "tail"))) (aI (dG (B9 (kD Es (aX fN (aV cZ (aH (aE 1) aL)) (aV cZ (aH (aE 4) aL))) (aE 2)) (aV cY (aH (aE 4) (aH (aE 1) (aH (aX fN (aV cZ (aH (aE 1) aL)) (aV cZ (aH (aE 4) aL))) aL))))))
 aK) aK)
 (aI (bB (aN dH (aE 3) (wK (.str "held"))) (aI Sw
 aK) aK)
 (aI (bB (eR (cD (aV cY (aH (aE 4) (aH (aE 1) (aH (aE 2) aL)))))) (aI (dG (wK (.bool false)))
 aK) aK)
 (aI (e7 2 dD (aV cZ (aH (aE 4) aL)))
 aK))))
section
variable {t : List Nat} {l : Nat} {vs : List MV} {its : List dR}
theorem Dz {P : d5} (hs : ∀ it ∈ its,it.2.length <= 100) (hvl : vs.length <= 1000) : ∀ (f a : Nat) (ρ : bI) (H : List MO),t.length - a <= f -> jF (d7 [] H) vs its -> H[l]? = some (.list vs) -> ρ 1 = some (.str (S t)) -> ρ 2 = some (.int (a : Int)) -> ρ 4 = some (.ref l) -> (∀ ρ' H',ρ' 1 = some (.str (S t)) -> ρ' 2 = some (.int (iW its t (f + 1) a : Int)) -> ρ' 4 = some (.ref l) -> bT [] H H' -> P .next ρ' H') -> eF (dF (aN fW (aE 2) (aV cZ (aH (aE 1) aL))) (eR (cD (aV cY (aH (aE 4) (aH (aE 1) (aH (aE 2) aL))))))) (aI (e7 2 dD (wK (.int 1))) aK) P (f + 1) ρ H := by
 intro f;induction f with
 | zero =>
   intro a ρ H hf hi hl h1 h2 h4 hP;refine ⟨_,h2,_,h1,false,Ep (by refine aJ (bX ..) ?_;omega),?_⟩;exact hP ρ H h1 (by rw [h2,mJ,if_neg (by omega)]) h4 .refl
 | succ f ih =>
   intro a ρ H hf hi hl h1 h2 h4 hP;by_cases ha : a < t.length
   · refine ⟨_,h2,_,h1,true,r8 (by refine aJ (bX ..) ?_;exact Int.ofNat_lt.mpr ‹_›),?_⟩;refine ⟨_,h4,_,h1,_,h2,nR hl hi hs hvl fun H' hX => ?_⟩;refine ⟨_,rfl,?_⟩;cases hb : fB its t a with
     | true =>
       refine hP ρ H' h1 ?_ h4 hX;rw [h2,mJ,if_neg (by simp [hb])]
     | false =>
       refine ⟨_,h2,?_⟩;refine ih (a + 1) (upd ρ 2 (.int ((a : Int) + 1))) H' (by omega) (hi.imp fun _ _ => d7.ex hX) (hX l _ not_mem_nil hl) h1 (by refine aJ (by rfl : ((a : Int) + 1) = ((a + 1 : Nat) : Int)) ?_;rfl) h4 fun ρ' H'' z1 z2 z4 zX => hP ρ' H'' z1 ?_ z4 (hX.trans zX);refine aJ z2 ?_;have : iW its t (f + 1 + 1) a = iW its t (f + 1) (a + 1) := by rw [mJ,if_pos ⟨ha,hb⟩]
       exact aJ this rfl
   · refine ⟨_,h2,_,h1,false,Ep (by refine aJ (bX ..) ?_;(simp [*];done)),?_⟩;refine hP ρ H h1 ?_ h4 .refl;rw [h2,mJ,if_neg (by simp [ha])]
end
theorem zM {t : List Nat} {R : Nat} {rows0 : List MV} {P : d5} : ∀ (rs : List (List Nat × List dR)) (rows : List MV) (a : Nat) (ρ : bI) (H : List MO),jF (j2 [] H) rows rs -> (∀ r ∈ rs,r.2.length <= 300 /\ ∀ it ∈ r.2,it.2.length <= 100) -> H[R]? = some (.list rows0) -> ρ 1 = some (.str (S t)) -> ρ 2 = some (.int (a : Int)) -> (∀ ρ' H' (a' : Nat),gW t rs a = (a' == t.length) -> ρ' 1 = some (.str (S t)) -> ρ' 2 = some (.int (a' : Int)) -> bT [] H H' -> P .next ρ' H') -> (∀ ρ' H',bT [] H H' -> P (.ret (.bool (gW t rs a))) ρ' H') -> cR (.tp [3,4]) Rn (fun H => H[R]? = some (.list rows0)) P rows ρ H := by
 intro rs;induction rs with
 | nil =>
   intro cs0;cases cs0 with
   | nil =>
     intro a ρ H hr hs hR h1 h2 hT hF;exact ⟨hR,hT ρ H a rfl h1 h2 .refl⟩
   | cons _ _ =>
     intro a ρ H hr hs hR h1 h2 hT hF;first | exact False.elim hr | exact False.elim hs | exact False.elim hR | exact False.elim h1 | exact False.elim h2 | exact False.elim hT | exact False.elim hF
 | cons pr0 rs ih =>
   obtain ⟨kind,its⟩ := pr0;intro cs0;cases cs0 with
   | nil =>
     intro a ρ H hr hs hR h1 h2 hT hF;first | exact False.elim hr | exact False.elim hs | exact False.elim hR | exact False.elim h1 | exact False.elim h2 | exact False.elim hT | exact False.elim hF
   | cons v rows =>
     intro a ρ H hr hs hR h1 h2 hT hF;refine bP fun no => ?_;obtain ⟨⟨l,vs,_,rfl,hl,hi⟩,hr'⟩ := hr;obtain ⟨hs1,hs2⟩ := hs (kind,its) mem_cons_self;refine no ?_;have hlen : vs.length = its.length := hi.len;have hvl : vs.length <= 1000 := by refine aJ hlen ?_;exact le_trans (show its.length <= 300 from hs1) (by decide)
     refine ⟨hR,eI ρ [3,4] [.str (S kind),.ref l],rfl,?_⟩;by_cases ht : kind = eX
     · subst ht;refine ⟨_,rfl,true,gZ (x := eX) (y := eX) rfl,?_⟩
       replace hF := (by rw [iX,if_pos rfl] : gW t ((eX,its) :: rs) a = (decide (its.length + a <= t.length) && fB its t (t.length - its.length))) ▸ hF
       by_cases hle : its.length + a <= t.length
       · refine ⟨_,h1,_,rfl,_,hl,_,h2,true,R9 (by refine aJ (bX ..) ?_;omega),?_⟩;refine ⟨true,rfl,?_⟩;refine ⟨_,rfl,_,h1,_,h1,_,rfl,_,hl,?_⟩;have e : (((S t).length : Nat) : Int) - (vs.length : Int) = ((t.length - its.length : Nat) : Int) := by refine aJ (bX ..) ?_;omega
         show cY [.ref l,.str (S t),.int ((((S t).length : Nat) : Int) - (vs.length : Int))] _ _;refine aJ e ?_;refine nR hl hi hs2 hvl fun H' hX => ?_;have := hF (eI ρ [3,4] [.str (S eX),.ref l]) H' hX;rw [show decide (its.length + a <= t.length) = true by exact if_pos ‹_›,Bool.true_and] at this;exact this
       · refine ⟨_,h1,_,rfl,_,hl,_,h2,false,Rd (by rw [bX];omega),?_⟩;refine ⟨false,rfl,?_⟩;have := hF (eI ρ [3,4] [.str (S eX),.ref l]) H .refl;rw [show decide (its.length + a <= t.length) = false by simp;exact Nat.not_le.mp ‹_›,Bool.false_and] at this;exact this
     · refine ⟨_,rfl,false,gZ (x := kind) (y := eX) (by rw [beq_eq_false_iff_ne];exact ht),?_⟩;have rest : ∀ (aY : bI) (H₁ : List MO) (sH : Nat),(if kind = eU then iW its t (t.length + 1) a else a) = sH -> aY 1 = some (.str (S t)) -> aY 2 = some (.int (sH : Int)) -> aY 4 = some (.ref l) -> bT [] H H₁ ->
           aI (bB (eR (cD (aV cY (aH (aE 4) (aH (aE 1) (aH (aE 2) aL)))))) (aI (dG (wK (.bool false))) aK) aK) (aI (e7 2 dD (aV cZ (aH (aE 4) aL))) aK) aY H₁ (pJ (cR (.tp [3,4]) Rn (fun H => H[R]? = some (.list rows0)) P rows) P) := by
         intro aY H₁ sH ha g1 g2 g4 gX;have hun : gW t ((kind,its) :: rs) a = if fB its t sH = true then gW t rs (sH + its.length) else false := by rw [iX,if_neg ht,ha]
         rw [hun] at hF hT;refine ⟨_,g4,_,g1,_,g2,nR (gX l _ ‹_› hl) (hi.imp fun _ _ => d7.ex gX) hs2 hvl fun H' hX => ?_⟩;refine ⟨_,rfl,?_⟩;cases hb : fB its t sH with
         | false =>
           have := hF aY H' (gX.trans hX);rw [hb] at this;exact this
         | true =>
           rw [hb] at hF hT;refine ⟨_,g2,_,g4,_,hX l _ ‹_› (gX l _ ‹_› hl),?_⟩;have := ih rows (sH + its.length) (upd aY 2 (.int ((sH : Int) + (vs.length : Int)))) H' (hr'.imp fun _ _ => j2.ex (gX.trans hX)) (fun r h => hs r (mem_cons_of_mem _ ‹_›)) (hX R _ not_mem_nil (gX R _ not_mem_nil hR)) g1 (by rw [(by (simp [*];done) : (sH : Int) + (vs.length : Int) = ((sH + its.length : Nat) : Int))];rfl) (fun ρ' H'' a' z z1 z2 zX => hT ρ' H'' a' z z1 z2 ((gX.trans hX).trans zX)) (fun ρ' H'' zX => hF ρ' H'' ((gX.trans hX).trans zX));exact this
       by_cases hk : kind = eU
       · refine ⟨_,rfl,true,gZ (x := kind) (y := eU) (by rw [hk];rfl),?_⟩;refine ⟨t.length + 1,Dz (l := l) (vs := vs) (its := its) (t := t) hs2 hvl t.length a _ H (sub_le _ _) hi hl h1 h2 rfl fun ρ' H' z1 z2 z4 zX => ?_⟩;exact rest ρ' H' (iW its t (t.length + 1) a) (by rw [if_pos hk]) z1 z2 z4 zX
       · refine ⟨_,rfl,false,gZ (x := kind) (y := eU) (by rw [beq_eq_false_iff_ne];exact hk),?_⟩;exact rest _ H a (by rw [if_neg hk]) h1 h2 rfl .refl
theorem zN {t x : List Nat} {toks : List gH} {H : List MO} {P : cM} (hx : x = [40,63,115,58] ++ ((toks.map gH.txt).flatten ++ [41,92,90])) (ho : ∀ t ∈ toks,t.Ok) (hl : toks.length <= 299) (hs : ∀ r ∈ (toks.foldl gH.put ([],[],[])).1 ++ [(toks.foldl gH.put ([],[],[])).2],r.2.length <= 300 /\ ∀ it ∈ r.2,it.2.length <= 100) (hP : ∀ H',bT [] H H' -> P (.bool (gW t ((toks.foldl gH.put ([],[],[])).1 ++ [(toks.foldl gH.put ([],[],[])).2]) 0)) H') : cS [.str (S x),.str (S t)] H P := by
 have e1 : (⟨(jP (S x).cps.toList none (some (4 : Int))).toArray⟩ : Str) = S [40,63,115,58] := by
   have : jP (S x).cps.toList none (some (4 : Int)) = [40,63,115,58] := by
     refine aJ (dQ ..) ?_
     skip
     refine aJ (iZ ..) (aJ (hx ..) ?_);rfl
   exact aJ this rfl
 have e2 : (⟨(jP (S x).cps.toList (some (-3 : Int)) none).toArray⟩ : Str) = S [41,92,90] := by
   have : jP (S x).cps.toList (some (-3 : Int)) none = [41,92,90] := by
     refine aJ (dQ ..) ?_
     skip
     refine aJ (uO _ _ (by decide)) ?_;have : x = ([40,63,115,58] ++ (toks.map gH.txt).flatten) ++ [41,92,90] := by refine aJ hx ?_;rfl
     refine aJ this ?_;generalize [40,63,115,58] ++ (toks.map gH.txt).flatten = y;have e3 : (y ++ [41,92,90]).length - 3 = y.length := by simp
     refine aJ e3 ?_;exact drop_append_length
   exact aJ this rfl
 refine ⟨rfl,_,rfl,_,rfl,rfl,?_⟩;refine aJ e1 ?_;refine ⟨false,Kk (y := [40,63,115,58]) rfl,?_⟩;refine ⟨_,rfl,_,rfl,?_⟩;refine ⟨_,rfl,rfl,?_⟩;refine aJ e2 ?_;refine ⟨false,Kk (y := [41,92,90]) rfl,?_⟩;refine ⟨_,rfl,Dx hx ho hl fun R H' rows hX hR hr hrl => ?_⟩;refine ⟨rows,hR,le_trans hrl (show 301 <= sizeLine by decide),?_⟩;refine zM (t := t) (a := 0) _ rows _ H' hr hs hR rfl rfl (fun ρ' H'' a' z z1 z2 zX => ?_) (fun ρ' H'' zX => hP H'' (hX.trans zX));have := hP H'' (hX.trans zX)
 replace this := z ▸ this
 refine ⟨_,z2,_,z1,(a' == t.length),?_,this⟩;show some ((a' : Int) == ((S t).length : Int)) = _;refine aJ (bX ..) ?_;congr 1;rw [Bool.eq_iff_iff,beq_iff_eq,beq_iff_eq]
 lia
noncomputable def cJ : List (List Nat) := [[97,98,99],[42,63,91],[93,45,94],[92,38,126],[124,46,35],[94,97,65]]
noncomputable def Gx (al : List Nat) (f c : Nat) : List Nat := (j1 (item al f c)).getD []
noncomputable def qT (al : List Nat) (f c : Nat) : dR := (lG (Gx al f c)).getD (false,[])
noncomputable def sD (al : List Nat) (f c : Nat) : Bool :=
 (j1 (item al f c)).isSome && (lG (Gx al f c)).isSome && al.all (fun d => w6 (qT al f c) d == (d == c)) && decide ((Gx al f c).length <= 20) && decide ((qT al f c).2.length <= 100) && !(item al f c).isEmpty
theorem Nw : ([97,98,99].all fun c => (List.range 4).all fun f => sD [97,98,99] f c) = true := by decide +kernel
theorem Ny : ([42,63,91].all fun c => (List.range 4).all fun f => sD [42,63,91] f c) = true := by decide +kernel
theorem Nz : ([93,45,94].all fun c => (List.range 4).all fun f => sD [93,45,94] f c) = true := by decide +kernel
theorem N0 : ([92,38,126].all fun c => (List.range 4).all fun f => sD [92,38,126] f c) = true := by decide +kernel
theorem N1 : ([124,46,35].all fun c => (List.range 4).all fun f => sD [124,46,35] f c) = true := by decide +kernel
theorem N2 : ([94,97,65].all fun c => (List.range 4).all fun f => sD [94,97,65] f c) = true := by decide +kernel
theorem tab {al : List Nat} (ha : al ∈ cJ) {c f : Nat} (hc : c ∈ al) (hf : f < 4) : sD al f c = true := by
 have key : ∀ al : List Nat,(al.all fun c => (List.range 4).all fun f => sD al f c) = true -> c ∈ al -> sD al f c = true := fun al h hc =>
   all_eq_true.mp (all_eq_true.mp h c hc) f (mem_range.mpr hf)
 simp only [cJ,mem_cons,not_mem_nil,or_false] at ha;rcases ha with rfl | rfl | rfl | rfl | rfl | rfl
 · exact key _ Nw hc
 · exact key _ Ny hc
 · exact key _ Nz hc
 · exact key _ N0 hc
 · exact key _ N1 hc
 · exact key _ N2 hc
structure Lr (al : List Nat) (f c : Nat) : Prop where
 p : j1 (item al f c) = some (Gx al f c)
 r : lG (Gx al f c) = some (qT al f c)
 h : ∀ d ∈ al,w6 (qT al f c) d = (d == c)
 l : (Gx al f c).length <= 20
 m : (qT al f c).2.length <= 100
 n : item al f c ≠ []
theorem uY {al : List Nat} (ha : al ∈ cJ) {c f : Nat} (hc : c ∈ al) (hf : f < 4) : Lr al f c := by
 have h := tab ha hc hf;unfold sD at h;simp only [Bool.and_eq_true,decide_eq_true_eq] at h;obtain ⟨⟨⟨⟨⟨h1,h2⟩,h3⟩,h4⟩,h5⟩,h6⟩ := h;refine ⟨?_,?_,fun d hd => by simpa using all_eq_true.mp h3 d hd,h4,h5,by intro e;replace h6 := e ▸ h6;cases h6⟩
 · obtain ⟨q,hq⟩ := Option.isSome_iff_exists.mp h1;unfold Gx;refine aJ hq ?_;rfl
 · obtain ⟨q,hq⟩ := Option.isSome_iff_exists.mp h2;unfold qT;refine aJ hq ?_;rfl
noncomputable def lH (al : List Nat) (a : Nat) : Nat -> List Nat -> List (List Nat × List Nat)
 | _,[] => []
 | k,c :: r => (item al ((a + k) % 4) c,Gx al ((a + k) % 4) c) :: lH al a (k + 1) r
theorem N3 {al : List Nat} {a : Nat} : ∀ u1,lH al a u1 [] = ([]) := fun _ => rfl
theorem Bm {al : List Nat} {a : Nat} : ∀ k c r,lH al a k (c :: r) = ((item al ((a + k) % 4) c,Gx al ((a + k) % 4) c) :: lH al a (k + 1) r) := fun _ _ _ => rfl
noncomputable def uZ (al : List Nat) (a : Nat) : Nat -> List Nat -> List dR
 | _,[] => []
 | k,c :: r => qT al ((a + k) % 4) c :: uZ al a (k + 1) r
theorem Km {al : List Nat} {a : Nat} : ∀ u1,uZ al a u1 [] = ([]) := fun _ => rfl
theorem Bn {al : List Nat} {a : Nat} : ∀ k c r,uZ al a k (c :: r) = (qT al ((a + k) % 4) c :: uZ al a (k + 1) r) := fun _ _ _ => rfl
section
variable {al : List Nat} {a : Nat}
theorem Bo : ∀ (w : List Nat) (k : Nat),(lH al a k w).map (·.1) = eB al a k w := by
 intro w;induction w with
 | nil =>
   intro _;exact rfl
 | cons c w ih =>
   intro k;rw [Bm,uT,map_cons,ih]
theorem lJ : ∀ (w : List Nat) (k : Nat),(lH al a k w).length = w.length := by
 intro w;induction w with
 | nil =>
   intro _;exact rfl
 | cons c w ih =>
   intro k;rw [Bm,length_cons,ih];rfl
theorem lK : ∀ (w : List Nat) (k : Nat),(uZ al a k w).length = w.length := by
 intro w;induction w with
 | nil =>
   intro _;exact rfl
 | cons c w ih =>
   intro k;rw [Bn,length_cons,ih];rfl
theorem Gy (ha : al ∈ cJ) : ∀ (w : List Nat) (k : Nat),(∀ c ∈ w,c ∈ al) -> ∀ p ∈ lH al a k w,j0 p.1 p.2 /\ p.1 ≠ [] /\ p.2.length <= 20 := by
 intro w;induction w with
 | nil =>
   intro _ _ p hp;simp [N3] at hp
 | cons c w ih =>
   intro k hw p hp;rw [Bm,mem_cons] at hp;rcases hp with rfl | hp
   · have t := uY ha (hw c mem_cons_self) (f := (a + k) % 4) (by exact mod_lt _ (by decide));exact ⟨wY t.p,t.n,t.l⟩
   · exact ih (k + 1) (fun c h => hw c (mem_cons_of_mem _ ‹_›)) p hp
theorem Ls {l : List (List Nat × List Nat)} (h : ∀ p ∈ l,p.2.length <= 20) : (l.map (·.2)).flatten.length <= 20 * l.length := by
 induction l with
 | nil => decide
 | cons p l ih =>
   have h1 := h p mem_cons_self;have h2 := ih fun p hp => h p (mem_cons_of_mem _ ‹_›);simp only [map_cons,flatten_cons,length_append,length_cons]
   lia
theorem Jm (ha : al ∈ cJ) : ∀ (w : List Nat) (k : Nat) (t : List Nat),(∀ c ∈ w,c ∈ al) -> (∀ c ∈ t,c ∈ al) -> kT (uZ al a k w) t = (decide (w.length <= t.length) && t.take w.length == w) := by
 intro w;induction w with
 | nil => intro k t _ _;rfl
 | cons c w ih =>
   intro k t hw ht;cases t with
   | nil => rfl
   | cons d t =>
     rw [Bn,o7,(uY ha (hw c mem_cons_self) (f := (a + k) % 4) (by exact mod_lt _ (by decide))).h d (ht d mem_cons_self),ih (k + 1) t (fun c h => hw c (mem_cons_of_mem _ ‹_›)) (fun c h => ht c (mem_cons_of_mem _ ‹_›))];simp only [length_cons,take_succ_cons];by_cases hdc : d = c
     · subst hdc;simp
     · have hb : (d == c) = false := by rw [beq_eq_false_iff_ne];exact hdc
       simp [hb]
theorem o8 (ha : al ∈ cJ) {w t : List Nat} (k at_ : Nat) (hw : ∀ c ∈ w,c ∈ al) (ht : ∀ c ∈ t,c ∈ al) : fB (uZ al a k w) t at_ = jK w t at_ := by
 unfold fB jK;rw [Jm ha w k _ hw fun c h => ht c (mem_of_mem_drop h),lK,List.length_drop];by_cases h : at_ + w.length <= t.length
 · rw [decide_eq_true (show w.length <= t.length - at_ by lia),Bool.true_and]
 · rw [decide_eq_false h];rfl
theorem Jn (ha : al ∈ cJ) {w t : List Nat} (k : Nat) (hw : ∀ c ∈ w,c ∈ al) (ht : ∀ c ∈ t,c ∈ al) : ∀ f at_,iW (uZ al a k w) t f at_ = oA w t f at_ := by
 intro f;induction f with
 | zero =>
   intro _;exact rfl
 | succ f ih =>
   intro at_;rw [mJ,uN,o8 ha k at_ hw ht,ih]
noncomputable def eY (al : List Nat) (a : Nat) : List (List Nat) -> List (List Nat × List dR)
 | [] => []
 | [w] => [(eX,uZ al a 0 w)]
 | w :: ws => (eU,uZ al a 0 w) :: ([],[]) :: eY al a ws
theorem Gz {al : List Nat} {a : Nat} : eY al a [] = ([]) := rfl
theorem w8 {al : List Nat} {a : Nat} : ∀ w,eY al a ([w]) = ([(eX,uZ al a 0 w)]) := fun _ => rfl
theorem G0 (ha : al ∈ cJ) {t : List Nat} (ht : ∀ c ∈ t,c ∈ al) : ∀ (ws : List (List Nat)) (at_ : Nat),(∀ w ∈ ws,∀ c ∈ w,c ∈ al) -> gW t (eY al a ws) at_ = dI t (iE ws) at_ := by
 intro ws;induction ws with
 | nil => intro at_ _;rfl
 | cons w ws ih =>
   intro at_ hw;cases ws with
   | nil =>
     rw [w8,Gb,iX,iT,if_pos rfl,if_pos rfl,lK,o8 ha _ _ (hw w mem_cons_self) ht]
   | cons w2 ws =>
     have h1 := hw w mem_cons_self;have h0 : ∀ at_,fB ([] : List dR) t at_ = jK [] t at_ := fun at_ => by skip;rfl
     have e1 : eY al a (w :: w2 :: ws) = (eU,uZ al a 0 w) :: ([],[]) :: eY al a (w2 :: ws) := rfl;have e2 : iE (w :: w2 :: ws) = (1,w) :: (0,[]) :: iE (w2 :: ws) := rfl;rw [e1,e2,iX,iT,if_neg (show ¬ eU = eX by decide),if_neg (show ¬ (1 : Nat) = 2 by decide),if_pos rfl];simp only [if_true];rw [Jn ha _ h1 ht,o8 ha _ _ h1 ht,lK];split
     · rw [iX,iT,if_neg (show ¬ ([] : List Nat) = eX by decide),if_neg (show ¬ (0 : Nat) = 2 by decide)];simp only [if_neg (show ¬ ([] : List Nat) = eU by decide),if_neg (show ¬ (0 = 1) by decide)];rw [h0];split
       · exact ih _ fun w hw' => hw w (by simp at hw' ⊢;rcases hw' with q | q <;> simp [q])
       · rfl
     · rfl
theorem D0 (ha : al ∈ cJ) {t w0 : List Nat} {ws : List (List Nat)} (ht : ∀ c ∈ t,c ∈ al) (h0 : ∀ c ∈ w0,c ∈ al) (hw : ∀ w ∈ ws,∀ c ∈ w,c ∈ al) : gW t (([],uZ al a 0 w0) :: eY al a ws) 0 = dI t (dB (w0 :: ws)) 0 := by
 rw [dB,iX,iT,if_neg (show ¬ ([] : List Nat) = eX by decide),if_neg (show ¬ (0 : Nat) = 2 by decide)];simp only [if_neg (show ¬ ([] : List Nat) = eU by decide),if_neg (show ¬ (0 = 1) by decide)];rw [o8 ha _ _ h0 ht,lK];split
 · exact G0 ha ht ws _ hw
 · rfl
noncomputable def qU (al : List Nat) (a : Nat) : Nat -> List Nat -> List gH
 | _,[] => []
 | k,c :: r => .it (Gx al ((a + k) % 4) c) (qT al ((a + k) % 4) c) :: qU al a (k + 1) r
theorem Kn {al : List Nat} {a : Nat} : ∀ u1,qU al a u1 [] = ([]) := fun _ => rfl
theorem Bp {al : List Nat} {a : Nat} : ∀ k c r,qU al a k (c :: r) = (.it (Gx al ((a + k) % 4) c) (qT al ((a + k) % 4) c) :: qU al a (k + 1) r) := fun _ _ _ => rfl
noncomputable def sE (al : List Nat) (a : Nat) : List (List Nat) -> List gH
 | [] => []
 | [w] => .tail :: qU al a 0 w
 | w :: ws => .held :: qU al a 0 w ++ .close :: sE al a ws
theorem N4 {al : List Nat} {a : Nat} : sE al a [] = ([]) := rfl
theorem G1 {al : List Nat} {a : Nat} : ∀ w,sE al a ([w]) = (.tail :: qU al a 0 w) := fun _ => rfl
theorem zO : ∀ (w : List Nat) (k : Nat),((qU al a k w).map gH.txt) = (lH al a k w).map (·.2) := by
 intro w;induction w with
 | nil =>
   intro _;exact rfl
 | cons c w ih =>
   intro k;rw [Bp,Bm,map_cons,map_cons,ih];rfl
theorem Bq : ∀ ws : List (List Nat),((sE al a ws).map gH.txt).flatten = (gV (ws.map fun w => (lH al a 0 w).map (·.2))).flatten
 | [] => rfl
 | [w] => by
   show ((gH.tail :: qU al a 0 w).map gH.txt).flatten = ([[46,42],((lH al a 0 w).map (·.2)).flatten] : List (List Nat)).flatten;rw [map_cons,zO];exact (append_nil _).symm
 | w :: w2 :: ws => by
   show ((gH.held :: qU al a 0 w ++ gH.close :: sE al a (w2 :: ws)).map gH.txt).flatten = (([40,63,62,46,42,63] ++ ((lH al a 0 w).map (·.2)).flatten ++ [41]) :: gV ((w2 :: ws).map fun w => (lH al a 0 w).map (·.2))).flatten;rw [map_append,map_cons,map_cons,zO,flatten_append,flatten_cons,flatten_cons,(Bq (w2 :: ws)),flatten_cons];exact cE (append_assoc ..) rfl
theorem G2 (ha : al ∈ cJ) : ∀ (w : List Nat) (k : Nat),(∀ c ∈ w,c ∈ al) -> ∀ t ∈ qU al a k w,t.Ok := by
 intro w;induction w with
 | nil =>
   intro _ _ p hp;simp [Kn] at hp
 | cons c w ih =>
   intro k hw p hp;rw [Bp,mem_cons] at hp;rcases hp with rfl | hp
   · exact (uY ha (hw c mem_cons_self) (f := (a + k) % 4) (by exact mod_lt _ (by decide))).r
   · exact ih (k + 1) (fun c h => hw c (mem_cons_of_mem _ ‹_›)) p hp
theorem G3 (ha : al ∈ cJ) : ∀ ws : List (List Nat),(∀ w ∈ ws,∀ c ∈ w,c ∈ al) -> ∀ t ∈ sE al a ws,t.Ok
 | [],_,t,h => by simp [N4] at h
 | [w],hw,t,h => by
   rw [G1,mem_cons] at h;rcases h with rfl | h
   · trivial
   · exact G2 ha w 0 (hw w mem_cons_self) t h
 | w :: w2 :: ws,hw,t,h => by
   have e : sE al a (w :: w2 :: ws) = .held :: qU al a 0 w ++ .close :: sE al a (w2 :: ws) := rfl;rw [e,mem_append,mem_cons,mem_cons] at h;rcases h with (rfl | h) | rfl | h
   · trivial
   · exact G2 ha w 0 (hw w mem_cons_self) t h
   · trivial
   · exact G3 ha (w2 :: ws) (fun w hw' => hw w (by simp at hw' ⊢;rcases hw' with q | q <;> simp [q])) t h
theorem zP : ∀ (w : List Nat) (k : Nat),(qU al a k w).length = w.length := by
 intro w;induction w with
 | nil =>
   intro _;exact rfl
 | cons c w ih =>
   intro k;rw [Bp,length_cons,ih];rfl
theorem Br : ∀ ws : List (List Nat),(sE al a ws).length <= 2 * ws.length + ws.flatten.length
 | [] => by exact le_refl _
 | [w] => by simp [G1,zP];lia
 | w :: w2 :: ws => by
   have ih := Br (w2 :: ws);have e : sE al a (w :: w2 :: ws) = .held :: qU al a 0 w ++ .close :: sE al a (w2 :: ws) := rfl;refine aJ e ?_;simp only [length_append,length_cons,zP,flatten_cons] at ih ⊢
   lia
theorem u2 : ∀ (w : List Nat) (k : Nat) (d : List (List Nat × List dR)) (n : List Nat) (is : List dR),(qU al a k w).foldl gH.put (d,n,is) = (d,n,is ++ uZ al a k w) := by
 intro w;induction w with
 | nil =>
   intro _ d n is;simp [Kn,Km]
 | cons c w ih =>
   intro k d n is;rw [Bp,foldl_cons];show (qU al a (k + 1) w).foldl gH.put (d,n,is ++ [qT al ((a + k) % 4) c]) = _;rw [ih,Bn];exact aJ (append_assoc ..) rfl
theorem w9 : ∀ (ws : List (List Nat)) (d : List (List Nat × List dR)) (n : List Nat) (is : List dR),((sE al a ws).foldl gH.put (d,n,is)).1 ++ [((sE al a ws).foldl gH.put (d,n,is)).2] = d ++ (n,is) :: eY al a ws
 | [],d,n,is => rfl
 | [w],d,n,is => by
   rw [G1,foldl_cons];show ((qU al a 0 w).foldl gH.put (d ++ [(n,is)],eX,[])).1 ++ [((qU al a 0 w).foldl gH.put (d ++ [(n,is)],eX,[])).2] = _;refine aJ (u2 ..) ?_;exact aJ (append_assoc ..) rfl
 | w :: w2 :: ws,d,n,is => by
   have e2 : (sE al a (w :: w2 :: ws)).foldl gH.put (d,n,is) = (sE al a (w2 :: ws)).foldl gH.put ((d ++ [(n,is)]) ++ [(eU,uZ al a 0 w)],[],[]) := by
     refine aJ (rfl : sE al a (w :: w2 :: ws) = .held :: qU al a 0 w ++ .close :: sE al a (w2 :: ws)) (aJ foldl_append (aJ foldl_cons (aJ foldl_cons ?_)));show (sE al a (w2 :: ws)).foldl gH.put (gH.put ((qU al a 0 w).foldl gH.put (d ++ [(n,is)],eU,[])) gH.close) = _;refine aJ (u2 ..) ?_;rfl
   rw [e2,w9 (w2 :: ws)];have e3 : eY al a (w :: w2 :: ws) = (eU,uZ al a 0 w) :: ([],[]) :: eY al a (w2 :: ws) := rfl;rw [e3];simp
end
noncomputable def Bs (al : List Nat) (a : Nat) (w0 : List Nat) (ws : List (List Nat)) : List Nat := s5 ((lH al a 0 w0).map (·.2)) (ws.map fun w => (lH al a 0 w).map (·.2))
theorem s6 (al : List Nat) (a : Nat) : ∀ ws : List (List Nat),(∀ w ∈ ws,((lH al a 0 w).map (·.2)).flatten.length <= 20 * w.length) -> (gV (ws.map fun w => (lH al a 0 w).map (·.2))).flatten.length <= 7 * ws.length + 20 * ws.flatten.length
 | [],_ => by exact le_refl _
 | [w],h => by
   have := h w mem_cons_self;simp only [map_cons,map_nil,gV,flatten_cons,List.flatten_nil,length_append,length_cons,length_nil]
   lia
 | w :: w2 :: ws,h => by
   have h1 := h w mem_cons_self;have ih := s6 al a (w2 :: ws) fun w hw => h w (by simp at hw ⊢;rcases hw with q | q <;> simp [q]);have e : gV ((w :: w2 :: ws).map fun w => (lH al a 0 w).map (·.2)) = ([40,63,62,46,42,63] ++ ((lH al a 0 w).map (·.2)).flatten ++ [41]) :: gV ((w2 :: ws).map fun w => (lH al a 0 w).map (·.2)) := rfl;rw [e];simp only [flatten_cons,length_append,length_cons,length_nil] at ih ⊢
   lia
theorem eZ {w : List Nat} : ∀ {ws : List (List Nat)},w ∈ ws -> w.length <= ws.flatten.length
 | v :: ws,h => by
   rw [mem_cons] at h;refine aJ flatten_cons (aJ length_append ?_);rcases h with rfl | h
   · exact le_add_right _ _
   · have := eZ h;lia
section
variable {al w0 t pat : List Nat} {a k : Nat} {ws : List (List Nat)} {H : List MO} {P : cM}
theorem qV (ha : al ∈ cJ) (hk : k <= 1) (hpat : pat = (eB al a 0 w0).flatten ++ ws.flatMap fun w => List.replicate (k + 1) 42 ++ (eB al a 0 w).flatten) (hn : w0 ≠ []) (h0 : ∀ c ∈ w0,c ∈ al) (hw : ∀ w ∈ ws,w ≠ [] /\ ∀ c ∈ w,c ∈ al) (hl : w0.length + ws.flatten.length <= 20) (hws : ws.length <= 10) (hP : ∀ H',bT [] H H' -> P (.str (S (Bs al a w0 ws))) H') : cU [.str (S pat)] H P := by
 have hws0 : ∀ s ∈ ws.map (lH al a 0),∃ w ∈ ws,s = lH al a 0 w := fun s hs => by
   obtain ⟨w,h1,h2⟩ := mem_map.mp hs;exact ⟨w,h1,h2.symm⟩
 have hsum : ∀ w,(∀ c ∈ w,c ∈ al) -> ((lH al a 0 w).map (·.2)).flatten.length <= 20 * w.length := fun w h => by
   have := Ls (l := lH al a 0 w) fun p hp => (Gy ha w 0 h p hp).2.2
   rwa [lJ] at this
 have emap : ((ws.map (lH al a 0)).map fun s => s.map (·.2)) = ws.map fun w => (lH al a 0 w).map (·.2) := by refine aJ map_map ?_;rfl
 refine qP (k := k) (seg0 := lH al a 0 w0) (segs := ws.map (lH al a 0)) ?_ hk (fun p hp => ?_) (fun s hs p hp => ?_) ?_ (fun s hs => ?_) ?_ ?_ ?_ ?_ fun H' hX => ?_
 · rw [hpat,Bo,flatMap_map];simp only [Bo]
 · have := Gy ha w0 0 h0 p hp;exact ⟨this.1,this.2.1⟩
 · obtain ⟨w,hw1,rfl⟩ := hws0 s hs;have := Gy ha w 0 (hw w hw1).2 p hp;exact ⟨this.1,this.2.1⟩
 · intro e;have := lJ (al := al) (a := a) w0 0;rw [e] at this;exact hn (length_eq_zero_iff.mp this.symm)
 · obtain ⟨w,hw1,rfl⟩ := hws0 s hs;have h1 := hsum w (hw w hw1).2;have h2 := eZ hw1;refine ⟨fun e => ?_,by lia,by rw [lJ];lia⟩;have := lJ (al := al) (a := a) w 0;rw [e] at this;exact (hw w hw1).1 (length_eq_zero_iff.mp this.symm)
 · refine aJ (lJ ..) ?_;exact le_trans (le_trans (le_add_right _ _) ‹_›) (by decide)
 · refine aJ (length_map ..) ?_;exact le_trans ‹_› (by decide)
 · refine aJ emap (aJ flatten_append (aJ length_append ?_));have h1 := hsum w0 h0;have h2 := s6 al a ws fun w h => hsum w (hw w h).2
   lia
 · have hlen : ∀ ws : List (List Nat),(Hw k (ws.map (lH al a 0))).length <= 2 * ws.length + ws.flatten.length := fun ws => by
     induction ws with
     | nil => exact le_refl _
     | cons w ws ih =>
       have e : Hw k ((w :: ws).map (lH al a 0)) = (List.replicate (k + 1) Tk.star ++ Jk (lH al a 0 w)) ++ Hw k (ws.map (lH al a 0)) := rfl;refine aJ e ?_;simp only [length_append,List.length_replicate,length_map,lJ,length_cons,flatten_cons] at ih ⊢
       lia
   have := hlen ws;rw [length_append,length_map,lJ]
   lia
 · have := hP H' hX;unfold Bs at this;refine aJ emap ?_;exact this
theorem qW (ha : al ∈ cJ) (h0 : ∀ c ∈ w0,c ∈ al) (hw : ∀ w ∈ ws,w ≠ [] /\ ∀ c ∈ w,c ∈ al) (ht : ∀ c ∈ t,c ∈ al) (hl : w0.length + ws.flatten.length <= 20) (hws : ws.length <= 10) (hP : ∀ H',bT [] H H' -> P (.bool (dI t (dB (w0 :: ws)) 0)) H') : cS [.str (S (Bs al a w0 ws)),.str (S t)] H P := by
 have hrows : ((qU al a 0 w0 ++ sE al a ws).foldl gH.put ([],[],[])).1 ++ [((qU al a 0 w0 ++ sE al a ws).foldl gH.put ([],[],[])).2] = ([],uZ al a 0 w0) :: eY al a ws := by
   rw [foldl_append,u2,w9];rfl
 have rI : ∀ (w : List Nat) (k : Nat),(∀ c ∈ w,c ∈ al) -> ∀ it ∈ uZ al a k w,it.2.length <= 100 := fun w => by
   induction w with
   | nil => intro k _ it h;simp [Km] at h
   | cons c w ih =>
     intro k hw it h;rw [Bn,mem_cons] at h;rcases h with rfl | h
     · exact (uY ha (hw c mem_cons_self) (f := (a + k) % 4) (by exact mod_lt _ (by decide))).m
     · exact ih (k + 1) (fun c h => hw c (mem_cons_of_mem _ ‹_›)) it h
 have hrw : ∀ ws : List (List Nat),(∀ w ∈ ws,∀ c ∈ w,c ∈ al) -> ws.flatten.length <= 20 -> ∀ r ∈ eY al a ws,r.2.length <= 300 /\ ∀ it ∈ r.2,it.2.length <= 100 := fun ws => by
   induction ws with
   | nil => intro _ _ r h;simp [Gz] at h
   | cons w ws ih =>
     intro hw hl r h
     replace hl := length_append ▸ flatten_cons ▸ hl
     cases ws with
     | nil =>
       rw [w8,mem_singleton] at h;subst h;exact ⟨by refine aJ (lK ..) ?_;exact le_trans ‹_› (by decide),rI w 0 (hw w mem_cons_self)⟩
     | cons w2 ws =>
       have e : eY al a (w :: w2 :: ws) = (eU,uZ al a 0 w) :: ([],[]) :: eY al a (w2 :: ws) := rfl;rw [e,mem_cons,mem_cons] at h;rcases h with rfl | rfl | h
       · exact ⟨by refine aJ (lK ..) ?_;exact le_trans (le_trans (le_add_right _ _) ‹_›) (by decide),rI w 0 (hw w mem_cons_self)⟩
       · exact ⟨by simp,by decide⟩
       · exact ih (fun w hw' => hw w (by simp at hw' ⊢;rcases hw' with q | q <;> simp [q])) (by exact le_trans (le_add_left _ _) ‹_›) r h
 refine zN (toks := qU al a 0 w0 ++ sE al a ws) ?_ (fun t h => ?_) ?_ (fun r hr => ?_) fun H' hX => ?_
 · unfold Bs s5;rw [map_append,flatten_append,zO,flatten_append,Bq];rfl
 · rcases mem_append.mp h with h | h
   · exact G2 ha w0 0 h0 t h
   · exact G3 ha ws (fun w h => (hw w h).2) t h
 · have := Br (al := al) (a := a) ws;rw [length_append,zP];lia
 · rw [hrows,mem_cons] at hr;rcases hr with rfl | hr
   · exact ⟨by refine aJ (lK ..) ?_;exact le_trans (le_trans (le_add_right _ _) ‹_›) (by decide),rI w0 0 h0⟩
   · exact hrw ws (fun w h => (hw w h).2) (by exact le_trans (le_add_left _ _) ‹_›) r hr
 · refine aJ hrows (aJ (D0 ha ht h0 fun w h => (hw w h).2) ?_);exact hP H' hX
end
theorem u3 : ∀ l : List Int,oM (eL l) = some l := by
 intro l;induction l with
 | nil =>
   exact rfl
 | cons x l ih =>
   show (oM (eL l)).map (x :: ·) = _;refine aJ ih ?_;rfl
theorem Jo {β γ : Type} (f : β -> γ) (xs : List β) (lo hi st : Option Int) : sL (xs.map f) lo hi st = (sL xs lo hi st).map f := by
 unfold sL;refine aJ (length_map ..) (aJ (List.map_filterMap ..) ?_);congr 1;funext i;simp
theorem G4 {i j : Nat} {l : List Int} {ρ : bI} {H : List MO} {P : cM} (h : ρ i = some (.ref j)) (hj : H[j]? = some (.list (eL l))) (hP : P (.int l.sum) H) : aV Ci (aH (aE i) aL) ρ H P :=
 ⟨_,h,_,_,hj,u3 l,hP⟩
noncomputable abbrev Sx : WE := (aX pF (aX bD (a7 (d3 (aH (wK (.int 1)) (aH (wK (.int 0)) (aH (wK (.int 2)) (aH (wK (.int 0)) (aH (wK (.int 1)) (aH (wK (.int 0)) aL))))))) (aE 0)) (aV Ci (aH (tV (aE 1) (d8 (aE 0)) kF (d8 (wK (.int 6)))) aL))) (wK (.int 3)))
noncomputable def G5 (N : List Int) (k : Nat) : Nat := ((([1,0,2,0,1,0] : List Int).getD k 0 + (sL N (some (k : Int)) none (some 6)).sum) % 3).toNat
@[elab_as_elim] theorem Ko {P : Nat -> Prop} (h0 : P 0) (h1 : P 1) (h2 : P 2) {k : Nat} (h : k < 3) : P k := by
 rcases lt_succ_iff_lt_or_eq.mp h with h | rfl
 · rcases lt_succ_iff_lt_or_eq.mp h with h | rfl
   · exact Nat.lt_one_iff.mp h ▸ h0
   · exact h1
 · exact h2
@[elab_as_elim] theorem Ro {P : Nat -> Prop} (h0 : P 0) (h1 : P 1) (h2 : P 2) (h3 : P 3) (h4 : P 4) (h5 : P 5) {k : Nat} (h : k < 6) : P k := by
 rcases lt_succ_iff_lt_or_eq.mp h with h | rfl
 · rcases lt_succ_iff_lt_or_eq.mp h with h | rfl
   · rcases lt_succ_iff_lt_or_eq.mp h with h | rfl
     · exact Ko h0 h1 h2 h
     · exact h3
   · exact h4
 · exact h5
theorem Jp {nb k : Nat} {N : List Int} {ρ : bI} {H : List MO} {P : cM} (hk : k < 6) (h0 : ρ 0 = some (.int (k : Int))) (h1 : ρ 1 = some (.ref nb)) (hN : H[nb]? = some (.list (eL N))) (hl : N.length <= 1000) (hP : ∀ E,P (.int (G5 N k : Int)) (H ++ E)) : Sx ρ H P := by
 have hg : gA (.tup [.int 1,.int 0,.int 2,.int 0,.int 1,.int 0]) (.int (k : Int)) H = some (.int (([1,0,2,0,1,0] : List Int).getD k 0)) := by
   refine fK ?_;exact Ro (P := fun k => [MV.int 1,.int 0,.int 2,.int 0,.int 1,.int 0][k]? = some (.int (([1,0,2,0,1,0] : List Int).getD k 0))) rfl rfl rfl rfl rfl rfl hk
 refine ⟨(show 6 <= 1000 by decide),_,h0,_,hg,?_⟩;refine ⟨_,h1,_,h0,_,rfl,_,rfl,⟨_,rfl⟩,by decide,_,hN,le_trans (show _ <= 1000 by simpa using hl) (show 1000 <= sizeLine by decide),?_⟩;refine aJ (Jo ..) ?_;refine ⟨_,_,bE _ _ [],u3 _,?_⟩;refine ⟨by decide,?_⟩;have e : (G5 N k : Int) = (([1,0,2,0,1,0] : List Int).getD k 0 + (sL N (some (k : Int)) none (some 6)).sum) % 3 := by
   skip
   exact Int.toNat_of_nonneg (Int.emod_nonneg _ (by decide))
 refine cE e ?_;exact hP _
theorem Lu (N : List Int) (k : Nat) : G5 N k < 3 := by
 unfold G5;have h1 := Int.emod_lt_of_pos (([1,0,2,0,1,0] : List Int).getD k 0 + (sL N (some (k : Int)) none (some 6)).sum) (show (0 : Int) < 3 by decide);have h2 := Int.emod_nonneg (([1,0,2,0,1,0] : List Int).getD k 0 + (sL N (some (k : Int)) none (some 6)).sum) (show (3 : Int) ≠ 0 by decide)
 lia
noncomputable def sF (tot : Int) : List Nat := cJ.getD ((tot / 4) % 6).toNat []
theorem G6 (tot : Int) (H : List MO) : gA (.tup [.str "abc",.str "*?[",.str "]-^",.str "\\&~",.str "|.#",.str "^aA"]) (.int ((tot / 4) % 6)) H = some (.str (S (sF tot))) /\ sF tot ∈ cJ := by
 have h1 := Int.emod_lt_of_pos (tot / 4) (show (0 : Int) < 6 by decide);obtain ⟨j,hj⟩ : ∃ j : Nat,(tot / 4) % 6 = (j : Int) := ⟨_,(Int.toNat_of_nonneg (Int.emod_nonneg (tot / 4) (show (6 : Int) ≠ 0 by decide))).symm⟩;unfold sF;rw [hj,Int.toNat_natCast];refine Ro ?_ ?_ ?_ ?_ ?_ ?_ (show j < 6 from Int.ofNat_lt.mp (hj ▸ h1))
 · exact ⟨fK (k := 0) rfl,by decide⟩
 · exact ⟨fK (k := 1) rfl,by decide⟩
 · exact ⟨fK (k := 2) rfl,by decide⟩
 · exact ⟨fK (k := 3) rfl,by decide⟩
 · exact ⟨fK (k := 4) rfl,by decide⟩
 · exact ⟨fK (k := 5) rfl,by decide⟩
theorem gJ {al : List Nat} (h : al ∈ cJ) : al.length = 3 := by
 simp only [cJ,mem_cons,not_mem_nil,or_false] at h;rcases h with rfl | rfl | rfl | rfl | rfl | rfl <;> rfl
theorem kB {t : Tg} {f : WT} {e : WE} {chk : List MO -> Prop} {ρ : bI} {P : cM} {H : List MO} {p : MV -> Bool} {g : MV -> MV} {xs : List MV} {cap : List (Option Nat)} (R : bI -> Prop) (hR : R (mV cap ρ)) (hchk : ∀ H',bT [] H H' -> chk H') (hl : xs.length < 1000000) (hx : ∀ x ∈ xs,∀ aY,R aY -> ∃ ρ',t.bind x aY = some ρ' /\ R ρ' /\ (∀ H',bT [] H H' -> ∀ Q : Bool -> List MO -> Prop,(∀ E,Q (p x) (H' ++ E)) -> f ρ' H' Q) /\ (p x = true -> ∀ H',bT [] H H' -> ∀ Q : MV -> List MO -> Prop,(∀ E,Q (g x) (H' ++ E)) -> e ρ' H' Q)) (hP : ∀ (a : Nat) (H' : List MO),bT [] H H' -> H'[a]? = some (.list ((xs.filter p).map g)) -> P (.ref a) H') : fE t f e chk H.length (fun H'' => P (.ref H.length) H'') xs (mV cap ρ) (H ++ [.list []]) :=
 iU (wi := fun _ H Q => Q xs chk H) R hR (fun Q hQ => q0 (Q := fun x H => Q x chk H) hQ) hchk hl hx hP
theorem e5 {i : Nat} {w : WE} {r : WS} {ρ : bI} {H : List MO} {P : d5} (h : w ρ H fun v H' => r (upd ρ i v) H' P) : aI (aW i w) r ρ H P := h
theorem u4 {sa : Addr} {ns : List Int} {r : WS} {ρ : bI} {H : List MO} {P : d5} (h0 : ρ 0 = some (.val (.ref sa))) (hr : ∀ (nb : Nat) (N : List Int) (H' : List MO),N.length <= 63 -> H'[nb]? = some (.list (eL N)) -> r (upd ρ 1 (.ref nb)) H' P) : aI (F0 sa ns) r ρ H P := by
 refine e5 ?_;refine ⟨h0,(ns.take 63).map MV.int,bE _ _ [],le_trans (show _ <= 63 by exact lm (length_take_le ..)) (show 63 <= sizeLine by decide),?_⟩;refine kB (P := fun v H' => r (upd ρ 1 v) H' P) (xs := (ns.take 63).map MV.int) (cap := [none]) (ρ := ρ) (fun _ => True) trivial (p := fun _ => true) (g := fun v => match v with | .int x => .int (x % 1000000) | v => v) (fun H' hX => hX _ _ not_mem_nil (bE _ _ [])) (by simp;exact lt_of_le_of_lt (Nat.min_le_left _ _) (by decide)) (fun x hx aY _ => ?_) (fun a H' hX ha => ?_)
 · obtain ⟨y,_,rfl⟩ := mem_map.mp hx;refine ⟨_,rfl,trivial,fun H' _ Q hQ => q0 hQ,fun _ H' _ Q hQ => ?_⟩;refine ⟨_,rfl,⟨rfl,rfl,?_⟩⟩;exact ⟨by decide,q0 hQ⟩
 · refine hr a ((ns.take 63).map (· % 1000000)) H' (by exact lm (length_take_le ..)) ?_;refine aJ ha ?_;congr 2;refine aJ (filter_eq_self.mpr (fun _ _ => rfl)) (aJ map_map ?_);show _ = List.map MV.int _;refine aJ map_map ?_;rfl
theorem zQ {nb : Nat} {N : List Int} {sa : Addr} {ns : List Int} {r : WS} {ρ : bI} {H : List MO} {P : d5} (h1 : ρ 1 = some (.ref nb)) (hN : H[nb]? = some (.list (eL N))) (hr : r (upd ρ 2 (.int N.sum)) H P) : aI (F3 sa ns) r ρ H P := e5 (G4 h1 hN hr)
theorem zR {tot : Int} {sa : Addr} {ns : List Int} {r : WS} {ρ : bI} {H : List MO} {P : d5} (h2 : ρ 2 = some (.int tot)) (hr : r (upd ρ 3 (.str (S (sF tot)))) H P) : aI (F5 sa ns) r ρ H P := by
 refine e5 ?_;refine ⟨(show 6 <= 1000 by decide),_,h2,⟨by decide,by decide,⟨by decide,_,(G6 tot H).1,hr⟩⟩⟩
theorem u5 {nb : Nat} {N : List Int} {sa : Addr} {ns : List Int} {r : WS} {ρ : bI} {H : List MO} {P : d5} (h1 : ρ 1 = some (.ref nb)) (hN : H[nb]? = some (.list (eL N))) (hl : N.length <= 63) (hr : ∀ (a : Nat) (H' : List MO),H'[a]? = some (.list (a8 ((List.range 6).map (G5 N)))) -> r (upd ρ 4 (.ref a)) H' P) : aI (F6 sa ns) r ρ H P := by
 refine e5 ?_;refine ⟨0,6,1,rfl,by decide,by decide,(by rw [show (6 : Int) = ((6 : Nat) : Int) from rfl,eM];decide),?_⟩;refine kB (P := fun v H' => r (upd ρ 4 v) H' P) (xs := eT 0 6 1) (cap := [none,some 1]) (ρ := ρ) (fun ρ => ρ 1 = some (.ref nb)) h1 (p := fun _ => true) (g := fun v => match v with | .int k => .int (G5 N k.toNat : Int) | v => v) (fun _ _ => trivial) (by rw [show (6 : Int) = ((6 : Nat) : Int) from rfl,eM];decide) (fun x hx aY h => ?_) (fun a H' hX ha => ?_)
 · replace hx := (eM ..) ▸ (show (6 : Int) = ((6 : Nat) : Int) from rfl ..) ▸ hx
   refine bP fun no => ?_;obtain ⟨k,hk,rfl⟩ := mem_map.mp hx;refine no ?_;refine ⟨_,rfl,h,fun H' _ Q hQ => q0 hQ,fun _ H' hX Q hQ => ?_⟩;exact Jp (nb := nb) (k := k) (N := N) (mem_range.mp hk) rfl h (hX nb _ not_mem_nil hN) (by exact le_trans ‹_› (by decide)) hQ
 · refine hr a H' ?_;refine aJ ha ?_;rfl
theorem Jq {j : Nat} {l : List (List Nat)} {H : List MO} {P : cM} (hj : H[j]? = some (.list (bR l))) (hl : (l.map List.length).sum <= 1000000) (hP : P (.str (S l.flatten)) H) : hM [.str "",.ref j] H P := by
 refine ⟨bR l,l.map S,hj,gS l,?_,?_⟩
 · have : ((l.map S).map fun y => y.length + (ofString "").length) = l.map List.length := by
     refine aJ map_map ?_;apply map_congr_left;intro x _;show (S x).length + 0 = x.length;refine aJ (bX ..) ?_;rfl
   refine aJ this ?_;exact hl
 · have : Builtin.Str.glued "" (l.map S) = S l.flatten := nK l;refine aJ this ?_;exact hP
theorem Kq (l : List Nat) : (l.map fun d => [d]).flatten = l := by
 induction l with
 | nil => rfl
 | cons a l ih => simp [ih]
theorem Ql (l : List Nat) : ((l.map fun d => [d]).map List.length).sum = l.length := by
 rw [<- length_flatten,Kq]
theorem D1 {a : Nat} {tot : Int} {al L : List Nat} {sa : Addr} {ns : List Int} {r : WS} {ρ : bI} {H : List MO} {P : d5} (h2 : ρ 2 = some (.int tot)) (h3 : ρ 3 = some (.str (S al))) (h4 : ρ 4 = some (.ref a)) (hL : H[a]? = some (.list (a8 L))) (hl : L.length = 6) (hal : al.length = 3) (hL3 : ∀ x ∈ L,x < 3) (hr : ∀ (H' : List MO),r (upd ρ 5 (.str (S ((L.take (6 - (tot % 4).toNat)).map fun x => al.getD x 0)))) H' P) : aI (F7 sa ns) r ρ H P := by
 have q1 := Int.emod_lt_of_pos tot (show (0 : Int) < 4 by decide);have q2 := Int.emod_nonneg tot (show (4 : Int) ≠ 0 by decide);have em : (6 : Int) - tot % 4 = ((6 - (tot % 4).toNat : Nat) : Int) := by lia
 generalize 6 - (tot % 4).toNat = m at em hr;have esl : sL (a8 L) none (some (6 - tot % 4)) none = a8 (L.take m) := by refine aJ (jQ ..) (aJ (em ..) (aJ (iZ ..) ?_));exact (map_take ..).symm
 refine e5 ⟨.str,?_⟩;refine ⟨_,h4,_,h2,⟨by decide,_,rfl,by decide,_,hL,le_trans (show _ <= 6 by simp [hl]) (show 6 <= sizeLine by decide),?_⟩⟩;refine aJ esl ?_;refine ⟨_,bE _ _ [],le_trans (show _ <= 6 by simp;lia) (show 6 <= sizeLine by decide),?_⟩;refine kB (P := fun v H' => hM [.str "",v] H' fun v H' => r (upd ρ 5 v) H' P) (xs := a8 (L.take m)) (cap := [none,some 3]) (ρ := ρ) (fun ρ => ρ 1 = some (.str (S al))) h3 (p := fun _ => true) (g := fun v => match v with | .int k => .str (S [al.getD k.toNat 0]) | v => v) (fun H' hX => hX _ _ not_mem_nil (bE _ _ [])) (by simp;lia) (fun x hx aY h => ?_) (fun b H' hX hb => ?_)
 · obtain ⟨k,hk,rfl⟩ := mem_map.mp hx;refine ⟨_,rfl,h,fun H' _ Q hQ => q0 hQ,fun _ H' hX Q hQ => ?_⟩;have hk3 := hL3 k (mem_of_mem_take hk);exact ⟨_,h,_,rfl,_,bM (k := k) (c := al.getD k 0) (by refine aJ getD_eq_getElem?_getD (aJ (getElem?_eq_getElem (by exact lt_of_lt_of_le ‹_› (le_of_eq (Eq.symm ‹_›)))) ?_);rfl),q0 hQ⟩
 · have e : ((a8 (L.take m)).filter fun _ => true).map (fun v => match v with | .int k => .str (S [al.getD k.toNat 0]) | v => v) = bR (((L.take m).map fun x => al.getD x 0).map fun d => [d]) := by
     refine aJ (filter_eq_self.mpr (fun _ _ => rfl)) (aJ map_map (aJ map_map ?_));show _ = List.map _ _;refine aJ map_map ?_;rfl
   replace hb := e ▸ hb
   refine Jq hb (by refine aJ (Ql ..) ?_;simp;lia) ?_;refine aJ (Kq ..) ?_;exact hr H'
theorem D2 {t : List Nat} {sa : Addr} {ns : List Int} {r : WS} {ρ : bI} {H : List MO} {P : d5} (h5 : ρ 5 = some (.str (S t))) (hl : t.length <= 400) (hr : ∀ (a : Nat) (H' : List MO),H'[a]? = some (.list ((List.range t.length).map (el t))) -> r (upd ρ 6 (.ref a)) H' P) : aI (yS sa ns) r ρ H P := by
 refine e5 ?_;refine ⟨_,h5,_,_,_,rfl,by decide,by refine aJ (bX ..) ?_;exact lt_of_le_of_lt ‹_› (by decide),(by refine aJ (bX ..) (aJ (eM ..) ?_);exact lm (O7 (le_trans ‹_› (by decide)))),?_⟩;refine kB (P := fun v H' => r (upd ρ 6 v) H' P) (xs := eT 0 ((S t).length : Int) 1) (cap := [none,some 5]) (ρ := ρ) (fun ρ => ρ 1 = some (.str (S t))) h5 (p := fun _ => true) (g := fun v => match v with | .int k => el t k.toNat | v => v) (fun _ _ => trivial) (by refine aJ (bX ..) (aJ (eM ..) ?_);exact Ht (lt_of_le_of_lt (O7 ‹_›) (by decide))) (fun x hx aY h => ?_) (fun b H' hX hb => ?_)
 · replace hx := (eM ..) ▸ (bX ..) ▸ hx
   refine bP fun no => ?_;obtain ⟨k,hk,rfl⟩ := mem_map.mp hx;refine no ?_;refine ⟨_,rfl,h,fun H' _ Q hQ => q0 hQ,fun _ H' hX Q hQ => ?_⟩;refine ⟨_,h,_,rfl,_,rfl,rfl,?_⟩;refine aJ (dQ ..) (aJ (wQ ..) ?_);refine ⟨rfl,_,rfl,_,rfl,(show 2 <= 1000 by decide),?_⟩;exact q0 hQ
 · refine hr b H' ?_;rw [hb,bX,eM,filter_eq_self.mpr (fun _ _ => rfl),map_map];rfl
theorem u6 {a : Nat} {t : List Nat} {sa : Addr} {ns : List Int} {r : WS} {ρ : bI} {H : List MO} {P : d5} (h6 : ρ 6 = some (.ref a)) (hl : t.length <= 400) (ha : H[a]? = some (.list ((List.range t.length).map (el t)))) (hr : ∀ (H' : List MO),H'[a]? = some (.list ((eK (c9 t) (List.range t.length) (t.length / 2)).map (el t))) -> r ρ H' P) : aI (yT sa ns) r ρ H P := by
 refine ⟨_,h6,uP ha (by exact O7 (le_trans ‹_› (by decide))) (fun x hx => mem_range.mp hx) ?_⟩;refine aJ length_range ?_;exact hr _ (b9 ha _)
theorem D3 {a : Nat} {t xs : List Nat} {sa : Addr} {ns : List Int} {r : WS} {ρ : bI} {H : List MO} {P : d5} (h6 : ρ 6 = some (.ref a)) (hl : xs.length = t.length) (hl4 : t.length <= 400) (hx : ∀ x ∈ xs,x < t.length) (ha : H[a]? = some (.list (xs.map (el t)))) (hr : ∀ (o s : Nat) (H' : List MO),H'[o]? = some (.list (a8 (jJ (c9 t) (t.length + 1) xs [] []).1)) -> H'[s]? = some (.list (a8 (jJ (c9 t) (t.length + 1) xs [] []).2)) -> r (eI ρ [7,8] [.ref o,.ref s]) H' P) : aI (yU sa ns) r ρ H P := by
 refine ⟨_,h6,Dd ha (by (simp [*];done)) hx fun o s H' h1 h2 _ => ?_⟩;rw [hl] at h1 h2;exact ⟨_,rfl,rfl,hr o s H' h1 h2⟩
theorem xA : ∀ l : List Nat,eP (a8 l) (a8 l) = some true := by
 intro l;induction l with
 | nil =>
   exact rfl
 | cons a l ih =>
   show (match iY (.int (a : Int)) (.int (a : Int)),eP (a8 l) (a8 l) with | some a,some b => some (a && b) | _,_ => none) = some true;refine aJ ih ?_;simp [iY]
theorem G7 : ∀ l : List (List Nat),eP (bR l) (bR l) = some true := by
 intro l;induction l with
 | nil =>
   exact rfl
 | cons a l ih =>
   show (match iY (.str (S a)) (.str (S a)),eP (bR l) (bR l) with | some a,some b => some (a && b) | _,_ => none) = some true;refine aJ ih ?_;simp [iY]
theorem u7 {H : List MO} {i j : Nat} {xs : List MV} (h1 : H[i]? = some (.list xs)) (h2 : H[j]? = some (.list xs)) (h : eP xs xs = some true) : lM (.ref i) (.ref j) H = some false := by
 unfold lM dH;simp [h1,h2,h]
section
variable {sa : Addr} {ns : List Int} {r : WS} {ρ : bI} {H : List MO} {P : d5} {t : List Nat}
theorem xB {o : Nat} {O : List Nat} (h5 : ρ 5 = some (.str (S t))) (h7 : ρ 7 = some (.ref o)) (ho : H[o]? = some (.list (a8 O))) (hl : t.length <= 30) (hp : O.Perm (List.range t.length)) (hs : O.Pairwise fun x y => t.drop x < t.drop y) (hr : ∀ E,r ρ (H ++ E) P) : aI (yV sa ns) r ρ H P := by
 refine ⟨_,h7,_,h5,0,(t.length : Int),1,?_,by decide,by exact lt_of_le_of_lt ‹_› (by decide),t.length,.str (S t),(fun k => S (t.drop k)),O,rfl,rfl,rfl,hl,h5,fun k hk H' => ?_,hp,hs.imp fun h => by exact h,false,u7 (aR ho _) (bE _ _ []) (xA O),hr _⟩
 · show tU [.int ((S t).length : Int)] = _;refine aJ (bX ..) ?_;rfl
 · refine ⟨_,rfl,_,rfl,_,rfl,rfl,?_⟩;refine aJ (dQ ..) (aJ (wQ ..) ?_);exact ⟨rfl,rfl⟩
theorem zS {s : Nat} {St : List Nat} (h5 : ρ 5 = some (.str (S t))) (h8 : ρ 8 = some (.ref s)) (hs : H[s]? = some (.list (a8 St))) (hl : St.length <= 400) (hz : ∀ x ∈ d6 t.length St,0 < x) (hr : ∀ (a : Nat) (H' : List MO),bT [] H H' -> H'[a]? = some (.list (a8 (d6 t.length St))) -> r (upd ρ 9 (.ref a)) H' P) : aI (yW sa ns) r ρ H P := by
 have hsl : s < H.length := (List.getElem?_eq_some_iff.mp hs).1;refine e5 ?_;refine ⟨_,h8,_,h5,(show 1 <= 1000 by decide),_,h8,_,_,bE _ _ [],aR hs _,le_trans (show _ <= 1000 by simp;exact le_trans (add_le_add_left ‹_› _) (by decide)) (show 1000 <= sizeLine by decide),?_⟩;refine ⟨s,_,a8 St,_,St.map (fun k : Nat => (k : Int)),(t.length :: St).map (fun k : Nat => (k : Int)),rfl,by exact O9 ‹_›,aR (aR hs _) _,bE _ _ [],?_,?_,by exact lm (le_trans ‹_› (by decide)),by exact Ht (lt_of_le_of_lt ‹_› (by decide)),?_⟩
 · refine aJ (mD ..) ?_;exact u3 _
 · skip
   refine aJ (bX ..) (aJ (mD ..) ?_);exact u3 (((t.length : Nat) : Int) :: St.map fun k : Nat => (k : Int))
 · refine hr _ _ (fun i o _ e => aR (aR (aR e _) _) _) ?_;refine aJ (bE ..) ?_;congr 2;have : ∀ l : List (Nat × Nat),(∀ x ∈ l.map fun p => p.2 - p.1,0 < x) -> (l.map (Prod.map (fun k : Nat => (k : Int)) (fun k : Nat => (k : Int)))).map (fun p => MV.int (p.2 - p.1)) = a8 (l.map fun p => p.2 - p.1) := fun l hl => by
     refine aJ map_map ?_;show _ = List.map _ (List.map _ l);refine aJ map_map ?_;refine map_congr_left fun p hp => ?_;have := hl _ (mem_map.mpr ⟨p,hp,rfl⟩);show MV.int ((p.2 : Int) - (p.1 : Int)) = MV.int ((p.2 - p.1 : Nat) : Int);congr 1
     lia
   unfold d6 at hz ⊢;refine aJ List.zip_map ?_;exact this _ hz
noncomputable def oF (tot : Int) : Nat := ((tot / 20) % 3).toNat
theorem zT (tot : Int) : (tot / 20) % 3 = (oF tot : Int) /\ oF tot < 3 := by
 have h1 := Int.emod_lt_of_pos (tot / 20) (show (0 : Int) < 3 by decide);have h2 := Int.emod_nonneg (tot / 20) (show (3 : Int) ≠ 0 by decide);unfold oF
 lia
theorem zU {s : Nat} {z : List Nat} {tot : Int} (h2 : ρ 2 = some (.int tot)) (h9 : ρ 9 = some (.ref s)) (hs : H[s]? = some (.list (a8 z))) (hz : z ≠ []) (hl : z.length <= 400) (hr : ∀ (a b : Nat) (H' : List MO),bT [] H H' -> H'[a]? = some (.list (a8 (zA (oF tot) z))) -> H'[b]? = some (.list (a8 (wT (oF tot) z))) -> r (eI ρ [10,11] [.ref a,.ref b]) H' P) : aI (uE sa ns) r ρ H P := by
 refine ⟨_,h9,_,h2,⟨by decide,by decide,by decide,?_⟩⟩
 skip
 refine aJ ((zT tot).1) ?_;exact zB hs hz (by exact le_trans ‹_› (by decide)) (zT tot).2 fun a b H' hX h1 h2 => ⟨_,rfl,rfl,hr a b H' hX h1 h2⟩
theorem D4 {s a : Nat} {z row : List Nat} {due : List Nat} (h9 : ρ 9 = some (.ref s)) (hs : H[s]? = some (.list (a8 z))) (h10 : ρ 10 = some (.ref a)) (ha : H[a]? = some (.list (a8 row))) (hz : row[0]? ≠ some 0) (hl : z.length <= 400) (hd : gY (row.map fun k : Nat => (k : Int)) none (z.length + 2) = due.map fun k : Nat => (k : Int)) (hr : ∀ (q : Nat) (H' : List MO),bT [] H H' -> H'[q]? = some (.list (a8 due)) -> r (upd ρ 12 (.ref q)) H' P) : aI (uF sa ns) r ρ H P := by
 refine e5 ?_;refine ⟨_,h10,_,h9,_,hs,?_⟩;show gN [.ref a,.int ((((a8 z).length : Nat) : Int) + 2)] _ _;refine aJ (by simp : (((a8 z).length : Nat) : Int) + 2 = ((z.length + 2 : Nat) : Int)) ?_;refine De (ns := row.map fun k : Nat => (k : Int)) (by rw [ha,mD]) ?_ (succ_pos _) (by exact le_trans (Nat.add_le_add_right ‹_› _) (by decide)) fun q H' hX hq => hr q H' hX ?_
 · refine aJ getElem?_map ?_;intro h;obtain ⟨k,h1,h2⟩ := Option.map_eq_some_iff.mp h;have : k = 0 := by lia
   subst this;exact hz h1
 · rw [hq,hd,mD]
theorem zV {q b a : Nat} {due row : List Nat} (h12 : ρ 12 = some (.ref q)) (hq : H[q]? = some (.list (a8 due))) (h11 : ρ 11 = some (.ref b)) (hb : H[b]? = some (.list (a8 due))) (h10 : ρ 10 = some (.ref a)) (ha : H[a]? = some (.list (a8 row))) (hl : row.length <= 1000) (hr : ∀ H',bT [] H H' -> r ρ H' P) : aI (uG sa ns) r ρ H P := by
 refine ⟨_,h12,_,h11,false,u7 hq hb (xA due),rfl,?_⟩;refine ⟨(show 1 <= 1000 by decide),_,h10,_,_,bE _ _ [],aR ha _,le_trans (show _ <= 1001 by simp;exact add_le_add_left ‹_› _) (show 1001 <= sizeLine by decide),?_⟩;refine ⟨_,_,(0 :: row.map fun k : Nat => (k : Int)),rfl,?_,rfl,hr _ (fun i o _ e => aR (aR (aR e _) _) _)⟩;refine aJ (bE ..) (aJ (mD ..) ?_);rfl
theorem G8 {s q : Nat} {z due : List Nat} (h5 : ρ 5 = some (.str (S t))) (h9 : ρ 9 = some (.ref s)) (hs : H[s]? = some (.list (a8 z))) (h12 : ρ 12 = some (.ref q)) (hq : H[q]? = some (.list (a8 due))) (hz : ∀ x ∈ z,0 < x) (hl : due.length <= 1000) (hd : due.take z.length = z) (hr : ∀ (p : Nat) (H' : List MO),bT [] H H' -> H'[p]? = some (.list (bR (gP t z))) -> r (upd ρ 13 (.ref p)) H' P) : aI (uH sa ns) r ρ H P := by
 refine e5 ?_;have e : sL (a8 due) none (some (((a8 z).length : Nat) : Int)) none = a8 z := by
   refine aJ (jQ ..) (aJ (iZ ..) (aJ (length_map ..) ?_))
   skip
   exact cE map_take (aJ hd rfl)
 have hzl : z.length <= due.length := by refine cE hd ?_;simp;exact min_le_right _ _
 refine ⟨_,h5,_,h12,_,h9,_,hs,_,rfl,by decide,_,hq,le_trans (show _ <= 1000 by simpa using hl) (show 1000 <= sizeLine by decide),?_⟩;refine aJ e ?_;exact Gf (bE _ _ []) hz (by solve_by_elim (maxDepth := 4) [le_trans,le_of_lt,lt_of_lt_of_le,lt_of_le_of_lt,le_add_right,lt_succ_self]) fun p H' hX hp => hr p H' (fun i o hi e => hX i o hi (aR e _)) hp
theorem zW {p : Nat} {ps : List (List Nat)} (h5 : ρ 5 = some (.str (S t))) (h13 : ρ 13 = some (.ref p)) (hp : H[p]? = some (.list (bR ps))) (hl : t.length <= 400) (he : fY (t.length + 1) t = ps) (hr : ∀ H',bT [] H H' -> r ρ H' P) : aI (uI sa ns) r ρ H P := by
 refine ⟨_,h13,_,h5,zD hl fun q H' hX hq => ?_⟩;rw [he] at hq;refine ⟨false,u7 (hX p _ not_mem_nil hp) hq (G7 ps),?_⟩;refine ⟨_,h5,_,h5,fL (by skip;(simp;done)) fun H'' hX2 => ?_⟩;exact ⟨true,rfl,hr H'' (hX.trans hX2)⟩
end
noncomputable def fC (at_ : Int) : Nat := (at_ % 4).toNat
theorem qX (at_ : Int) : ∀ k : Nat,(at_ + (k : Int)) % 4 = (((fC at_ + k) % 4 : Nat) : Int) := fun k => by
 unfold fC;rw [Int.natCast_emod,Int.natCast_add,Int.toNat_of_nonneg (Int.emod_nonneg at_ (by decide))];exact (Int.emod_add_emod at_ 4 k).symm
theorem xC {al : List Nat} (ha : al ∈ cJ) (a : Nat) (w : List Nat) : (eB al a 0 w).flatten.length <= 20 * w.length := by
 refine aJ length_flatten ?_;exact sY (by refine aJ (gJ ha) ?_;decide) a w 0
theorem s7 {al w t : List Nat} {a j : Nat} {ρ : bI} {H : List MO} {P : cM} (ha : al ∈ cJ) (hg : ρ 17 = some (.str (S (eB al a 0 w).flatten))) (ht : ρ j = some (.str (S t))) (hn : w ≠ []) (hw : ∀ c ∈ w,c ∈ al) (hta : ∀ c ∈ t,c ∈ al) (hl : w.length <= 6) (hP : ∀ H',bT [] H H' -> P (.bool (dI t (dB [w,w]) 0)) H') : aV cS (aH (aV cU (aH (aX bD (aX bD (aE 17) (wK (.str "*"))) (aE 17)) aL)) (aH (aE j) aL)) ρ H P := by
 have hgl := xC ha a w;refine ⟨_,hg,?_⟩
 (first | dsimp only [wK] | skip)
 refine add_str (b := [42]) (by simp only [length_cons,length_nil];lia) ?_;refine ⟨_,hg,?_⟩;refine add_str (by simp only [length_append,length_cons,length_nil];lia) ?_;refine qV (al := al) (a := a) (k := 0) (w0 := w) (ws := [w]) ha (by decide) (by simp) hn hw (fun v hv => by refine aJ (mem_singleton.mp hv) ?_;exact ⟨hn,hw⟩) (by simp;lia) (succ_pos _) fun H' hX => ?_;refine ⟨_,ht,?_⟩;exact qW (al := al) (a := a) (w0 := w) (ws := [w]) ha hw (fun v hv => by refine aJ (mem_singleton.mp hv) ?_;exact ⟨hn,hw⟩) hta (by simp;lia) (succ_pos _) fun H'' hX2 => hP H'' (hX.trans hX2)
theorem s8 {a b : List Nat} (h : ltb a b = true) : ltb b a = false := by
 rw [gE] at h ⊢;simp only [decide_eq_true_eq,decide_eq_false_iff_not] at h ⊢;exact List.lt_asymm h
theorem u8 {t : WT} {a b : WS} {ρ : bI} {H : List MO} {P : d5} (h : t ρ H (Q5 a b ρ P)) : bB t a b ρ H P := h
theorem qY {p : PC} {a b : WE} {ρ : bI} {H : List MO} {P : Bool -> List MO -> Prop} (h : a ρ H (k2 (pC p P) b ρ)) : aN p a b ρ H P := h
noncomputable abbrev Lv : WS := (aI (bB (eR (cD (aV cT (aH (aE 15) (aH (fZ (aE 15) (d8 (aE 16)) kF) (aH (dO (wK (.int 1))) aL)))))) (aI (dG (wK (.bool false)))
 aK) aK)
 (aI (aW 17 (aV eA (aH (fZ (aE 15) kF (d8 (aE 16))) (aH (aE 3) (aH (aE 2) aL)))))
 (aI (bB (aN d4 (aV cS (aH (aV cU (aH (aX bD (aX bD (aE 17) (wK (.str "*"))) (aE 17)) aL)) (aH (aE 15) aL))) (wK (.bool false))) (aI (dG (wK (.bool false)))
 aK) aK)
 aK)))
theorem zY {al p : List Nat} {tot : Int} {P : d5} (ha : al ∈ cJ) (hp : ∀ c ∈ p,c ∈ al) (hl : p.length <= 6) : ∀ (zs : List Nat) (ρ : bI) (H : List MO),(∀ z ∈ zs,0 < z /\ z < p.length /\ ltb p (p.drop z) = true /\ dI p (dB [p.take z,p.take z]) 0 = false) -> ρ 15 = some (.str (S p)) -> ρ 3 = some (.str (S al)) -> ρ 2 = some (.int tot) -> (∀ ρ' H',(∀ i,i < 16 -> ρ' i = ρ i) -> bT [] H H' -> P .next ρ' H') -> cR (.nm 16) Lv (fun _ => True) P (a8 zs) ρ H := by
 intro zs;induction zs with
 | nil =>
   intro ρ H hz h15 h3 h2 hP;exact ⟨trivial,hP ρ H (fun _ _ => rfl) .refl⟩
 | cons z zs ih =>
   intro ρ H hz h15 h3 h2 hP;refine bP fun no => ?_;obtain ⟨z0,z1,z2,z3⟩ := hz z mem_cons_self;refine no ?_;refine ⟨trivial,_,rfl,?_⟩;refine ⟨_,h15,_,h15,_,rfl,_,rfl,rfl,?_⟩;refine aJ (dQ ..) (aJ (wQ ..) ?_);refine ⟨_,rfl,?_⟩;refine fL (by unfold uR;refine aJ z2 (aJ (s8 z2) ?_);rfl) fun H' hX => ?_;refine ⟨true,rfl,?_⟩;refine ⟨_,h15,_,rfl,_,rfl,rfl,?_⟩;refine aJ (dQ ..) (aJ (iZ ..) ?_);refine ⟨_,h3,_,h2,nN (a0 := fC tot) (by refine aJ (gJ ha) ?_;decide) (by simp;exact le_trans (min_le_right _ _) (le_trans ‹_› (by decide))) (qX tot) fun H'' hX2 => ?_⟩;dsimp only [Eu,Ig];refine mI (u8 (qY (s7 (j := 15) (a := fC tot) (w := p.take z) (t := p) ha rfl h15 ?_ (fun c hc => hp c (mem_of_mem_take hc)) hp (by exact le_trans (length_take_le' ..) ‹_›) fun H3 hX3 => ?_)))
   · intro e;rcases take_eq_nil_iff.mp e with e | e
     · exact absurd ‹_› (ne_of_gt ‹_›)
     · replace z1 := e ▸ z1;simp at z1
   · refine aJ z3 ?_;refine ⟨false,rfl,?_⟩;refine ih (upd (upd ρ 16 (.int (z : Int))) 17 (.str (S (eB al (fC tot) 0 (p.take z)).flatten))) H3 (fun z h => hz z (mem_cons_of_mem _ ‹_›)) h15 h3 h2 fun ρ' H4 k hX4 => hP ρ' H4 (fun i hi => ?_) (((hX.trans hX2).trans hX3).trans hX4);refine aJ (k i hi) ?_;simp [upd,show i ≠ 16 by exact ne_of_lt ‹_›,show i ≠ 17 by exact ne_of_lt (lt_of_lt_of_le ‹_› (by decide))]
noncomputable abbrev N5 : WS := (aI (aW 15 (a7 (aE 13) (aE 14)))
 (aI (bB (dF (aN rL (aE 14) (wK (.int 0))) (eR (cD (aV cT (aH (a7 (aE 13) (aX fN (aE 14) (wK (.int 1)))) (aH (aE 15) (aH (J8 (aN dH (a7 (aE 13) (aX fN (aE 14) (wK (.int 1)))) (aE 15)) (wK (.int 0)) (wK (.int 1))) aL))))))) (aI (dG (wK (.bool false)))
 aK) aK)
 (aI (kI (.nm 16) (dJ (dZ (aH (wK (.int 1)) (aH (aV cZ (aH (aE 15) aL)) aL)))) Lv)
 aK)))
structure zZ (al p : List Nat) : Prop where
 al : ∀ c ∈ p,c ∈ al
 ne : p ≠ []
 le : p.length <= 6
 zs : ∀ z,0 < z -> z < p.length -> ltb p (p.drop z) = true /\ dI p (dB [p.take z,p.take z]) 0 = false
theorem s9 {l : List (List Nat)} {k : Nat} {x : List Nat} (h : l[k]? = some x) : (bR l)[k]? = some (.str (S x)) := by
 simp [h]
theorem z9 {al : List Nat} {tot : Int} {q : Nat} {ps : List (List Nat)} {P : d5} (ha : al ∈ cJ) (hps : ∀ p ∈ ps,zZ al p) (hst : ∀ (k : Nat) (a b : List Nat),ps[k]? = some a -> ps[k + 1]? = some b -> (a == b || ltb b a) = true) : ∀ (rest pre : List (List Nat)) (ρ : bI) (H : List MO),ps = pre ++ rest -> H[q]? = some (.list (bR ps)) -> ρ 13 = some (.ref q) -> ρ 3 = some (.str (S al)) -> ρ 2 = some (.int tot) -> (∀ ρ' H',(∀ i,i < 14 -> ρ' i = ρ i) -> bT [] H H' -> P .next ρ' H') -> cR (.nm 14) N5 (fun _ => True) P (a8 (List.range' pre.length rest.length)) ρ H := by
 intro rest;induction rest with
 | nil =>
   intro pre ρ H hp hq h13 h3 h2 hP;exact ⟨trivial,hP ρ H (fun _ _ => rfl) .refl⟩
 | cons p rest ih =>
   intro pre ρ H hp hq h13 h3 h2 hP;have hg : ps[pre.length]? = some p := by refine aJ hp ?_;exact aM
   have po := hps p (mem_of_getElem? hg);refine ⟨trivial,_,rfl,?_⟩;refine ⟨_,h13,_,rfl,_,b8 hq (s9 hg),?_⟩;have rest' : ∀ (H₁ : List MO),bT [] H H₁ -> aI (kI (.nm 16) (dJ (dZ (aH (wK (.int 1)) (aH (aV cZ (aH (aE 15) aL)) aL)))) Lv) aK (upd (upd ρ 14 (.int (pre.length : Int))) 15 (.str (S p))) H₁ (pJ (cR (.nm 14) N5 (fun _ => True) P (a8 (List.range' (pre.length + 1) rest.length))) P) := fun H₁ hX => by
     refine ⟨_,rfl,_,_,_,rfl,by decide,by refine aJ (bX ..) ?_;have := po.le;exact lt_of_le_of_lt ‹_› (by decide),?_⟩;have er : eT 1 ((S p).length : Int) 1 = a8 ((List.range (p.length - 1)).map fun i => i + 1) := by exact aJ (bX ..) (aJ (o6 ..) rfl)
     refine ⟨(by refine aJ er ?_;simp;have := po.le;exact le_trans ‹_› (by decide) : (eT 1 ((S p).length : Int) 1).length <= 1000000),?_⟩
     skip
     refine aJ er ?_;refine zY (p := p) (tot := tot) ha po.al po.le _ _ H₁ (fun z hz => ?_) rfl h3 h2 fun ρ' H' k hX2 => ?_
     · obtain ⟨i,hi,rfl⟩ := mem_map.mp hz;have := mem_range.mp hi;exact ⟨by exact succ_pos _,by lia,po.zs (i + 1) (succ_pos _) (by lia)⟩
     · have e : (pre ++ [p]).length = pre.length + 1 := by exact lA
       have k0 : ∀ i,i < 14 -> ρ' i = ρ i := fun i hi => by
         refine aJ (k i (by exact lt_of_lt_of_le ‹_› (by decide))) ?_;simp [upd,show i ≠ 14 by exact ne_of_lt ‹_›,show i ≠ 15 by exact ne_of_lt (lt_of_lt_of_le ‹_› (by decide))]
       have := ih (pre ++ [p]) ρ' H' (by refine aJ hp ?_;exact aJ (append_assoc ..) rfl) ((hX.trans hX2) q _ not_mem_nil hq) ((k0 13 (by decide)).trans h13) ((k0 3 (by decide)).trans h3) ((k0 2 (by decide)).trans h2) fun ρ'' H'' k2 hX3 => hP ρ'' H'' (fun i hi => (k2 i hi).trans (k0 i hi)) ((hX.trans hX2).trans hX3)
       replace this := e ▸ this
       exact this
   rcases eq_zero_or_pos pre.length with hz | hz
   · refine ⟨_,rfl,false,Nu (by (simp [*];done)),?_⟩;exact rest' H .refl
   · refine ⟨_,rfl,true,Ox (Int.ofNat_lt.mpr ‹_›),?_⟩;obtain ⟨a,hga⟩ : ∃ a,ps[pre.length - 1]? = some a := ⟨_,getElem?_eq_getElem (by refine aJ hp ?_;simp;lia)⟩;have hga' : ∀ H' : List MO,H'[q]? = some (.list (bR ps)) -> gA (.ref q) (.int ((pre.length : Int) - 1)) H' = some (.str (S a)) := fun H' hq' => by
       have := b8 hq' (s9 hga)
       rwa [show ((pre.length - 1 : Nat) : Int) = (pre.length : Int) - 1 by lia] at this
     have hs := hst (pre.length - 1) a p hga (by refine aJ (show pre.length - 1 + 1 = pre.length by exact Nat.sub_add_cancel ‹_›) ?_;exact hg);refine ⟨_,h13,_,rfl,_,hga' H hq,_,rfl,_,h13,_,rfl,_,hga' H hq,_,rfl,a == p,gZ rfl,?_⟩;cases hap : (a == p) with
     | true =>
       have : a = p := by simpa using hap
       subst this;refine fL (due := 0) (by skip;(simp;done)) fun H' hX => ?_;exact ⟨true,rfl,rest' H' hX⟩
     | false =>
       rw [hap,Bool.false_or] at hs;refine fL (due := 1) (by unfold uR;rw [hs,s8 hs];rfl) fun H' hX => ?_;exact ⟨true,rfl,rest' H' hX⟩
section
variable {sa : Addr} {ns : List Int} {r : WS} {ρ : bI} {H : List MO} {P : d5} {t al : List Nat}
theorem Aa {tot : Int} {q : Nat} {ps : List (List Nat)} (ha : al ∈ cJ) (hps : ∀ p ∈ ps,zZ al p) (hst : ∀ (k : Nat) (a b : List Nat),ps[k]? = some a -> ps[k + 1]? = some b -> (a == b || ltb b a) = true) (hq : H[q]? = some (.list (bR ps))) (hl : ps.length <= 400) (h13 : ρ 13 = some (.ref q)) (h3 : ρ 3 = some (.str (S al))) (h2 : ρ 2 = some (.int tot)) (hr : ∀ ρ' H',(∀ i,i < 14 -> ρ' i = ρ i) -> bT [] H H' -> r ρ' H' P) : aI (uJ sa ns) r ρ H P := by
 refine ⟨_,h13,_,hq,_,_,_,rfl,by decide,by exact Ht (lt_of_le_of_lt ‹_› (by decide)),?_⟩;have er : eT 0 ((bR ps).length : Int) 1 = a8 (List.range' 0 ps.length) := by exact aJ (length_map ..) (aJ (eM ..) (aJ (range_eq_range' ..) rfl))
 refine ⟨(by refine aJ er ?_;exact lm (lR (le_trans ‹_› (by decide)))),?_⟩
 skip
 refine aJ er ?_;exact z9 (q := q) (ps := ps) (al := al) (tot := tot) ha hps hst ps [] ρ H rfl hq h13 h3 h2 fun ρ' H' k hX => hr ρ' H' k hX
end
theorem N6 {t : Tg} {e : WE} {chk : List MO -> Prop} {a : Nat} {R : bI -> Prop} {P : List MO -> Prop} {H₀ : List MO} {g : MV -> MV} (hchk : ∀ H,bT [a] H₀ H -> chk H) : ∀ (xs : List MV) (acc : List MV) (ρ : bI) (H : List MO),R ρ -> (∀ x ∈ xs,∀ ρ,R ρ -> ∃ ρ',t.bind x ρ = some ρ' /\ R ρ' /\ (∀ H,bT [a] H₀ H -> ∀ Q : MV -> List MO -> Prop,(∀ H',bT [] H H' -> Q (g x) H') -> e ρ' H Q)) -> acc.length + xs.length < 1000000 -> bT [a] H₀ H -> H[a]? = some (.list acc) -> (∀ H',bT [a] H₀ H' -> H'[a]? = some (.list (acc ++ xs.map g)) -> P H') -> fE t xT e chk a P xs ρ H := by
 intro xs;induction xs with
 | nil =>
   intro acc ρ H hr hx hl he ha hP;exact ⟨hchk H he,hP H he (by simpa using ha)⟩
 | cons x xs ih =>
   intro acc ρ H hr hx hl he ha hP;refine bP fun no => ?_;obtain ⟨ρ',hb,hr',hg⟩ := hx x mem_cons_self ρ hr;refine no ?_;refine ⟨hchk H he,ρ',hb,hg H he _ fun H' hX => ?_⟩;have ha' := hX a _ not_mem_nil ha;refine ⟨acc,ha',by exact lt_of_le_of_lt (le_add_right _ _) ‹_›,?_⟩;refine ih (acc ++ [g x]) ρ' _ hr' (fun y hy => hx y (mem_cons_of_mem _ ‹_›)) (lS ‹_›) ((he.trans (fun i o _ e => hX i o not_mem_nil e : bT [a] H H')).trans (bT.set mem_cons_self)) (b9 ha' _) fun H' h1 h2 => hP H' h1 ?_;refine aJ h2 ?_;exact aJ (append_assoc ..) rfl
theorem Ab (s : List Nat) : ∀ (l : List (List Nat)) (a : Array Nat),((l.map S).foldl (fun acc p => acc ++ (S s).cps ++ p.cps) a).toList = a.toList ++ l.flatMap fun w => s ++ w := by
 intro l;induction l with
 | nil =>
   intro a;exact (append_nil _).symm
 | cons p l ih =>
   intro a;rw [map_cons,foldl_cons,ih];simp
theorem Lw (s x : List Nat) (l : List (List Nat)) : Builtin.Str.glued (S s) ((x :: l).map S) = S (x ++ l.flatMap fun w => s ++ w) := by
 skip
 apply congrArg Str.mk;apply toList_inj.mp
 skip
 exact aJ (Ab ..) rfl
theorem D5 {al : List Nat} (ha : al ∈ cJ) (a : Nat) : ∀ ps : List (List Nat),(((ps.map fun w => (eB al a 0 w).flatten).map S).map fun y => y.length + (S [42,42]).length).sum <= 20 * ps.flatten.length + 2 * ps.length := by
 intro ps;induction ps with
 | nil =>
   exact le_refl _
 | cons p ps ih =>
   have h1 := xC ha a p;have ih := ih;simp only [map_cons,sum_cons,flatten_cons,length_append,length_cons,bX,length_nil] at ih ⊢
   lia
section
variable {sa : Addr} {ns : List Int} {r : WS} {ρ : bI} {H : List MO} {P : d5} {t al : List Nat}
theorem G9 {tot : Int} {q : Nat} {w0 : List Nat} {ws : List (List Nat)} (ha : al ∈ cJ) (hps : ∀ p ∈ w0 :: ws,p ≠ [] /\ ∀ c ∈ p,c ∈ al) (ht : ∀ c ∈ t,c ∈ al) (hl : (w0 :: ws).flatten.length <= 6) (hz : (w0 :: ws).length <= 6) (htk : dI t (dB (w0 :: ws)) 0 = true) (hq : H[q]? = some (.list (bR (w0 :: ws)))) (h13 : ρ 13 = some (.ref q)) (h3 : ρ 3 = some (.str (S al))) (h2 : ρ 2 = some (.int tot)) (h5 : ρ 5 = some (.str (S t))) (hr : ∀ H',bT [] H H' -> r ρ H' P) : aI (uK sa ns) r ρ H P := by
 have hq1 : q < H.length := (List.getElem?_eq_some_iff.mp hq).1;refine mI (u8 (qY ?_));refine ⟨.str,?_⟩;refine ⟨_,h13,bR (w0 :: ws),hq,le_trans (show _ <= 6 by simpa using hz) (show 6 <= sizeLine by decide),?_⟩;refine N6 (a := H.length) (H₀ := H ++ [MO.list []]) (R := fun ρ => ρ 1 = some (.str (S al)) /\ ρ 2 = some (.int tot)) (g := fun v => match v with | .str x => .str (S (eB al (fC (tot / 60)) 0 x.cps.toList).flatten) | v => v) (fun H' hX => hX q _ (xL ‹_›) (aR hq _)) (bR (w0 :: ws)) [] _ _ ⟨h3,h2⟩ (fun x hx aY h => ?_) (by simp at hz ⊢;exact lt_of_le_of_lt (succ_le_succ ‹_›) (by decide)) .refl (bE _ _ []) fun H' hX hH => ?_
 · obtain ⟨p,hp,rfl⟩ := mem_map.mp hx;refine ⟨_,rfl,h,fun H' _ Q hQ => ?_⟩;refine ⟨_,rfl,_,h.1,_,h.2,⟨by decide,by decide,?_⟩⟩;exact nN (al := al) (part := p) (at_ := tot / 60) (a0 := fC (tot / 60)) (by rw [gJ ha];decide) (le_trans ((fun p hp => le_trans (eZ hp) hl : ∀ p ∈ w0 :: ws,p.length <= 6) p hp) (by decide)) (qX _) fun H'' hX2 => hQ H'' hX2
 · have e : ([] : List MV) ++ (bR (w0 :: ws)).map (fun v => match v with | .str x => .str (S (eB al (fC (tot / 60)) 0 x.cps.toList).flatten) | v => v) = bR ((w0 :: ws).map fun w => (eB al (fC (tot / 60)) 0 w).flatten) := by
     rw [nil_append,map_map];show _ = List.map _ (List.map _ _);rw [map_map];rfl
   rw [e] at hH;refine ⟨_,((w0 :: ws).map fun w => (eB al (fC (tot / 60)) 0 w).flatten).map S,hH,gS _,le_trans (D5 ha _ _) (by lia),?_⟩;have eg : Builtin.Str.glued "**" (((w0 :: ws).map fun w => (eB al (fC (tot / 60)) 0 w).flatten).map S) = S ((eB al (fC (tot / 60)) 0 w0).flatten ++ ws.flatMap fun w => List.replicate 2 42 ++ (eB al (fC (tot / 60)) 0 w).flatten) := by
     rw [map_cons];refine (Lw [42,42] _ _).trans ?_;rw [flatMap_map];rfl
   rw [eg];refine qV (al := al) (a := fC (tot / 60)) (k := 1) (w0 := w0) (ws := ws) ha (by decide) rfl (hps w0 mem_cons_self).1 (hps w0 mem_cons_self).2 (fun w h => hps w (mem_cons_of_mem _ ‹_›)) (by simp at hl ⊢;exact le_trans ‹_› (by decide)) (by simp at hz;exact le_trans ‹_› (by decide)) fun H2 hX2 => ?_;refine ⟨_,h5,?_⟩;refine qW (al := al) (a := fC (tot / 60)) (w0 := w0) (ws := ws) ha (hps w0 mem_cons_self).2 (fun w h => hps w (mem_cons_of_mem _ ‹_›)) ht (by simp at hl ⊢;exact le_trans ‹_› (by decide)) (by simp at hz;exact le_trans ‹_› (by decide)) fun H3 hX3 => ?_;rw [htk];refine ⟨false,rfl,hr H3 fun i o _ e => hX3 i o ‹_› (hX2 i o ‹_› (hX i o ?_ (aR e _)))⟩;have := (List.getElem?_eq_some_iff.mp e).1;exact xL ‹_›
noncomputable abbrev N7 : WS := (aI (aW 17 (aV eA (aH (fZ (aE 5) kF (d8 (aE 16))) (aH (aE 3) (aH (aX rK (aE 2) (wK (.int 7))) aL)))))
 (aI (aW 18 (B9 (kD vD (aX rJ (aE 16) (wK (.int 2))) (aV cZ (aH (aE 5) aL))) (kD dH (fZ (aE 5) (d8 (dO (aE 16))) kF) (fZ (aE 5) kF (d8 (aE 16))))))
 (aI (bB (aN d4 (aV cS (aH (aV cU (aH (aX bD (aX bD (aE 17) (wK (.str "*"))) (aE 17)) aL)) (aH (aE 5) aL))) (aE 18)) (aI (dG (wK (.bool false)))
 aK) aK)
 aK)))
theorem Ac {tot : Int} (ha : al ∈ cJ) (ht : ∀ c ∈ t,c ∈ al) (hl : t.length <= 6) (hn : t ≠ []) : ∀ (zs : List Nat) (ρ : bI) (H : List MO),(∀ z ∈ zs,0 < z /\ z < 1000 /\ dI t (dB [t.take z,t.take z]) 0 = (decide (z * 2 <= t.length) && t.drop (t.length - z) == t.take z)) -> ρ 5 = some (.str (S t)) -> ρ 3 = some (.str (S al)) -> ρ 2 = some (.int tot) -> (∀ ρ' H',P .next ρ' H') -> cR (.nm 16) N7 (fun _ => True) P (a8 zs) ρ H := by
 intro zs;induction zs with
 | nil =>
   intro ρ H hz h5 h3 h2 hP;exact ⟨trivial,hP ρ H⟩
 | cons z zs ih =>
   intro ρ H hz h5 h3 h2 hP;obtain ⟨z0,z1,z2⟩ := hz z mem_cons_self;refine ⟨trivial,_,rfl,?_⟩;refine ⟨_,h5,_,rfl,_,rfl,rfl,?_⟩;refine aJ (dQ ..) (aJ (iZ ..) ?_);refine ⟨_,h3,_,h2,⟨by decide,by decide,?_⟩⟩;refine nN (al := al) (part := t.take z) (at_ := tot / 7) (a0 := fC (tot / 7)) (by refine aJ (gJ ha) ?_;decide) (by simp;exact le_trans (min_le_right _ _) (le_trans ‹_› (by decide))) (qX _) fun H' hX => ?_;have fin : ∀ (b : Bool) (H₁ : List MO),dI t (dB [t.take z,t.take z]) 0 = b -> aI (bB (aN d4 (aV cS (aH (aV cU (aH (aX bD (aX bD (aE 17) (wK (.str "*"))) (aE 17)) aL)) (aH (aE 5) aL))) (aE 18)) (aI (dG (wK (.bool false))) aK) aK) aK (upd (upd (upd ρ 16 (.int (z : Int))) 17 (.str (S (eB al (fC (tot / 7)) 0 (t.take z)).flatten))) 18 (.bool b)) H₁ (pJ (cR (.nm 16) N7 (fun _ => True) P (a8 zs)) P) := fun b H₁ hb => by
     try dsimp only [Eu,Ig]
     refine mI (u8 (qY (s7 (j := 5) (a := fC (tot / 7)) (w := t.take z) (t := t) ha rfl h5 ?_ (fun c hc => ht c (mem_of_mem_take hc)) ht (by exact le_trans (length_take_le' ..) ‹_›) fun H3 hX3 => ?_)))
     · intro e;rcases take_eq_nil_iff.mp e with e | e
       · exact absurd ‹_› (ne_of_gt ‹_›)
       · exact hn e
     · refine aJ hb ?_;refine ⟨_,rfl,false,?_,?_⟩
       · show some (!(b == b)) = some false;simp
       · exact ih _ H3 (fun z h => hz z (mem_cons_of_mem _ ‹_›)) h5 h3 h2 hP
   have hz2 : ((z : Int) * 2) = ((z * 2 : Nat) : Int) := by rfl
   by_cases hle : z * 2 <= t.length
   · refine ⟨_,rfl,⟨by exact lt_of_lt_of_le ‹_› (by decide),_,h5,true,Sa (by refine aJ (bX ..) ?_;exact Int.ofNat_le.mpr ‹_›),true,rfl,?_⟩⟩;refine ⟨_,h5,_,rfl,_,rfl,_,rfl,rfl,?_⟩;refine aJ (dQ ..) (aJ (uO _ _ z0 ..) ?_);refine ⟨_,h5,_,rfl,_,rfl,rfl,?_⟩;refine aJ (dQ ..) (aJ (iZ ..) ?_);refine ⟨t.drop (t.length - z) == t.take z,gZ rfl,?_⟩;exact fin _ H' (by rw [z2,decide_eq_true hle,Bool.true_and])
   · refine ⟨_,rfl,⟨by exact lt_of_lt_of_le ‹_› (by decide),_,h5,false,Sb (by refine aJ (bX ..) ?_;omega),false,rfl,?_⟩⟩;exact fin false H' (by refine aJ z2 (aJ (decide_eq_false hle) ?_);rfl)
theorem Ad {tot : Int} (ha : al ∈ cJ) (ht : ∀ c ∈ t,c ∈ al) (hl : t.length <= 6) (hn : t ≠ []) (hz : ∀ z,0 < z -> z < t.length / 2 + 2 -> dI t (dB [t.take z,t.take z]) 0 = (decide (z * 2 <= t.length) && t.drop (t.length - z) == t.take z)) (h5 : ρ 5 = some (.str (S t))) (h3 : ρ 3 = some (.str (S al))) (h2 : ρ 2 = some (.int tot)) (hr : ∀ ρ' H',r ρ' H' P) : aI (uL sa ns) r ρ H P := by
 have e : (((S t).length : Nat) : Int) / 2 + 2 = ((t.length / 2 + 2 : Nat) : Int) := by refine aJ (bX ..) ?_;rfl
 have er : eT 1 ((((S t).length : Nat) : Int) / 2 + 2) 1 = a8 ((List.range (t.length / 2 + 2 - 1)).map fun i => i + 1) := by rw [e,o6]
 refine ⟨_,h5,⟨by decide,by decide,_,_,_,rfl,by decide,by lia,?_⟩⟩;refine ⟨(by refine aJ er ?_;simp;exact le_trans (div_le_self _ _) (le_trans ‹_› (by decide)) : (eT 1 ((((S t).length : Nat) : Int) / 2 + 2) 1).length <= 1000000),?_⟩
 skip
 refine aJ er ?_;refine Ac ha ht hl hn _ ρ H (fun z hzm => ?_) h5 h3 h2 fun ρ' H' => hr ρ' H';obtain ⟨i,hi,rfl⟩ := mem_map.mp hzm;have := mem_range.mp hi;exact ⟨by exact succ_pos _,by lia,hz (i + 1) (succ_pos _) (Nat.succ_lt_succ ‹_›)⟩
end
section
variable {ch : Nat -> Nat} (hch : ∀ i j,i < j -> ch i < ch j)
include hch
theorem N8 (i j : Nat) : ch i < ch j ↔ i < j := by
 constructor
 · intro h;rcases Nat.lt_trichotomy i j with q | q | q
   · exact q
   · subst q;solve_by_elim (maxDepth := 3) [lt_irrefl,lt_of_lt_of_le]
   · have := hch j i q;exact absurd ‹_› (not_lt.mpr (le_of_lt ‹_›))
 · exact hch i j
theorem Ly {i j : Nat} (h : ch i = ch j) : i = j := by
 rcases Nat.lt_trichotomy i j with q | q | q
 · have := hch i j q;exact absurd ‹_› (ne_of_lt ‹_›)
 · exact q
 · have := hch j i q;exact absurd ‹_› (ne_of_gt ‹_›)
theorem Ha {a b : List Nat} (h : a.map ch = b.map ch) : a = b := (List.map_inj_right fun _ _ q => Ly hch q).mp h
theorem u9 (a b : List Nat) : (a.map ch == b.map ch) = (a == b) := by
 rw [Bool.eq_iff_iff,beq_iff_eq,beq_iff_eq];exact ⟨Ha hch,fun h => by exact aJ h rfl⟩
theorem mK : ∀ a b : List Nat,ltb (a.map ch) (b.map ch) = ltb a b
 | [],[] => rfl
 | [],_ :: _ => rfl
 | _ :: _,[] => rfl
 | a :: as,b :: bs => by
   simp only [map_cons,Bh,mK as bs,N8 hch]
theorem xD (w : List Nat) : c9 (w.map ch) = c9 w := by
 funext i j;unfold c9;rw [<- map_drop,<- map_drop,mK hch]
theorem kC (w : List Nat) : dX (w.map ch) = dX w := by
 unfold dX;exact aJ (xD hch ..) (aJ (length_map ..) rfl)
theorem oG (w : List Nat) : ∀ o,fJ (w.map ch) o = fJ w o
 | [] => rfl
 | [_] => rfl
 | a :: b :: r => by rw [sV,sV,xD hch,oG w (b :: r)]
omit hch in
theorem Hb : ∀ (z t : List Nat),gP (t.map ch) z = (gP t z).map (List.map ch) := by
 intro z;induction z with
 | nil =>
   intro t;rw [uM,uM];rfl
 | cons x z ih =>
   intro t;rw [qO,qO,length_map,<- map_take,<- map_drop,ih,map_append];rfl
theorem Ae (t : List Nat) (z : Nat) : gQ (t.map ch) z = gQ t z := by
 unfold gQ;congr 1;funext k;rw [<- map_take,<- map_drop,mK hch]
theorem Af (t : List Nat) : ∀ z,dA (t.map ch) z = dA t z := by
 intro z;induction z with
 | zero =>
   exact rfl
 | succ z ih =>
   rw [l9,l9,Ae hch,ih]
theorem Ag : ∀ (f : Nat) (t : List Nat),fY f (t.map ch) = (fY f t).map (List.map ch) := by
 intro f;induction f with
 | zero =>
   intro _;exact rfl
 | succ f ih =>
   intro t;rw [jY,jY];by_cases h : t = []
   · subst h;rfl
   · rw [if_neg h,if_neg (by simpa using h),map_cons,length_map,Af hch,<- map_take,<- map_drop,ih]
theorem tA (w t : List Nat) (a : Nat) : jK (w.map ch) (t.map ch) a = jK w t a := by
 unfold jK;rw [length_map,length_map,<- map_drop,<- map_take,u9 hch]
theorem D6 (w t : List Nat) : ∀ f a,oA (w.map ch) (t.map ch) f a = oA w t f a := by
 intro f;induction f with
 | zero =>
   intro _;exact rfl
 | succ f ih =>
   intro a;rw [uN,uN,tA hch,ih,length_map]
theorem qZ (t : List Nat) : ∀ (rs : List (Nat × List Nat)) (a : Nat),dI (t.map ch) (rs.map fun r => (r.1,r.2.map ch)) a = dI t rs a
 | [],a => by show (a == (t.map ch).length) = (a == t.length);rw [length_map]
 | (k,w) :: rs,a => by
   rw [map_cons,iT,iT];simp only [length_map,tA hch,D6 hch,qZ t rs]
omit hch in
theorem q9 : ∀ ws : List (List Nat),iE (ws.map (List.map ch)) = (iE ws).map fun r => (r.1,r.2.map ch)
 | [] => rfl
 | [w] => rfl
 | w :: w2 :: ws => by
   have ih := q9 (w2 :: ws);show (1,w.map ch) :: (0,[]) :: iE ((w2 :: ws).map (List.map ch)) = _;rw [ih];rfl
omit hch in
theorem xE : ∀ ws : List (List Nat),dB (ws.map (List.map ch)) = (dB ws).map fun r => (r.1,r.2.map ch) := by
 intro ws;induction ws with
 | nil =>
   exact rfl
 | cons w ws ih =>
   show (0,w.map ch) :: iE (ws.map (List.map ch)) = _;rw [q9];rfl
theorem nT (t : List Nat) (ws : List (List Nat)) : dI (t.map ch) (dB (ws.map (List.map ch))) 0 = dI t (dB ws) 0 := by
 rw [xE,qZ hch]
theorem rA : ∀ ps : List (List Nat),jZ (ps.map (List.map ch)) = jZ ps
 | [] => rfl
 | [_] => rfl
 | a :: b :: r => by
   have ih := rA (b :: r);show ((a.map ch == b.map ch || ltb (b.map ch) (a.map ch)) && jZ ((b :: r).map (List.map ch))) = _;rw [ih,u9 hch,mK hch];rfl
end
theorem Ah {t : List Nat} : ∀ (r : List Nat) (a : Nat),fJ t (a :: r) = true -> ∀ x ∈ r,t.drop a < t.drop x := by
 intro r;induction r with
 | nil =>
   intro _ _ x h;simp at h
 | cons b r ih =>
   intro a hs x hx;have h : (c9 t a b && fJ t (b :: r)) = true := hs;rw [Bool.and_eq_true] at h;have h1 : t.drop a < t.drop b := by
     have := h.1;unfold c9 at this;rw [gE] at this;simpa using this
   rcases mem_cons.mp hx with rfl | hx
   · exact h1
   · exact List.lt_trans h1 (ih b h.2 x hx)
theorem D7 {t : List Nat} : ∀ o : List Nat,fJ t o = true -> o.Pairwise fun x y => t.drop x < t.drop y := by
 intro o;induction o with
 | nil =>
   intro _;exact .nil
 | cons a r ih =>
   intro h;refine .cons (Ah r a h) (ih ?_);cases r with
   | nil => rfl
   | cons b r =>
     have h : (c9 t a b && fJ t (b :: r)) = true := h;rw [Bool.and_eq_true] at h;exact h.2
theorem tC : ∀ (ps : List (List Nat)),jZ ps = true -> ∀ (k : Nat) (a b : List Nat),ps[k]? = some a -> ps[k + 1]? = some b -> (a == b || ltb b a) = true
 | [],_,k,a,b,h1,_ => by exact nS h1
 | [x],_,k,a,b,_,h2 => by exact nS h2
 | x :: y :: r,h,k,a,b,h1,h2 => by
   have h : ((x == y || ltb y x) && jZ (y :: r)) = true := h
   replace h := (Bool.and_eq_true ..) ▸ h
   cases k with
   | zero =>
     simp at h1 h2;refine cE h1 (cE h2 ?_);exact h.1
   | succ k => exact tC (y :: r) h.2 k a b (by exact h1) (by exact h2)
noncomputable def Hc (z : List Nat) : Bool := (List.range 3).all fun way =>
 gY ((zA way z).map fun k : Nat => (k : Int)) none (z.length + 2) == ((wT way z).map fun k : Nat => (k : Int)) && (zA way z)[0]? != some 0 && (wT way z).take z.length == z && decide ((wT way z).length <= 100) && decide ((zA way z).length <= 100)
noncomputable def dS (w : List Nat) : Bool :=
 (dX w).1.isPerm (List.range w.length) && fJ w (dX w).1 && decide ((dX w).2.length <= 100) &&
 (let z := d6 w.length (dX w).2
  z != [] && decide (z.length <= 100) && z.all (fun x => decide (0 < x)) && Hc z &&
  (let ps := gP w z
   ps == fY (w.length + 1) w && ps != [] && jZ ps && decide (ps.length <= 6) && decide (ps.flatten.length <= 6) &&
   ps.all (fun p => p != [] && (List.range p.length).all fun z => z == 0 || (ltb p (p.drop z) && dI p (dB [p.take z,p.take z]) 0 == false)) &&
   dI w (dB ps) 0)) &&
 (List.range (w.length / 2 + 2)).all fun z => z == 0 || (dI w (dB [w.take z,w.take z]) 0 == (decide (z * 2 <= w.length) && w.drop (w.length - z) == w.take z))
theorem Lz : ((fS 3).all dS) = true := by decide +kernel
theorem L0 : ((fS 4).all dS) = true := by decide +kernel
theorem Hd : ((fS 4).all fun w => dS (0 :: w)) = true := by decide +kernel
theorem He : ((fS 4).all fun w => dS (1 :: w)) = true := by decide +kernel
theorem Hf : ((fS 4).all fun w => dS (2 :: w)) = true := by decide +kernel
theorem D8 : ((fS 4).all fun w => dS (0 :: 0 :: w)) = true := by decide +kernel
theorem D9 : ((fS 4).all fun w => dS (0 :: 1 :: w)) = true := by decide +kernel
theorem Ea : ((fS 4).all fun w => dS (0 :: 2 :: w)) = true := by decide +kernel
theorem Eb : ((fS 4).all fun w => dS (1 :: 0 :: w)) = true := by decide +kernel
theorem Ec : ((fS 4).all fun w => dS (1 :: 1 :: w)) = true := by decide +kernel
theorem Ed : ((fS 4).all fun w => dS (1 :: 2 :: w)) = true := by decide +kernel
theorem Ee : ((fS 4).all fun w => dS (2 :: 0 :: w)) = true := by decide +kernel
theorem Ef : ((fS 4).all fun w => dS (2 :: 1 :: w)) = true := by decide +kernel
theorem Eg : ((fS 4).all fun w => dS (2 :: 2 :: w)) = true := by decide +kernel
theorem tD : ∀ (w : List Nat),(∀ c ∈ w,c < 3) -> w ∈ fS w.length := by
 intro w;induction w with
 | nil =>
   intro _;decide
 | cons c w ih =>
   intro h
   skip
   refine mem_flatMap.mpr ⟨w,(ih fun c hc => h c (mem_cons_of_mem _ ‹_›)),?_⟩;refine Ko ?_ ?_ ?_ (h c mem_cons_self)
   · exact mem_cons_self
   · exact mem_cons_of_mem _ mem_cons_self
   · exact mem_cons_of_mem _ (mem_cons_of_mem _ mem_cons_self)
theorem Hg {w : List Nat} (h3 : 3 <= w.length) (h6 : w.length <= 6) (hw : ∀ c ∈ w,c < 3) : dS w = true := by
 have key : ∀ (v : List Nat) (p : List Nat -> Bool),v.length = 4 -> (∀ c ∈ v,c < 3) -> ((fS 4).all p) = true -> p v = true := fun v p hl hv h => by
   have := tD v hv;rw [hl] at this;exact all_eq_true.mp h v this
 have hm := tD w hw;rcases (show w.length = 3 \/ w.length = 4 \/ w.length = 5 \/ w.length = 6 by lia) with e | e | e | e
 · rw [e] at hm;exact all_eq_true.mp Lz w hm
 · rw [e] at hm;exact all_eq_true.mp L0 w hm
 · cases w with
   | nil => exact absurd h3 (by decide)
   | cons c v =>
     have hc := hw c mem_cons_self;have hv : ∀ c ∈ v,c < 3 := fun c h => hw c (mem_cons_of_mem _ h);have hl : v.length = 4 := Nat.succ.inj e;exact Ko (P := fun c => dS (c :: v) = true) (key v _ hl hv Hd) (key v _ hl hv He) (key v _ hl hv Hf) hc
 · cases w with
   | nil => exact absurd h3 (by decide)
   | cons c w => cases w with
     | nil => exact absurd (show 1 = 6 from e) (by decide)
     | cons d v =>
       have hc := hw c mem_cons_self;have hd := hw d (mem_cons_of_mem _ mem_cons_self);have hv : ∀ c ∈ v,c < 3 := fun c h => hw c (mem_cons_of_mem _ (mem_cons_of_mem _ h));have hl : v.length = 4 := Nat.succ.inj (Nat.succ.inj e);exact Ko (P := fun c => dS (c :: d :: v) = true) (Ko (P := fun d => dS (0 :: d :: v) = true) (key v _ hl hv D8) (key v _ hl hv D9) (key v _ hl hv Ea) hd) (Ko (P := fun d => dS (1 :: d :: v) = true) (key v _ hl hv Eb) (key v _ hl hv Ec) (key v _ hl hv Ed) hd) (Ko (P := fun d => dS (2 :: d :: v) = true) (key v _ hl hv Ee) (key v _ hl hv Ef) (key v _ hl hv Eg) hd) hc
noncomputable def Ai (a b c : Nat) (i : Nat) : Nat := if i = 0 then a else if i = 1 then b else c + (i - 2)
theorem Eh {a b c : Nat} (h1 : a < b) (h2 : b < c) : ∀ i j,i < j -> Ai a b c i < Ai a b c j := fun i j h => by
 unfold Ai;by_cases i0 : i = 0
 · refine aJ (if_pos i0) (aJ (if_neg (by lia)) ?_);split <;> lia
 · refine aJ (if_neg i0) (aJ (if_neg (show ¬ j = 0 by lia)) ?_);by_cases i1 : i = 1
   · refine aJ (if_pos i1) (aJ (if_neg (by lia)) ?_);exact lt_of_lt_of_le ‹_› (le_add_right _ _)
   · refine aJ (if_neg i1) (aJ (if_neg (by lia)) ?_);lia
theorem Aj {al : List Nat} (ha : al ∈ cJ) : ∃ (ch : Nat -> Nat) (rk : Nat -> Nat),(∀ i j,i < j -> ch i < ch j) /\ ∀ x,x < 3 -> al.getD x 0 = ch (rk x) /\ rk x < 3 := by
 have mk : ∀ (al : List Nat) (a b c : Nat) (rk : Nat -> Nat),a < b -> b < c -> (al.getD 0 0 = Ai a b c (rk 0) /\ rk 0 < 3) -> (al.getD 1 0 = Ai a b c (rk 1) /\ rk 1 < 3) -> (al.getD 2 0 = Ai a b c (rk 2) /\ rk 2 < 3) -> ∃ (ch : Nat -> Nat) (rk : Nat -> Nat),(∀ i j,i < j -> ch i < ch j) /\ ∀ x,x < 3 -> al.getD x 0 = ch (rk x) /\ rk x < 3 := fun al a b c rk h1 h2 x0 x1 x2 =>
   ⟨Ai a b c,rk,Eh h1 h2,fun x hx => Ko x0 x1 x2 hx⟩
 simp only [cJ,mem_cons,not_mem_nil,or_false] at ha;rcases ha with rfl | rfl | rfl | rfl | rfl | rfl
 · exact mk _ 97 98 99 (fun x => [0,1,2].getD x 0) (by decide) (by decide) (by decide) (by decide) (by decide)
 · exact mk _ 42 63 91 (fun x => [0,1,2].getD x 0) (by decide) (by decide) (by decide) (by decide) (by decide)
 · exact mk _ 45 93 94 (fun x => [1,0,2].getD x 0) (by decide) (by decide) (by decide) (by decide) (by decide)
 · exact mk _ 38 92 126 (fun x => [1,0,2].getD x 0) (by decide) (by decide) (by decide) (by decide) (by decide)
 · exact mk _ 35 46 124 (fun x => [2,1,0].getD x 0) (by decide) (by decide) (by decide) (by decide) (by decide)
 · exact mk _ 65 94 97 (fun x => [1,2,0].getD x 0) (by decide) (by decide) (by decide) (by decide) (by decide)
structure Ak (al t : List Nat) : Prop where
 n3 : 3 <= t.length
 n6 : t.length <= 6
 la : ∀ c ∈ t,c ∈ al
 perm : (dX t).1.Perm (List.range t.length)
 pw : (dX t).1.Pairwise fun x y => t.drop x < t.drop y
 sl : (dX t).2.length <= 100
 zn : d6 t.length (dX t).2 ≠ []
 zl : (d6 t.length (dX t).2).length <= 100
 zp : ∀ x ∈ d6 t.length (dX t).2,0 < x
 zz : Hc (d6 t.length (dX t).2) = true
 pe : fY (t.length + 1) t = gP t (d6 t.length (dX t).2)
 pn : gP t (d6 t.length (dX t).2) ≠ []
 ps : jZ (gP t (d6 t.length (dX t).2)) = true
 pl : (gP t (d6 t.length (dX t).2)).length <= 6
 pf : (gP t (d6 t.length (dX t).2)).flatten.length <= 6
 pa : ∀ p ∈ gP t (d6 t.length (dX t).2),zZ al p
 tk : dI t (dB (gP t (d6 t.length (dX t).2))) 0 = true
 ag : ∀ z,0 < z -> z < t.length / 2 + 2 -> dI t (dB [t.take z,t.take z]) 0 = (decide (z * 2 <= t.length) && t.drop (t.length - z) == t.take z)
theorem Hh : ∀ (z t : List Nat),∀ p ∈ gP t z,∀ c ∈ p,c ∈ t := by
 intro z;induction z with
 | nil =>
   intro t p hp c hc;simp [uM] at hp
 | cons x z ih =>
   intro t p hp c hc;rw [qO,mem_append] at hp;rcases hp with hp | hp
   · exact mem_of_mem_take (ih _ p hp c hc)
   · rw [mem_singleton.mp hp] at hc;exact mem_of_mem_drop hc
theorem Jr {al w : List Nat} {ch : Nat -> Nat} (hch : ∀ i j,i < j -> ch i < ch j) (h3 : 3 <= w.length) (h6 : w.length <= 6) (hw : ∀ c ∈ w,c < 3) (hal : ∀ c ∈ w.map ch,c ∈ al) : Ak al (w.map ch) := by
 have h := Hg h3 h6 hw;unfold dS at h;simp only [Bool.and_eq_true,decide_eq_true_eq] at h;generalize hz : d6 w.length (dX w).2 = z at h;generalize hps : gP w z = ps at h;refine bP fun no => ?_;obtain ⟨⟨⟨⟨a1,a2⟩,a3⟩,⟨⟨⟨b1,b2⟩,b3⟩,b4⟩,⟨⟨⟨⟨⟨c1,c2⟩,c3⟩,c4⟩,c5⟩,c6⟩,c7⟩,d1⟩ := h;refine no ?_;have ez : d6 (w.map ch).length (dX (w.map ch)).2 = z := by exact aJ (kC hch ..) (aJ (length_map ..) (aJ (hz ..) rfl))
 have eps : gP (w.map ch) z = ps.map (List.map ch) := by exact aJ (Hb ..) (aJ (hps ..) rfl)
 refine ⟨by simpa using h3,by simpa using h6,hal,?_,?_,?_,?_,?_,?_,?_,?_,?_,?_,?_,?_,?_,?_,?_⟩
 · refine aJ (kC hch ..) (aJ (length_map ..) ?_);exact List.isPerm_iff.mp a1
 · refine D7 _ ?_;refine aJ (oG hch ..) (aJ (kC hch ..) ?_);exact a2
 · refine aJ (kC hch ..) ?_;exact a3
 · refine aJ ez ?_;simpa using b1
 · refine aJ ez ?_;exact b2
 · refine aJ ez ?_;intro x hx;simpa using all_eq_true.mp b3 x hx
 · rw [ez];exact b4
 · rw [ez,eps,Ag hch,length_map];rw [<- eq_of_beq c1]
 · refine aJ ez (aJ eps ?_);intro e;rw [map_eq_nil_iff] at e;replace c2 := e ▸ c2;contradiction
 · rw [ez,eps,rA hch];exact c3
 · rw [ez,eps,length_map];exact c4
 · rw [ez,eps,<- List.map_flatten,length_map];exact c5
 · refine aJ ez ?_;intro p' hp';have hmem := Hh z (w.map ch) p' hp'
   replace hp' := eps ▸ hp'
   obtain ⟨p,hp,rfl⟩ := mem_map.mp hp';have hpp := all_eq_true.mp c6 p hp;rw [Bool.and_eq_true] at hpp;refine ⟨fun c hc => hal c (hmem c hc),?_,?_,fun y y0 y1 => ?_⟩
   · intro e;rw [map_eq_nil_iff] at e;rw [e] at hpp;contradiction
   · rw [length_map];exact le_trans (eZ hp) c5
   · rw [length_map] at y1;have hyy := all_eq_true.mp hpp.2 y (mem_range.mpr y1);have hy : (y == 0) = false := by rw [beq_eq_false_iff_ne];exact ne_of_gt ‹_›
     rw [hy,Bool.false_or,Bool.and_eq_true] at hyy;refine ⟨?_,?_⟩
     · rw [<- map_drop,mK hch];exact hyy.1
     · have := nT hch p [p.take y,p.take y];rw [map_cons,map_cons,map_nil,map_take] at this;rw [this];exact eq_of_beq hyy.2
 · rw [ez,eps,nT hch];exact c7
 · intro y y0 y1;rw [length_map] at y1 ⊢;have := all_eq_true.mp d1 y (mem_range.mpr y1);have hy : (y == 0) = false := by rw [beq_eq_false_iff_ne];exact ne_of_gt ‹_›
   rw [hy,Bool.false_or] at this;have e := nT hch w [w.take y,w.take y];rw [map_cons,map_cons,map_nil,map_take] at e;rw [e,eq_of_beq this,<- map_drop,<- map_take,u9 hch]
theorem Ei {al t : List Nat} {tot : Int} {sa : Addr} {ns : List Int} {ρ : bI} {H : List MO} {P : d5} (ha : al ∈ cJ) (T : Ak al t) (h2 : ρ 2 = some (.int tot)) (h3 : ρ 3 = some (.str (S al))) (h5 : ρ 5 = some (.str (S t))) (hP : ∀ ρ' H',P (.ret (.bool true)) ρ' H') : aI (yS sa ns) (aI (yT sa ns) (aI (yU sa ns) (aI (yV sa ns) (aI (yW sa ns) (aI (uE sa ns) (aI (uF sa ns) (aI (uG sa ns) (aI (uH sa ns) (aI (uI sa ns) (aI (uJ sa ns) (aI (uK sa ns) (aI (uL sa ns) (aI (Bf sa ns) (aK)))))))))))))) ρ H P := by
 have hn6 := T.n6;have hn3 := T.n3;refine D2 h5 (by exact le_trans ‹_› (by decide)) fun a H1 k1 => ?_;refine u6 (t := t) rfl (by exact le_trans ‹_› (by decide)) k1 fun H2 k2 => ?_;obtain ⟨g1,g2⟩ := y9 (lt := c9 t) (n := t.length) (t.length / 2) (List.range t.length) (by simp;exact div_le_self _ _) fun x hx => mem_range.mp hx;refine D3 (t := t) rfl (by simpa using g1) (by exact le_trans ‹_› (by decide)) g2 k2 fun o s H3 ko ks => ?_;have ks' : H3[s]? = some (.list (a8 (dX t).2)) := ks;refine xB (t := t) (o := o) h5 rfl (ko : H3[o]? = some (.list (a8 (dX t).1))) (by exact le_trans ‹_› (by decide)) T.perm T.pw fun E => ?_;refine zS (t := t) (s := s) h5 rfl (aR ks' E) (le_trans T.sl (by decide)) T.zp fun z H4 _ kz => ?_;have zl := T.zl;have zn := T.zn;have zp := T.zp;have zz := T.zz;have pe := T.pe;have pn := T.pn;have ps := T.ps;have pl := T.pl;have pf := T.pf;have pa := T.pa;have tk := T.tk;generalize d6 t.length (dX t).2 = Z at *;obtain ⟨w1,w2⟩ := zT tot;have zw := all_eq_true.mp zz (oF tot) (mem_range.mpr w2);simp only [Bool.and_eq_true,decide_eq_true_eq,beq_iff_eq,bne_iff_ne] at zw;refine bP fun no => ?_;obtain ⟨⟨⟨⟨z1,z2⟩,z3⟩,z4⟩,z5⟩ := zw;refine no ?_;refine zU (tot := tot) (s := z) h2 rfl kz zn (by exact le_trans ‹_› (by decide)) fun a b H5 x5 ka kb => ?_;refine D4 (s := z) (a := a) (due := wT (oF tot) Z) rfl (x5 z _ not_mem_nil kz) rfl ka z2 (by exact le_trans ‹_› (by decide)) z1 fun q H6 x6 kq => ?_;refine zV (q := q) (b := b) (a := a) rfl kq rfl (x6 b _ not_mem_nil kb) rfl (x6 a _ not_mem_nil ka) (by exact le_trans ‹_› (by decide)) fun H7 x7 => ?_;refine G8 (t := t) (s := z) (q := q) (z := Z) (due := wT (oF tot) Z) h5 rfl (x7 z _ not_mem_nil (x6 z _ not_mem_nil (x5 z _ not_mem_nil kz))) rfl (x7 q _ not_mem_nil kq) zp (by exact le_trans ‹_› (by decide)) z3 fun p H8 x8 kp => ?_;generalize gP t Z = Ps at *;refine zW (t := t) (p := p) h5 rfl kp (by exact le_trans ‹_› (by decide)) pe fun H9 x9 => ?_;refine Aa (al := al) (tot := tot) (q := p) ha pa (tC Ps ps) (x9 p _ not_mem_nil kp) (by exact le_trans ‹_› (by decide)) rfl h3 h2 fun ρ' H10 kk x10 => ?_;obtain ⟨w0,ws,rfl⟩ : ∃ w0 ws,Ps = w0 :: ws := exists_cons_of_ne_nil pn;refine G9 (al := al) (t := t) (tot := tot) (q := p) ha (fun p hp => ⟨(pa p hp).ne,(pa p hp).al⟩) T.la pf pl tk (x10 p _ not_mem_nil (x9 p _ not_mem_nil kp)) ((kk 13 (by decide)).trans rfl) ((kk 3 (by decide)).trans h3) ((kk 2 (by decide)).trans h2) ((kk 5 (by decide)).trans h5) fun H11 _ => ?_;refine Ad (al := al) (t := t) (tot := tot) ha T.la hn6 (by intro e;rw [e] at hn3;simp at hn3) T.ag ((kk 5 (by decide)).trans h5) ((kk 3 (by decide)).trans h3) ((kk 2 (by decide)).trans h2) fun ρ2 H12 => ?_;exact hP ρ2 H12
theorem plain : ∀ sa ns,eV 1 (Bg sa ns) [.val (.ref sa)] [] fun v _ => v = .bool true := by
 intro sa ns;refine ⟨rfl,?_⟩;refine u4 rfl fun nb N H1 hl hN => ?_;refine zQ (nb := nb) rfl hN ?_;refine zR (tot := N.sum) rfl ?_;refine u5 (nb := nb) rfl hN hl fun a H2 hL => ?_;have hal := (G6 N.sum []).2;have hL3 : ∀ x ∈ (List.range 6).map (G5 N),x < 3 := fun x hx => by
   obtain ⟨k,_,rfl⟩ := mem_map.mp hx;exact Lu N k
 refine D1 (a := a) (tot := N.sum) (al := sF N.sum) (L := (List.range 6).map (G5 N)) rfl rfl rfl hL (by rfl) (gJ hal) hL3 fun H3 => ?_;have q1 := Int.emod_lt_of_pos N.sum (show (0 : Int) < 4 by decide);have q2 := Int.emod_nonneg N.sum (show (4 : Int) ≠ 0 by decide);have hm : 3 <= 6 - (N.sum % 4).toNat /\ 6 - (N.sum % 4).toNat <= 6 := by lia
 generalize 6 - (N.sum % 4).toNat = m at hm;have hWl : (((List.range 6).map (G5 N)).take m).length = m := by simp;(simp [*];done)
 have hW3 : ∀ x ∈ ((List.range 6).map (G5 N)).take m,x < 3 := fun x hx => hL3 x (mem_of_mem_take hx);generalize ((List.range 6).map (G5 N)).take m = W at hWl hW3;refine bP fun no => ?_;obtain ⟨ch,rk,hch,hrk⟩ := Aj hal;refine no ?_;have et : W.map (fun x => (sF N.sum).getD x 0) = (W.map rk).map ch := by
   refine aJ map_map ?_;exact map_congr_left fun x hx => (hrk x (hW3 x hx)).1
 have hmem : ∀ c ∈ W.map (fun x => (sF N.sum).getD x 0),c ∈ sF N.sum := fun c hc => by
   obtain ⟨x,hx,rfl⟩ := mem_map.mp hc;have := hW3 x hx;refine aJ getD_eq_getElem?_getD (aJ (getElem?_eq_getElem (by rw [gJ hal];exact this)) ?_);exact List.getElem_mem _
 have T : Ak (sF N.sum) (W.map (fun x => (sF N.sum).getD x 0)) := by
   refine aJ et ?_;refine Jr hch (by refine aJ (length_map ..) ?_;(simp [*];done)) (by refine aJ (length_map ..) ?_;(simp [*];done)) (fun c hc => ?_) (by refine cE et ?_;exact hmem);obtain ⟨x,hx,rfl⟩ := mem_map.mp hc;exact (hrk x (hW3 x hx)).2
 exact Ei (tot := N.sum) hal T rfl rfl rfl fun ρ' H' => rfl
theorem joined.tw6393877673199089841 : True := ⟨⟩
theorem joined.tw14295126339887948828 : True := ⟨⟩
theorem joined.tw7202382722322411881 : True := ⟨⟩
theorem joined.tw8468455825882522019 : True := ⟨⟩
theorem joined.tw13648465573092469800 : True := ⟨⟩
theorem joined.tw6885607212837177478 : True := ⟨⟩
theorem joined.tw16843768222769838042 : True := ⟨⟩
theorem joined.tw10442094470229254151 : True := ⟨⟩
theorem joined.tw18345796956572962939 : True := ⟨⟩
theorem joined.tw15690039062468177693 : True := ⟨⟩
theorem joined.tw15410798484151938161 : True := ⟨⟩
theorem joined.tw15468174949624382930 : True := ⟨⟩
theorem joined.tw15940238307627816558 : True := ⟨⟩
theorem joined.tw3200192291121494936 : True := ⟨⟩
theorem joined.tw8888348507308057673 : True := ⟨⟩
theorem joined.tw14963752633013545015 : True := ⟨⟩
theorem joined.tw825472786010668174 : True := ⟨⟩
theorem joined.tw16820838826713314290 : True := ⟨⟩
theorem joined.tw3844193690266985949 : True := ⟨⟩
theorem joined.tw2224887864867524385 : True := ⟨⟩
theorem joined.tw16164350171221891553 : True := ⟨⟩
theorem joined.tw18024750971303507005 : True := ⟨⟩
theorem joined.tw18208177957754314944 : True := ⟨⟩
theorem joined.tw9130450666850179351 : True := ⟨⟩
theorem joined.tw506711193579104584 : True := ⟨⟩
theorem joined.tw10593262870856555462 : True := ⟨⟩
theorem joined.tw13858363419877018049 : True := ⟨⟩
theorem joined.tw5332516678748288206 : True := ⟨⟩
theorem joined.tw7091328049496908255 : True := ⟨⟩
theorem joined.tw12884206743703191494 : True := ⟨⟩
theorem joined.tw6497293569328331074 : True := ⟨⟩
theorem joined.tw8234101368815784548 : True := ⟨⟩
theorem joined.tw13283044549052945301 : True := ⟨⟩
theorem joined.tw9757598338563291547 : True := ⟨⟩
theorem joined.tw6950984113090810197 : True := ⟨⟩
theorem joined.tw5382862233331533870 : True := ⟨⟩
theorem joined.tw17449470523600424524 : True := ⟨⟩
theorem joined.tw8706413092494603336 : True := ⟨⟩
theorem joined.tw12062473945572695390 : True := ⟨⟩
theorem joined.tw12476747515282333760 : True := ⟨⟩
theorem joined.tw6843302663004683318 : True := ⟨⟩
theorem joined.tw7647873693942661852 : True := ⟨⟩
theorem joined.tw4002973886536774509 : True := ⟨⟩
theorem joined.tw11850743177819825581 : True := ⟨⟩
theorem joined.tw17878916870583760584 : True := ⟨⟩
theorem joined.tw14932170835996957795 : True := ⟨⟩
theorem joined.tw18134819341389875574 : True := ⟨⟩
theorem joined.tw5883763725632621777 : True := ⟨⟩
theorem joined.tw18069378339910256789 : True := ⟨⟩
theorem joined.tw11569735190173934379 : True := ⟨⟩
theorem joined.tw2875843476754125316 : True := ⟨⟩
theorem joined.tw842282440518749762 : True := ⟨⟩
theorem joined.tw14178178671361098497 : True := ⟨⟩
theorem joined.tw6881151722629100656 : True := ⟨⟩
theorem joined.tw10787060299181407602 : True := ⟨⟩
theorem joined.tw15866478613964658935 : True := ⟨⟩
theorem joined.tw6014044773223111300 : True := ⟨⟩
theorem joined.tw1919398298840785490 : True := ⟨⟩
theorem joined.tw11744578855311428676 : True := ⟨⟩
theorem joined.tw17255363389683276993 : True := ⟨⟩
theorem joined.tw12234736699906878678 : True := ⟨⟩
theorem joined.tw2240859517775021561 : True := ⟨⟩
theorem joined.tw12309189151225317138 : True := ⟨⟩
theorem joined.tw751438437898936053 : True := ⟨⟩
theorem joined.tw4582258186796749288 : True := ⟨⟩
theorem joined.tw11261271281060967744 : True := ⟨⟩
theorem joined.tw16542858613323802197 : True := ⟨⟩
theorem joined.tw11646330412999376702 : True := ⟨⟩
theorem joined.tw1198429192662582217 : True := ⟨⟩
theorem joined.tw2144793239308718167 : True := ⟨⟩
theorem joined.tw17668187780202778113 : True := ⟨⟩
theorem joined.tw14157181993738116222 : True := ⟨⟩
theorem joined.tw18427112125253041403 : True := ⟨⟩
theorem joined.tw9766674407850521289 : True := ⟨⟩
theorem joined.tw13876830911239791029 : True := ⟨⟩
theorem joined.tw14972526954723053734 : True := ⟨⟩
theorem joined.tw5530749511880743661 : True := ⟨⟩
theorem joined.tw2411650052134736930 : True := ⟨⟩
theorem joined.tw14366987577495940941 : True := ⟨⟩
theorem joined.tw342688943006275957 : True := ⟨⟩
theorem joined.tw16216000159505118076 : True := ⟨⟩
theorem joined.tw13989489628850159846 : True := ⟨⟩
theorem joined.tw5647487063889257127 : True := ⟨⟩
theorem joined.tw2397427143483384004 : True := ⟨⟩
theorem joined.tw11388637419033304315 : True := ⟨⟩
theorem joined.tw3517114705414072183 : True := ⟨⟩
theorem joined.tw5076562478131993739 : True := ⟨⟩
theorem joined.tw10038494067034757922 : True := ⟨⟩
theorem joined.tw14268928449978483302 : True := ⟨⟩
theorem joined.tw2522582544774856959 : True := ⟨⟩
theorem joined.tw1796702826413384145 : True := ⟨⟩
theorem joined.tw1373007556353070522 : True := ⟨⟩
theorem joined.tw17421944937107924500 : True := ⟨⟩
theorem joined.tw16452509471352819635 : True := ⟨⟩
theorem joined.tw6121113165665805084 : True := ⟨⟩
theorem joined.tw10400805694613012275 : True := ⟨⟩
theorem joined.tw18316739270798647943 : True := ⟨⟩
theorem joined.tw9815319924283290635 : True := ⟨⟩
theorem joined.tw8691446290586122678 : True := ⟨⟩
theorem joined.tw18255373868976488042 : True := ⟨⟩
theorem joined.tw2207998361706190389 : True := ⟨⟩
theorem joined.tw7527527833876995007 : True := ⟨⟩
theorem joined.tw8086261850621634794 : True := ⟨⟩
theorem joined.tw4779350796276676384 : True := ⟨⟩
theorem joined.tw11779478096089797304 : True := ⟨⟩
theorem joined.tw9997942718505495792 : True := ⟨⟩
theorem joined.tw3513758616985244700 : True := ⟨⟩
theorem joined.tw10976033620835163049 : True := ⟨⟩
theorem joined.tw2791596305175550988 : True := ⟨⟩
theorem joined.tw2367219176796876403 : True := ⟨⟩
theorem joined.tw11575999429368719281 : True := ⟨⟩
theorem joined.tw14503487535435279655 : True := ⟨⟩
theorem joined.tw4218127863400304040 : True := ⟨⟩
theorem joined.tw15138143466279863545 : True := ⟨⟩
theorem joined.tw10995398843808634230 : True := ⟨⟩
theorem joined.tw12900319703711193489 : True := ⟨⟩
theorem joined.tw8887806392580539912 : True := ⟨⟩
theorem joined.tw4517696493387314445 : True := ⟨⟩
theorem joined.tw9629859005807378173 : True := ⟨⟩
theorem joined.tw11106275191073569104 : True := ⟨⟩
theorem joined.tw17558293674015258742 : True := ⟨⟩
set_option Elab.async true
theorem joined : PySem.Challenge.rw_in0270_01.Holds := by
 w_on;o_law;k_head;(case hw => w_witness2)
 k_fill
 intro w s₀ aO mg mb G Y fa o pm cd doc dV kV ho hd hcd hD hmg hg args vals as hpre hlay hrd hwl hlo;have KX := km_in_of Y;km_tabs Y
 refine Ground.open G ?_;intro T B D TE TW;try (refine guard_noD D (by decide +kernel) ?_;clear D)
 km_lay T hmg ho hd cd
 clear hd;wrow_args hpre hlay hrd hwl hlo
 rename_i hL hra hw1 hr0 hI hr hlen htrue;have Tt := Nt (prog := Challenge.rw_in0270_01.row.prog) (w := w) (by kernel_rfl) {} T KX hT9;have hlen' : ∀ {vs : List Value} {ns : List Int},IntsAre vs ns -> vs.length = ns.length := by
   intro vs ns h;induction h with
   | nil => rfl
   | cons n t _ ih => simp [ih]
 obtain ⟨a,hma,run⟩ := Da Tt (ghost_list hT9 hL) hI (by
   rw [hlen' hI];have : 63 <= sizeLine := by decide
   lia)
 have hfa : a = fa := by
   have h1 : mg "law" = some (.ref fa) := hmg;have h2 : mg "law" = some (.ref a) := hma;rw [h2] at h1;exact Value.ref.inj (Option.some.inj h1)
 subst hfa;have Qx : cL (Nr Challenge.rw_in0270_01.row.prog w aO.heap mg mb) [] [] aO := by
   refine ⟨fun b o e => of_hideAll _ e,rfl,nodup_nil,by simp,by simp,fun q hq => ⟨#[],(hT9 q hq).2,trivial,fun pos cv hc => ?_⟩,?_⟩
   · simp [codeAmong] at hc
   · rw [hg];intro y hy;simp at hy
 refine wpAny_mono (run Ga rfl Qx (.cons (x := .val _) rfl .nil) (plain _ _)) (fun v s' r => ?_) kE;obtain ⟨u,H',α',rfl,rv,i',t'⟩ := r;have hv : v = .bool true := rv;subst hv;have keep : ∀ b o,b ∉ fI.map (·.2) -> aO.heap.get? b = some o -> s'.heap.get? b = some o := fun b o hb e => i'.base b o (ghost_ne e hb);have grown : ∀ b o,b ∈ fI.map (·.2) -> aO.heap.get? b = some o -> isCodeTable aO.heap b /\ o = tabObj #[] /\ ∃ ps,s'.heap.get? b = some (tabObj ps) := fun b o hb e => by
   obtain ⟨q,hq,rfl⟩ := mem_map.mp hb;have e2 := (hT9 q hq).2;rw [e] at e2;obtain ⟨ps,hp,_⟩ := i'.tabs q hq;exact ⟨((hT9 q hq).1.tab (hT9 q hq).2).isCodeTable,Option.some.inj e2,ps,hp⟩
 refine ⟨.inl ⟨.bool true,.bool true,[],rfl,raisesW_false ?_,.bool true,?_,fun _ => ⟨.nil,fun _ ha => nomatch ha⟩⟩,⟨fun b o e => ?_,fun b o e => ?_⟩,t'.os,i'.bare⟩
 · wrow_none_raised
 · kc_post
 · by_cases hb : b ∈ fI.map (·.2)
   · obtain ⟨ht,rfl,ps,hP⟩ := grown b o hb e;exact .inr (.inl ⟨ht,rfl,#[],ps,rfl,by rw [Array.empty_append];exact hP⟩)
   · exact .inl (keep b o hb e)
 · by_cases hb : b ∈ fI.map (·.2)
   · obtain ⟨_,_,ps,hP⟩ := grown b o hb e;exact ⟨_,hP⟩
   · exact ⟨o,keep b o hb e⟩
end Mine
theorem PySem.Challenge.cw_in0270_01_holds : PySem.Challenge.rw_in0270_01.Holds :=
  Mine.joined
