import PyProof.Rows.All
import Wide.All
import OpenK.AllK
import Wide.FinOn
import PySem.Challenge.RW_ik0019_01
open PySem PySem.W PyProof.Rows
set_option Elab.async false
namespace Mine
open_top hd for PySem.Challenge.rw_ik0019_01
end Mine

section PartCt
namespace Mine

abbrev ar (dp un : Nat) (fr : Option (List Env)) (gd : Option (List Code)) : Around := { handled := none, depth := dp, frames := fr, guards := gd, units := un }

def Ext (h h' : Heap) : Prop := ∀ b o, h.get? b = some o → h'.get? b = some o

/-- a call of `f` from `s` ends with a value as `Out` says; what stood, stands -/
def Gives (w : World) (mean : ExcName → Option Value) (mg mb : Str → Option Value) (f : Addr) (dn uu : Nat) (vs : List Value) (s : Shared) (Out : Value → Heap → Prop) : Prop :=
  ∀ (dp un : Nat) (fr : Option (List Env)) (gd : Option (List Code)) (Q E : Value → Shared → Prop),
    (hd.heap_39 w.params).In s.heap → Top hd.view_39 (looseW hd.view_39 [Str.ofString "escape", Str.ofString "quoteattr"]) mean mg mb s.heap → dp + dn < recursionLimit → un + uu < cLine →
    (∀ r h' tk', Ext s.heap h' → Out r h' → Q r { s with heap := h', toks := tk' }) →
    wpAny (model Challenge.rw_ik0019_01.row.prog w) (ar dp un fr gd) (call (.ref f) vs) Q E s

section
variable {prog : Program} {w : World} {A : Around} {E : Value → Shared → Prop} {s : Shared} {K : Frag} {p : Program} {loose : List Str} {mean : ExcName → Option Value} {mg mb : Str → Option Value}
variable {name qual : Str} {params : Arguments} {body : List Stmt} {scope : Scope} {dV kV doc pm cdv ct oc : Value} {an od : Option Addr} {osl : Array (Option Value)} {f : Addr} {vs : List Value} {binds : List (Str × Value)} {Q : Value → Shared → Prop}

theorem enter (X : K.In s.heap) (T : Top p loose mean mg mb s.heap)
    (ho : K.lookup f = some ⟨oc, od, .func (fnOf name qual params body scope dV kV doc pm an cdv ct), osl⟩) (hcd : codeIn K cdv qual = true) (hroom : A.depth < recursionLimit)
    (hbind : BindsTo s (fnOf name qual params body scope dV kV doc pm an cdv ct) ⟨vs, []⟩ binds) (hloc : ∀ y ∈ binds, scope.names.lookup y.1 = some .local)
    (h : ∀ h₁, Fr s.heap s.heap.objs.size h₁ (fun y => binds.reverse.lookup y) → News s.heap s.heap.objs.size h₁ [] →
      wpAny (model prog w) (A.deeper (envOf qual scope s.heap.objs.size f cdv)) (execs body (envOf qual scope s.heap.objs.size f cdv))
        (fun fl s' => Q (match fl with | .ret v => v | _ => .none) s') (fun _ _ => False) { s with heap := h₁, toks := s.toks + binds.length })
    (hco : scope.isCoroutine = false) (hgen : scope.isGenerator = false) (hk : scope.kind = .function)
    (hcell : ∀ x ∈ scope.names, x.2 ≠ .cell) : wpAny (model prog w) A (call (.ref f) vs) Q E s := by
  refine wpAny_call ?_
  refine codeAny_call_def (fd := fnX name qual params body scope [] dV kV doc pm an cdv ct) (body := body) (binds := binds) hroom (X _ _ ho) rfl T.nolimit (codeRec_of X hcd) rfl hbind hcell hloc (fun h₁ hns hk₁ => ?_) hco hgen hk
  exact wpAny_mono (h h₁ ⟨hns, hk₁, Nat.le_refl _⟩ News.nil) (fun fl s' hl => hl) fun _ _ y => y.elim

theorem enterC (X : K.In s.heap) (T : Top p loose mean mg mb s.heap)
    (ho : K.lookup f = some ⟨oc, od, .func (fnOf name qual params body scope dV kV doc pm an cdv ct), osl⟩) (hcd : codeIn K cdv qual = true) (hroom : A.depth < recursionLimit)
    (hbind : BindsTo s (fnOf name qual params body scope dV kV doc pm an cdv ct) ⟨vs, []⟩ binds) (hkind : (binds.all fun y => scope.names.lookup y.1 == some .local || scope.names.lookup y.1 == some .cell) = true)
    (hnd : ((cellsFrom 0 scope.names []).map (·.1)).Nodup)
    (h : ∀ h₁ tk cells, Fr s.heap s.heap.objs.size h₁ (bindL (envOfC qual scope s.heap.objs.size f cdv).kindOf binds fun _ => none) → News s.heap s.heap.objs.size h₁ cells →
      CellsAre (bindC (envOfC qual scope s.heap.objs.size f cdv).kindOf binds fun _ => none) (cellsFrom (s.heap.objs.size + 1) scope.names []) cells →
      wpAny (model prog w) (A.deeper (envOfC qual scope s.heap.objs.size f cdv)) (execs body (envOfC qual scope s.heap.objs.size f cdv))
        (fun fl s' => Q (match fl with | .ret v => v | _ => .none) s') (fun _ _ => False) { s with heap := h₁, toks := tk })
    (hco : scope.isCoroutine = false) (hgen : scope.isGenerator = false) (hk : scope.kind = .function) : wpAny (model prog w) A (call (.ref f) vs) Q E s := by
  refine wpAny_call ?_
  refine codeAny_call_function hroom (X _ _ ho) (by rfl) hco hgen (by rfl) (codeRec_of X hcd) (hbind _ _ _ _ ?_)
  refine wpAny_newFunctionEnv_cells hk (kindsX hkind _) fun env' he s' x => ?_
  subst he
  refine ⟨T.nolimit.keeps x.toInCall.keep, codeAny_func ?_⟩
  obtain ⟨h₁, tk, rfl, _⟩ := x.done
  obtain ⟨cells, NC, Y⟩ := Cl.news (h₀ := s.heap) (Nat.le_refl _) fun n c hm => ⟨x.cell n c (lookup_of_mem_nodup (cellsFrom_names scope.names 0 (s.heap.objs.size + 1) [] [] rfl ▸ hnd) hm), x.above n c hm⟩
  exact wpAny_mono (h h₁ tk cells ⟨x.toInCall.ns, x.toInCall.keep, Nat.le_refl _⟩ NC Y) (fun fl s' hl => hl) fun _ _ y => y.elim
end

theorem Ext.of_fr {h₀ h : Heap} {L : Addr} {m : Str → Option Value} (F : Fr h₀ L h m) : Ext h₀ h := F.keep

section
variable {w : World} {mean : ExcName → Option Value} {mg mb : Str → Option Value} {f : Addr} {dn uu dp un : Nat} {vs : List Value} {s : Shared} {Out : Value → Heap → Prop} {fr : Option (List Env)} {gd : Option (List Code)} {h₀ : Heap} {L : Addr} {m : Str → Option Value} {news : List (Addr × Obj)} {Q E : Value → Shared → Prop}

theorem fr_ext {h h' : Heap} (F : Fr h₀ L h m) (e : Ext h h') : Fr h₀ L h' m := ⟨F.ns.at' fun o x => e _ o x, fun b o x => e b o (F.keep b o x), F.above⟩
theorem news_ext {h h' : Heap} (N : News h₀ L h news) (e : Ext h h') : News h₀ L h' news := fun p hp => ⟨e _ _ (N p hp).1, (N p hp).2⟩
theorem news_new {h h' : Heap} {a : Addr} {o : Obj} (F : Fr h₀ L h m) (N : News h₀ L h news) (e : Ext h h') (hn : h.get? a = none) (ho : h'.get? a = some o) : News h₀ L h' ((a, o) :: news) := fun p hp => by
  rcases List.mem_cons.mp hp with rfl | hp
  · refine ⟨ho, fun q => ?_, ?_⟩
    · obtain ⟨oL, _, _, hL, _⟩ := F.ns
      have q' : a = L := q
      rw [q', hL] at hn
      cases hn
    · cases hq : h₀.get? a with
      | none => rfl
      | some o' => have := F.keep _ _ hq; rw [hn] at this; cases this
  · exact ⟨e _ _ (N p hp).1, (N p hp).2⟩

theorem use (G : Gives w mean mg mb f dn uu vs s Out) (F : Fr h₀ L s.heap m) (X : (hd.heap_39 w.params).In h₀) (N : News h₀ L s.heap news) (T : Top hd.view_39 (looseW hd.view_39 [Str.ofString "escape", Str.ofString "quoteattr"]) mean mg mb h₀)
    (hd' : dp + dn < recursionLimit) (hu : un + uu < cLine)
    (ret : ∀ r h' tk', Fr h₀ L h' m → News h₀ L h' news → Ext s.heap h' → Out r h' → Q r { s with heap := h', toks := tk' }) :
    wpAny (model Challenge.rw_ik0019_01.row.prog w) (ar dp un fr gd) (call (.ref f) vs) Q E s :=
  G dp un fr gd Q E (X.keeps F.keep) (T.keeps F.keep) hd' hu fun r h' tk' e o => ret r h' tk' (fr_ext F e) (news_ext N e) e o
end

/-- the number of figures to a base, behind `ahead` -/
def num (b : Int) : Int → List Int → Int
  | n, [] => n
  | n, f :: r => num b (n * b + f) r
end Mine
end PartCt

section PartC1
namespace Mine
theorem num_fold (b : Int) : ∀ (ns : List Int) (a : Int), (List.foldl (fun (σ : Int × Unit) n => (σ.1 * b + n, ())) (a, ()) ns).1 = num b a ns
  | [], _ => rfl
  | n :: r, a => num_fold b r (a * b + n)
set_option maxRecDepth 100000 in
set_option maxHeartbeats 4000000 in
theorem c_number (w : World) (mean mg mb) (s : Shared) (l : Addr) (vs : List Value) (ns : List Int) (b a : Int) (tb ta : Tok) (hl : s.heap.IsList l vs.toArray) (hI : IntsAre vs ns) (hb0 : 0 ≤ b) (hb1 : b ≤ 16) :
   Gives w mean mg mb 53 1 8 [.ref l, .int b tb, .int a ta] s (fun r _ => ∃ t, r = .int (num b a ns) t) := by
  unfold Gives
  w_top off
  k_fill
  intro dp un fr gd Q E X T hd hu hret
  k_dflt (refine' enter (binds := [(Str.ofString "figures", Value.ref l), (Str.ofString "base", Value.int b tb), (Str.ofString "ahead", Value.int a ta)]) ?k1 ?k2 ?k3 ?k4 ?k5 ?k6 ?k7 ?_ ?c1 ?c2 ?c3 ?c4; (case k1 => k_asm); (case k2 => k_asm); (case k3 => k_is); (case k4 => k_is); (case k5 => ktr_room); (case k6 => exact BindsTo.of_eq rfl); (case k7 => exact locs rfl); (case c4 => decide);  (case c1 => exact rfl); (case c2 => exact rfl); (case c3 => exact rfl))
  intro h' F' N'
  (try dsimp only)
  k_steps
  exact hret _ _ _ (Fr.keep (by assumption)) ⟨_, congrArg (Value.int · _) (num_fold _ _ _)⟩
end Mine
end PartC1

section PartC2
namespace Mine
theorem num_snoc (b : Int) : ∀ (ns : List Int) (a d : Int), num b a (ns ++ [d]) = num b a ns * b + d
  | [], _, _ => rfl
  | n :: r, a, d => num_snoc b r (a * b + n) d
theorem num_nonneg {b : Int} (hb : 0 ≤ b) : ∀ (ns : List Int) (a : Int), 0 ≤ a → (∀ d ∈ ns, 0 ≤ d) → 0 ≤ num b a ns
  | [], _, h, _ => h
  | n :: r, a, h, hd => num_nonneg hb r (a * b + n) (by have := Int.mul_nonneg h hb; have := hd n (.head _); omega) fun d hd' => hd d (.tail _ hd')
theorem num_pos {b : Int} (hb : 1 ≤ b) : ∀ (ns : List Int) (a : Int), 1 ≤ a → (∀ d ∈ ns, 0 ≤ d) → 1 ≤ num b a ns
  | [], _, h, _ => h
  | n :: r, a, h, hd => num_pos hb r (a * b + n) (by have := Int.mul_le_mul h hb (by omega) (by omega); have := hd n (.head _); omega) fun d hd' => hd d (.tail _ hd')

abbrev let16 (ds : List Int) : Array UInt8 := (ds.map fun d => (65 + d).toNat.toUInt8).toArray
def ApInv (ds : List Int) (n : Int) (val : Array UInt8) : Prop :=
  0 ≤ n ∧ ds.length ≤ 30 ∧ (∀ d ∈ ds, 0 ≤ d ∧ d < 16) ∧ (∃ d r, ds = d :: r ∧ 1 ≤ d) ∧ ∃ pre post : List Int, ds = pre ++ post ∧ n = num 16 0 pre ∧ val = let16 post
theorem ap_start {ds : List Int} (hl : ds.length ≤ 30) (hds : ∀ d ∈ ds, 0 ≤ d ∧ d < 16) (hh : ∃ d r, ds = d :: r ∧ 1 ≤ d) : ApInv ds (if num 16 0 ds < 0 then -num 16 0 ds else num 16 0 ds) #[] := by
  have h : 0 ≤ num 16 0 ds := num_nonneg (by omega) ds 0 (by omega) fun d hd => (hds d hd).1
  rw [if_neg (by omega)]
  exact ⟨h, hl, hds, hh, ds, [], by simp, rfl, rfl⟩
theorem ap_pick : ∀ d : Fin 16, KBy.picked #[65, 66, 67, 68, 69, 70, 71, 72, 73, 74, 75, 76, 77, 78, 79, 80] (some (d.val : Int)) (some ((d.val : Int) + 1)) = #[(65 + (d.val : Int)).toNat.toUInt8] := by decide +kernel
theorem ap_pick' {d : Int} (h0 : 0 ≤ d) (h1 : d < 16) : KBy.picked #[65, 66, 67, 68, 69, 70, 71, 72, 73, 74, 75, 76, 77, 78, 79, 80] (some d) (some (d + 1)) = #[(65 + d).toNat.toUInt8] := by
  have h := ap_pick ⟨d.toNat, by omega⟩
  have e : ((d.toNat : Nat) : Int) = d := by omega
  simp only [e] at h
  exact h
theorem ap_turn {ds : List Int} {n : Int} {v : Array UInt8} (h : ApInv ds n v) (hn : n ≠ 0) :
    ApInv ds (n.fdiv 16) (KBy.picked #[65, 66, 67, 68, 69, 70, 71, 72, 73, 74, 75, 76, 77, 78, 79, 80] (some (n.fmod 16)) (some (n.fmod 16 + 1)) ++ v) ∧ (n.fdiv 16).toNat < n.toNat := by
  obtain ⟨h0, hl, hds, hh, pre, post, e, rfl, rfl⟩ := h
  have hp : pre ≠ [] := by rintro rfl; exact hn rfl
  obtain ⟨pre', d, rfl⟩ : ∃ p d, pre = p ++ [d] := ⟨pre.dropLast, pre.getLast hp, (List.dropLast_concat_getLast hp).symm⟩
  have hd : 0 ≤ d ∧ d < 16 := hds d (by rw [e]; simp)
  have hq : 0 ≤ num 16 0 pre' := num_nonneg (by omega) pre' 0 (by omega) fun d hd => (hds d (by rw [e]; simp [hd])).1
  rw [num_snoc] at hn h0 ⊢
  have e1 : (num 16 0 pre' * 16 + d).fdiv 16 = num 16 0 pre' := by
    rw [Int.fdiv_eq_ediv_of_nonneg _ (by omega)]; omega
  have e2 : (num 16 0 pre' * 16 + d).fmod 16 = d := by
    rw [Int.fmod_eq_emod_of_nonneg _ (by omega)]; omega
  rw [e1, e2]
  refine ⟨⟨hq, hl, hds, hh, pre', d :: post, by rw [e]; simp, rfl, ?_⟩, by omega⟩
  rw [ap_pick' hd.1 hd.2]
  simp [let16]
theorem ap_end {ds : List Int} {n : Int} {v : Array UInt8} (h : ApInv ds n v) (hn : n = 0) : v = let16 ds := by
  obtain ⟨h0, _, hds, ⟨d, r, e', hd⟩, pre, post, e, e2, rfl⟩ := h
  cases pre with
  | nil => rw [e]; simp
  | cons x xs =>
    exfalso
    rw [e'] at e
    cases e
    have h1 : 1 ≤ num 16 (0 * 16 + d) xs := num_pos (by omega) xs _ (by omega) fun y hy => (hds y (by rw [e']; simp [hy])).1
    have h2 : n = num 16 (0 * 16 + d) xs := e2
    omega
theorem ap_size {ds : List Int} {n : Int} {v b : Array UInt8} {lo hi : Option Int} (h : ApInv ds n v) (hb : b.size ≤ 16) : (KBy.picked b lo hi).size + v.size ≤ 16777216 := by
  obtain ⟨h0, hl, hds, hh, pre, post, e, rfl, rfl⟩ := h
  have := KBc.size_picked_le b lo hi
  have h2 : post.length ≤ ds.length := by rw [e]; simp
  simp only [let16, List.size_toArray, List.length_map]
  omega
local macro_rules | `(tactic| walk_at "binaryOp Add bytes bytes") => `(tactic| ((refine KBy.add_bytes (ap_size (by assumption) (by decide)) ?_); intro _ _))
local macro_rules | `(tactic| walk_at "subscriptTail") => `(tactic| (k_here; (with_reducible show wpAny _ _ (subscriptTail _ (Expr.Slice _ _ none _) (Value.bytes _ _) (Value.ref _)) _ _ _); (with_reducible rename Fr _ _ _ _ => F'); (with_reducible rename News _ _ _ _ => N'); (refine KBc.slice_K (s := ⟨_, _, _, _, _⟩) F' N' rfl (by constructor) (by constructor) (by decide) ?_); intro _ _ _ _ _ _))
set_option maxRecDepth 100000 in
set_option maxHeartbeats 4000000 in
theorem c_ap (w : World) (mean mg mb) (s : Shared) (ds : List Int) (tn : Tok) (hds : ∀ d ∈ ds, 0 ≤ d ∧ d < 16) (hlen : ds.length ≤ 30) (hh : ∃ d r, ds = d :: r ∧ 1 ≤ d) :
   Gives w mean mg mb 46 1 8 [.int (num 16 0 ds) tn] s (fun r _ => ∃ t, r = .bytes (let16 ds) t) := by
  unfold Gives
  w_top off
  k_fill
  intro dp un fr gd Q E X T hd hu hret
  k_dflt (refine' enter (binds := [(Str.ofString "num", Value.int (num 16 0 ds) tn)]) ?k1 ?k2 ?k3 ?k4 ?k5 ?k6 ?k7 ?_ ?c1 ?c2 ?c3 ?c4; (case k1 => k_asm); (case k2 => k_asm); (case k3 => k_is); (case k4 => k_is); (case k5 => ktr_room); (case k6 => exact BindsTo.of_eq rfl); (case k7 => exact locs rfl); (case c4 => decide);  (case c1 => exact rfl); (case c2 => exact rfl); (case c3 => exact rfl))
  intro h' F' N'
  (try dsimp only)
  (k_with_none)
  (k_with "exec While Name cons nil" => k_while (fun _ n v => ApInv ds n v) (fun _ n _ => n.toNat) "num" "val")
  (k_with "state" => first | exact ap_start (by assumption) (by assumption) (by assumption) | exact (ap_turn (by assumption) (by assumption)).1)
  (k_with "measure" => exact (ap_turn (by assumption) (by assumption)).2)
  k_steps
  rename ApInv _ _ _ => kI
  have e := ap_end kI (by assumption)
  subst e
  exact hret _ _ _ (Fr.keep (by assumption)) ⟨_, rfl⟩
end Mine
end PartC2

section PartCb
open PySem PySem.W PyProof.Rows PySem.Spec PySem.Calls
namespace Mine
section
variable {prog : Program} {w : World} {A : Around} {E : Value → Shared → Prop} {s₁ : Shared} {h₀ : Heap} {L : Addr} {m : Str → Option Value} {news : List (Addr × Obj)}

theorem old_up {h h' : Heap} {o : Obj} (hk : ∀ b o', b ∉ [h.objs.size] → (h.push o).get? b = some o' → h'.get? b = some o') : Ext h h' :=
  fun b o' e => hk b o' (fun hm => by rcases List.mem_cons.mp hm with rfl | hm; exact Nat.lt_irrefl _ (Heap.lt_size e); cases hm) (Heap.get?_push_of_some _ e)

theorem comp_bytes {env : Env} {elt : Expr} {x : Str} {scope : Scope} {Q : Value → Shared → Prop} {b : Array UInt8} {tb : Tok} (g : Int → Str)
    (hh : A.handled = none) (F : Fr h₀ L s₁.heap m) (N : News h₀ L s₁.heap news) (hsz : b.size ≤ sizeLine)
    (g2 : ∀ C k t s₂ m₂ E', k ∈ KBw.bInts b → s₂.heap.Ns (compEnv scope C env).locals m₂ → m₂ x = some (.int k t) → Ext s₁.heap s₂.heap →
      wpAny (model prog w) A (eval elt (compEnv scope C env)) (fun r s₃ => Carried r (.str (g k)) ∧ Keeps s₂ s₃) E' s₂)
    (g3 : ∀ D (ys : List Value) h' tk, Fr h₀ L h' m → News h₀ L h' news → h₀.get? D = none → h'.IsList D ys.toArray → NewPlain h' news D ys.toArray → CarriedAll ys (((KBw.bInts b).map g).map PyData.str) → Q (.ref D) { s₁ with heap := h', toks := tk }) :
    wpAny (model prog w) A (pyIter (.bytes b tb)) (CompPost prog w A env scope x [] elt Q) E s₁ := by
  refine KBw.pyIter_bytes ?_
  have W := KBw.walks (prog := prog) (w := w) hh s₁.heap.objs.size b tb
  refine ⟨ItemKind.int.lift fun _ => true, fun v r => ∃ a, ItemKind.int.is a v ∧ Carried r (.str (g a)), s₁.heap.objs.size, [s₁.heap.objs.size], [s₁.heap.objs.size], b.size, _, _, rfl, W, hsz, ⟨_, Heap.get?_push_size _ rfl, rfl, rfl⟩, ?_, ⟨?_, ?_⟩, ?_⟩
  · intro a ha
    show a < (s₁.heap.push _).objs.size
    rw [Heap.size_push, List.mem_singleton.mp ha]
    exact Nat.lt_succ_self _
  · rintro C i v s₃ m₃ E' ⟨c, u, hc, rfl⟩ _ _ _ _
    exact wpAny_pure ⟨rfl, _, _, rfl, fun _ _ e => e⟩
  · rintro C i v s₃ m₃ E' ⟨c, u, hc, rfl⟩ _ hn hm hk _
    refine wpAny_mono (g2 C _ _ s₃ m₃ E' ?_ hn hm (old_up hk)) (fun r s₄ h₄ => ⟨⟨_, ⟨_, rfl⟩, h₄.1⟩, h₄.2⟩) fun _ _ e => e
    exact List.mem_of_getElem? (KBw.ints_get hc)
  · intro D h' tk ys vs' hnew hlD hplD hlen hP hF hk
    have up := old_up hk
    have hA : AreOf ItemKind.int vs' (KBw.bInts b) := AreOf.of_get (by rw [KBw.ints_length]; exact hlen) fun j v hj => by
      obtain ⟨c, u, hc, rfl⟩ := hP j v hj
      exact ⟨_, KBw.ints_get hc, _, rfl⟩
    have hC := hA.paired (fun _ => true) (fun a => .str (g a)) ys.toList hF
    refine g3 D ys.toList h' tk (fr_ext F up) (news_ext N up) ?_ (by rw [Array.toArray_toList]; exact hlD) ⟨by rw [Array.toArray_toList]; exact hplD, fun p hp e => by rw [← e, Heap.get?_push_of_some _ (N p hp).1] at hnew; cases hnew⟩ (by rw [List.filter_eq_self.mpr (fun _ _ => rfl)] at hC; rw [List.map_map]; exact hC)
    cases e : h₀.get? D with
    | none => rfl
    | some o' => rw [Heap.get?_push_of_some _ (F.keep _ _ e)] at hnew; cases hnew

theorem name_CB {M : Model} {K : Frag} {mg mb : Str → Option Value} {p : Program} {loose : List Str} {s : Shared} {h : Heap} {x : Str} {pos : Pos} {v : Value} {env : Env} {Q : Value → Shared → Prop} (X : K.In h) (T : TopRead p loose mg mb h) (e : Ext h s.heap)
    (hn : nsIn K mainGlobals x = some none) (hv : bootBuiltins x = some v) (hx0 : x ≠ "__name__") (hQ : Q v s) (hg : env.globals = mainGlobals) (hb : env.builtins = builtinsNs) (hk : env.scope.kind = .function) (hx : env.kindOf x = some .globalImplicit) (hd : (x == ("__debug__" : Str)) = false) :
    wpAny M A (eval (.Name x pos) env) Q E s :=
  Name_function_global hk hx (loadGlobal_builtin (env := env) (by rw [hg]; exact T.g.keeps e) (mg_none_of X T.g hn) (by rw [hb]; exact T.b.keeps e) ((T.builtins x hx0).trans hv) hQ) hd
theorem topread {p : Program} {loose : List Str} {mean : ExcName → Option Value} {mg mb : Str → Option Value} {h : Heap} (T : Top p loose mean mg mb h) : TopRead p loose mg mb h := topRead_of T
theorem ext_trans {a b c : Heap} (h1 : Ext a b) (h2 : Ext b c) : Ext a c := fun x o e => h2 x o (h1 x o e)

theorem join_ones' : ∀ l : List Int, Str.join ⟨#[]⟩ (l.map fun k => (⟨#[k.toNat]⟩ : Str)) = ⟨(l.map fun k => k.toNat).toArray⟩
  | [] => rfl
  | [k] => rfl
  | k :: k2 :: r => by
    have ih := join_ones' (k2 :: r)
    simp only [List.map_cons] at ih ⊢
    rw [join_cons_cons, ih]
    refine Str.ext' ?_
    rw [Str.cps_append, Str.cps_append]
    simp
theorem join_ones (l : List Int) : Txt.join ⟨#[]⟩ (l.map fun k => (⟨#[k.toNat]⟩ : Str)) = ⟨(l.map fun k => k.toNat).toArray⟩ := by
  show Builtin.Str.glued _ _ = _
  rw [StrLaws.glued_eq_join, join_ones']
end
end Mine
end PartCb

section PartC3
namespace Mine
local macro_rules | `(tactic| walk_at "call ref") => `(tactic| (k_here; k_dflt (refine' use (c_number _ _ _ _ _ _ _ _ _ _ _ _ ?l1 ?l2 ?l3 ?l4) ?k1 ?k2 ?k3 ?k4 ?k5 ?k6 ?_; (case k1 => k_asm); (case k2 => k_asm); (case k3 => k_asm); (case k4 => k_asm); (case k5 => ktr_room); (case k6 => ktr_units); (case l1 => exact Heap.IsList.at (by assumption) (fun o e => Fr.keep (by assumption) _ o e)); (case l2 => assumption); (case l3 => decide); (case l4 => decide); k_whole); intro r9 h9 tk9 F9 N9 X9 O9; obtain ⟨t9, O9⟩ := O9; subst O9; (try dsimp only)))
theorem c_ap1 (w : World) (mean mg mb) (s : Shared) (ns : List Int) (tn : Tok) (hn : ns.length ≤ 17) (hb : ∀ d ∈ ns, 0 ≤ d ∧ d < 16) :
   Gives w mean mg mb 46 1 8 [.int (num 16 1 ns) tn] s (fun r _ => ∃ t, r = .bytes (let16 (1 :: ns)) t) :=
  c_ap w mean mg mb s (1 :: ns) tn (fun d hd => by rcases List.mem_cons.mp hd with rfl | h; decide; exact hb d h) (by simp only [List.length_cons]; omega) ⟨1, ns, rfl, by decide⟩
local macro_rules | `(tactic| walk_at "call ref") => `(tactic| (k_here; k_dflt (refine' use (c_ap1 _ _ _ _ _ _ _ ?l1 ?l2) ?k1 ?k2 ?k3 ?k4 ?k5 ?k6 ?_; (case k1 => k_asm); (case k2 => k_asm); (case k3 => k_asm); (case k4 => k_asm); (case k5 => ktr_room); (case k6 => ktr_units); (case l1 => assumption); (case l2 => assumption); k_whole); intro r9 h9 tk9 F9 N9 X9 O9; obtain ⟨t9, O9⟩ := O9; subst O9; (try dsimp only)))
local macro_rules | `(tactic| walk_at "pyIter bytes") => `(tactic| ((with_reducible rename Fr _ _ _ _ => bF); (with_reducible rename News _ _ _ _ => bN); (refine comp_bytes (fun k => ⟨#[k.toNat]⟩) rfl bF bN ?bz ?bg ?bh); (case bz => simp only [let16, List.size_toArray, List.length_map, List.length_cons, sizeLine_eq]; omega); (case' bg => intro C9 k9 t9 s9 m9 E9 hk9 hn9 hm9 hx9); (case' bh => intro D9 ys9 h9 tk9 F9 N9 hD9 hl9 hp9 hc9)))
local macro_rules | `(tactic| walk_at "eval Name") => `(tactic| (k_here; k_inBlock; k_dflt (refine' name_CB ?k1 ?k2 ?k0 ?k3 ?k4 ?k5 ?_ ?j1 ?j2 ?j3 ?j4 ?j5; (case j1 => exact rfl); (case j2 => exact rfl); (case j3 => exact rfl); (case j4 => exact rfl); (case j5 => decide); (case k0 => exact ext_trans (Fr.keep (by assumption)) (by assumption)); (case k1 => k_asm); (case k2 => exact topread (by assumption)); (case k3 => k_is); (case k4 => boot_by_name); (case k5 => decide); k_whole)))
theorem len16 (ns : List Int) (hn : ns.length ≤ 17) : (KBw.bInts (let16 (1 :: ns))).length ≤ 1048576 := by
  rw [KBw.ints_length]
  simp only [let16, List.size_toArray, List.length_map, List.length_cons]
  omega
local macro_rules | `(tactic| walk_at "call builtin:str.join") => `(tactic| ((with_reducible show wpAny _ _ (call (Value.builtin "str.join") [Value.str _ _, Value.ref _]) _ _ _); (with_reducible rename CarriedAll _ _ => hc'); (refine join_madeW 1 (by assumption) hc' ?b1 ?b2 ?b3 ?_); (case b1 => intro _ _; exact Nat.le_refl _); (case b2 => exact len16 _ (by assumption)); (case b3 => decide); intro _ _; rw [show Str.ofString "" = ⟨#[]⟩ from by decide, join_ones]))
def rowStr (ns : List Int) : Str := ⟨(ns.map fun d => (65 + d).toNat).toArray⟩
theorem ints16 : ∀ (ds : List Int), (∀ d ∈ ds, 0 ≤ d ∧ d < 16) → (KBw.bInts (let16 ds)).map (fun k => k.toNat) = ds.map fun d => (65 + d).toNat
  | [], _ => rfl
  | d :: r, h => by
    have ih := ints16 r fun x hx => h x (.tail _ hx)
    have hd := h d (.head _)
    simp only [let16, KBw.bInts, List.map_cons, List.map_map] at ih ⊢
    rw [ih]
    congr 1
    show ((((65 + d).toNat.toUInt8.toNat : Nat) : Int)).toNat = _
    have e : (65 + d).toNat.toUInt8.toNat = (65 + d).toNat := by
      show (65 + d).toNat % 256 = _
      omega
    rw [e]
    rfl
theorem row_slice {ns : List Int} (hb : ∀ d ∈ ns, 0 ≤ d ∧ d < 16) : Txt.slice ⟨((KBw.bInts (let16 (1 :: ns))).map fun k => k.toNat).toArray⟩ (some 1) none = rowStr ns := by
  rw [ints16 _ (fun d hd => by rcases List.mem_cons.mp hd with rfl | h; decide; exact hb d h)]
  have hlen : (Str.length ⟨((1 :: ns).map fun d => (65 + d).toNat).toArray⟩) = ns.length + 1 := by
    simp [Str.length]
  rw [slice_from_eq (b := ((ns.length + 1 : Nat) : Int)) (by decide) (by rw [hlen]; omega) (by rw [hlen])]
  show (⟨((((1 :: ns).map fun d => (65 + d).toNat).drop 1).take (((ns.length + 1 : Nat) : Int) - 1).toNat).toArray⟩ : Str) = _
  rw [List.map_cons, List.drop_succ_cons, List.drop_zero, List.take_of_length_le (by rw [List.length_map]; omega)]
  rfl
theorem row_len {ns : List Int} (hn : ns.length ≤ 17) : Str.length ⟨((KBw.bInts (let16 (1 :: ns))).map fun k => k.toNat).toArray⟩ ≤ sizeLine := by
  simp only [Str.length, List.size_toArray, List.length_map, KBw.ints_length, let16, List.length_cons, sizeLine_eq]
  omega
local macro_rules | `(tactic| walk_at "subscriptTail") => `(tactic| (k_here; (with_reducible show wpAny _ _ (subscriptTail _ (Expr.Slice (some _) none none _) (Value.str _ _) (Value.ref _)) _ _ _); (with_reducible rename Fr _ _ _ _ => F'); (with_reducible rename News _ _ _ _ => N'); (refine slice_strN_sn (hsz := ?hsz) (s := ⟨_, _, _, _, _⟩) F' N' ?_); (case hsz => exact row_len (by assumption)); intro _ _ _ _ _; rw [row_slice (by assumption)]))
local macro_rules | `(tactic| walk_at "call builtin:chr") => `(tactic| (refine chr_of_range (KBw.ints_in (by assumption)).1 (by have hk9 := (KBw.ints_in (by assumption)).2; omega) ?_; exact ⟨.str _ _, _, _, rfl, fun _ _ e => e⟩))
set_option maxRecDepth 100000 in
set_option maxHeartbeats 4000000 in
theorem c_row (w : World) (mean mg mb) (s : Shared) (l : Addr) (vs : List Value) (ns : List Int) (hl : s.heap.IsList l vs.toArray) (hI : IntsAre vs ns) (hn : ns.length ≤ 17) (hb : ∀ d ∈ ns, 0 ≤ d ∧ d < 16) :
   Gives w mean mg mb 58 5 32 [.ref l] s (fun r _ => ∃ t, r = .str (rowStr ns) t) := by
  unfold Gives
  w_top off
  k_fill
  intro dp un fr gd Q E X T hd hu hret
  k_dflt (refine' enter (binds := [(Str.ofString "bits", Value.ref l)]) ?k1 ?k2 ?k3 ?k4 ?k5 ?k6 ?k7 ?_ ?c1 ?c2 ?c3 ?c4; (case k1 => k_asm); (case k2 => k_asm); (case k3 => k_is); (case k4 => k_is); (case k5 => ktr_room); (case k6 => exact BindsTo.of_eq rfl); (case k7 => exact locs rfl); (case c4 => decide);  (case c1 => exact rfl); (case c2 => exact rfl); (case c3 => exact rfl))
  intro h' F' N'
  (try dsimp only)
  (k_with_none)
  k_steps
  exact hret _ _ _ (Fr.keep (by assumption)) ⟨_, rfl⟩
end Mine
end PartC3

section PartC4
namespace Mine
def bitsL (n : Int) (z : Nat) : List Int := (rangeKs 0 z).map fun k => (n.fdiv (2 ^ ((z : Int) - 1 - k).toNat)).fmod 2
theorem bitsL_eq (n : Int) (z : Nat) : (rangeKs 0 ((z : Int) - 0).toNat).map (fun k => (n.fdiv (2 ^ ((z : Int) - 1 - k).toNat)).fmod 2) = bitsL n z := by
  unfold bitsL
  rw [show ((z : Int) - 0).toNat = z by omega]
/-- a new list of the ints `ns` -/
def NewList (h h' : Heap) (r : Value) (ns : List Int) : Prop := ∃ l vs n, r = .ref l ∧ h.get? l = none ∧ h'.get? l = some (listOf (List.toArray vs) n) ∧ IntsAre vs ns
theorem newList {h₀ h : Heap} {L D : Addr} {ys : List Value} {ns : List Int} {n : Nat} {news : List (Addr × Obj)} (N : News h₀ L h ((D, listOf ys.toArray n) :: news)) (hI : IntsAre ys ns) : NewList h₀ h (.ref D) ns :=
  ⟨D, ys, n, rfl, (N _ (.head _)).2.2, (N _ (.head _)).1, hI⟩
theorem useL {w : World} {mean : ExcName → Option Value} {mg mb : Str → Option Value} {f : Addr} {dn uu dp un : Nat} {vs : List Value} {s : Shared} {ns : List Int} {fr : Option (List Env)} {gd : Option (List Code)} {h₀ : Heap} {L : Addr} {m : Str → Option Value} {news : List (Addr × Obj)} {Q E : Value → Shared → Prop}
    (G : Gives w mean mg mb f dn uu vs s (fun r h => NewList s.heap h r ns)) (F : Fr h₀ L s.heap m) (X : (hd.heap_39 w.params).In h₀) (N : News h₀ L s.heap news) (T : Top hd.view_39 (looseW hd.view_39 [Str.ofString "escape", Str.ofString "quoteattr"]) mean mg mb h₀)
    (hd' : dp + dn < recursionLimit) (hu : un + uu < cLine)
    (ret : ∀ l us n h' tk', Fr h₀ L h' m → News h₀ L h' ((l, listOf (List.toArray us) n) :: news) → IntsAre us ns → Q (.ref l) { s with heap := h', toks := tk' }) :
    wpAny (model Challenge.rw_ik0019_01.row.prog w) (ar dp un fr gd) (call (.ref f) vs) Q E s :=
  use G F X N T hd' hu fun r h' tk' F' _ e o => by
    obtain ⟨l, us, n, rfl, hn, ho, hI⟩ := o
    exact ret l us n h' tk' F' (news_new F N e hn ho) hI
set_option maxRecDepth 100000 in
set_option maxHeartbeats 4000000 in
theorem c_bits (w : World) (mean mg mb) (s : Shared) (n : Int) (z : Nat) (tn tz : Tok) (h0 : 0 ≤ n) (h1 : n < 2 ^ 20) (hz : z ≤ 17) :
   Gives w mean mg mb 63 5 32 [.int n tn, .int (z : Int) tz] s (fun r h => NewList s.heap h r (bitsL n z)) := by
  unfold Gives
  w_top off
  k_fill
  intro dp un fr gd Q E X T hd hu hret
  k_dflt (refine' enterC (binds := [(Str.ofString "number", Value.int n tn), (Str.ofString "size", Value.int (z : Int) tz)]) ?k1 ?k2 ?k3 ?k4 ?k5 ?k6 ?k7 ?k8 ?_ ?c1 ?c2 ?c3; (case k1 => k_asm); (case k2 => k_asm); (case k3 => k_is); (case k4 => k_is); (case k5 => ktr_room); (case k6 => exact BindsTo.of_eq rfl); (case k7 => exact rfl); (case k8 => decide +kernel);  (case c1 => exact rfl); (case c2 => exact rfl); (case c3 => exact rfl))
  intro h' tk' cells' F' N' Y'
  k_cells Y'
  (try simp only [List.cons_append, List.nil_append] at N')
  (try dsimp only)
  (k_with_none)
  k_steps
  rename IntsAre _ _ => hI
  rw [bitsL_eq] at hI
  exact hret _ _ _ (Fr.keep (by assumption)) (newList (by assumption) hI)
end Mine
end PartC4

section PartC5
namespace Mine
theorem getD_bit {ns : List Int} (hb : ∀ d ∈ ns, 0 ≤ d ∧ d < 2) (i : Nat) : 0 ≤ ns.getD i 0 ∧ ns.getD i 0 < 2 := by
  by_cases h : i < ns.length
  · have e : ns.getD i 0 = ns[i] := by simp [List.getD, h]
    rw [e]; exact hb _ (List.getElem_mem h)
  · have e : ns.getD i 0 = 0 := by simp [List.getD, Nat.not_lt.mp h]
    rw [e]; decide
theorem mulOk1 {ns : List Int} (hb : ∀ d ∈ ns, 0 ≤ d ∧ d < 2) (a : Int) (i : Nat) : IntMulOk a (ns.getD i 0) :=
  IntMulOk.of_right (intBits_le_64 (by have := getD_bit hb i; omega) (by have := getD_bit hb i; omega))
theorem mulOk2 {ns : List Int} (hb : ∀ d ∈ ns, 0 ≤ d ∧ d < 2) (a : Int) (i : Nat) : IntMulOk a (1 - ns.getD i 0) :=
  IntMulOk.of_right (intBits_le_64 (by have := getD_bit hb i; omega) (by have := getD_bit hb i; omega))
local macro_rules | `(tactic| walk_at "binaryOp Mult int int") => `(tactic| first | refine mul_int ?_ (mulOk1 (by assumption) _ _) | refine mul_int ?_ (mulOk2 (by assumption) _ _))
def markedL (ns : List Int) : List Int := (rangeKs 0 ns.length).map fun k => if 1 < k then ns.getD k.toNat 0 * ns.getD (k - 1).toNat 0 * (1 - ns.getD (k - 2).toNat 0) else 0
theorem markedL_eq (ns : List Int) : (rangeKs 0 ((ns.length : Int) - 0).toNat).map (fun k => if 1 < k then ns.getD k.toNat 0 * ns.getD (k - 1).toNat 0 * (1 - ns.getD (k - 2).toNat 0) else 0) = markedL ns := by
  unfold markedL
  rw [show ((ns.length : Int) - 0).toNat = ns.length by omega]
set_option maxRecDepth 100000 in
set_option maxHeartbeats 4000000 in
theorem c_marked (w : World) (mean mg mb) (s : Shared) (l : Addr) (vs : List Value) (ns : List Int) (hl : s.heap.IsList l vs.toArray) (hI : IntsAre vs ns) (hn : ns.length ≤ 17) (hb : ∀ d ∈ ns, 0 ≤ d ∧ d < 2) :
   Gives w mean mg mb 68 5 32 [.ref l] s (fun r h => NewList s.heap h r (markedL ns)) := by
  unfold Gives
  w_top off
  k_fill
  intro dp un fr gd Q E X T hd hu hret
  k_dflt (refine' enterC (binds := [(Str.ofString "bits", Value.ref l)]) ?k1 ?k2 ?k3 ?k4 ?k5 ?k6 ?k7 ?k8 ?_ ?c1 ?c2 ?c3; (case k1 => k_asm); (case k2 => k_asm); (case k3 => k_is); (case k4 => k_is); (case k5 => ktr_room); (case k6 => exact BindsTo.of_eq rfl); (case k7 => exact rfl); (case k8 => decide +kernel);  (case c1 => exact rfl); (case c2 => exact rfl); (case c3 => exact rfl))
  intro h' tk' cells' F' N' Y'
  k_cells Y'
  (try simp only [List.cons_append, List.nil_append] at N')
  (try dsimp only)
  (k_with_none)
  k_steps
  rename IntsAre _ _ => hI9
  rw [markedL_eq] at hI9
  exact hret _ _ _ (Fr.keep (by assumption)) (newList (by assumption) hI9)
end Mine
end PartC5

section PartWl
namespace Mine
section
variable {prog : Program} {w : World} {A : Around} {E : Value → Shared → Prop} {Q : Flow → Shared → Prop} {s : Shared} {env : Env} {h₀ : Heap} {L : Addr}
/-- a turn's end: the list at `a` is `ns'` now, all else stands -/
def WlEnd (h₀ : Heap) (L : Addr) (m₀ : Str → Option Value) (a : Addr) (rest : List (Addr × Obj)) (P : List Int → Prop) (μ : List Int → Nat) (ns : List Int) (s s₂ : Shared) : Prop :=
  ∃ h' tk' vs' n' ns' news', s₂ = { s with heap := h', toks := tk' } ∧ Fr h₀ L h' m₀ ∧ News h₀ L h' news' ∧ (∀ p ∈ (a, listOf (List.toArray vs') n') :: rest, p ∈ news') ∧ IntsAre vs' ns' ∧ P ns' ∧ μ ns' < μ ns
def WlPost (h₀ : Heap) (L : Addr) (m₀ : Str → Option Value) (a : Addr) (rest : List (Addr × Obj)) (P : List Int → Prop) (μ : List Int → Nat) (ns : List Int) (s : Shared) (Q : Flow → Shared → Prop) (f : Flow) (s₂ : Shared) : Prop :=
  match f with
  | .ret v => Q (.ret v) s₂
  | .brk => Q .next s₂
  | _ => WlEnd h₀ L m₀ a rest P μ ns s s₂
theorem while_list {test : Expr} {body : List Stmt} {pos : Pos} {m₀ : Str → Option Value} {a : Addr} {vs₀ : List Value} {n₀ : Nat} {ns₀ : List Int} {rest : List (Addr × Obj)} (P : List Int → Prop) (μ : List Int → Nat)
    (F : Fr h₀ L s.heap m₀) (N : News h₀ L s.heap ((a, listOf vs₀.toArray n₀) :: rest)) (hI : IntsAre vs₀ ns₀) (hp : P ns₀)
    (turn : ∀ vs n ns h tk, IntsAre vs ns → P ns → Fr h₀ L h m₀ → News h₀ L h ((a, listOf vs.toArray n) :: rest) →
      wpAny (model prog w) A (isTrue test env (eval test env)) (fun b s₂ =>
        if b = true then wpAny (model prog w) A (execs body env) (WlPost h₀ L m₀ a rest P μ ns s Q) E s₂ else Q .next s₂) E { s with heap := h, toks := tk })
    (hE : PassesOwn (model prog w) A env E := by passes_own) :
    wpAny (model prog w) A (exec (.While test body [] pos) env) Q E s := by
  refine ksw_while (σ := List Value × Nat × List Int) (fun c => (a, listOf c.1.toArray c.2.1) :: rest) (fun _ => []) (fun c => IntsAre c.1 c.2.2) [] (fun c => P c.2.2) (fun c => μ c.2.2) (vs₀, n₀, ns₀) F N hI (fun _ hm => nomatch hm) hp ?_ hE
  rintro ⟨vs, n, ns⟩ u h tk hI' hP' F' N'
  have F'' : Fr h₀ L h m₀ := by simpa [kstB] using F'
  refine wpAny_mono (turn vs n ns h tk hI' hP' F'' N') (fun b s₂ hb => ?_) fun _ _ e => e
  cases b with
  | false => simpa using hb
  | true =>
    simp only [if_true] at hb ⊢
    refine wpAny_mono hb (fun f s₃ q => ?_) fun _ _ e => e
    have fin : WlEnd h₀ L m₀ a rest P μ ns s s₃ → KswEnd h₀ L s (fun c : List Value × Nat × List Int => (a, listOf c.1.toArray c.2.1) :: rest) (fun _ => []) (fun c => IntsAre c.1 c.2.2) [] m₀ (fun c => P c.2.2) (fun c => μ c.2.2) (vs, n, ns) s₃ := by
      rintro ⟨h', tk', vs', n', ns', news', rfl, F3, N3, hs, hI3, hP3, hμ⟩
      exact ⟨(vs', n', ns'), h', tk', m₀, news', rfl, F3, N3, hs, hI3, (fun _ hm => nomatch hm), (fun _ _ _ => rfl), hP3, hμ⟩
    cases f with
    | ret v => exact q
    | brk => exact q
    | next => exact fin q
    | cont => exact fin q
end
def fib : Nat → Int
  | 0 => 1
  | 1 => 2
  | n + 2 => fib (n + 1) + fib n
def fibs (k : Nat) : List Int := (List.range k).map fib
end Mine
end PartWl

section PartC6
namespace Mine
local macro_rules | `(tactic| walk_at "exec While Compare cons nil") => `(tactic| k_extra "exec While Compare cons nil")
local macro_rules | `(tactic| walk_at "binaryOp Mult int int") => `(tactic| first | refine mul_int ?_ (mulOk1 (by assumption) _ _) | refine mul_int ?_ (mulOk2 (by assumption) _ _))
theorem item_last {prog : Program} {w : World} {A : Around} {E : Value → Shared → Prop} {s : Shared} {value slice : PySem.Expr} {l : Addr} {us : List Value} {k : Int} {u : Tok} {v : Value} {Q : Value → Shared → Prop} {h₀ : Heap} {L : Addr} {n : Nat} {rest : List (Addr × Obj)}
    (N : News h₀ L s.heap ((l, listOf (us.toArray.push v) n) :: rest)) (hk : k = (us.length : Int)) (hz : us.length ≤ 1000) (h : Q v s)
    (hs : subscripted slice false (.ref l) (.int k u) = operate [.ref l, .int k u] (getItem (.ref l) (.int k u)) := by with_unfolding_all rfl) :
    wpAny (model prog w) A (subscriptTail value slice (.ref l) (.int k u)) Q E s :=
  have hl : s.heap.IsList l (us.toArray.push v) := ⟨_, (N _ (.head _)).1, rfl, _, rfl⟩
  tail_any hl.typeIs slot_list_getitem.lookup (wpAny_getItem_list hl (by omega) (by omega) (by subst hk; simp) h) hs
local macro_rules | `(tactic| walk_at "subscriptTail Name Name ref int") => `(tactic| (k_here; (with_reducible show wpAny _ _ (subscriptTail _ _ (Value.ref _) (Value.int _ _)) _ _ _); (refine' item_last ?k1 ?k2 ?k3 ?_); (case k1 => with_reducible assumption); (case k2 => omega); (case k3 => omega)))
def Stop (P : Prop) : Prop := P
theorem Stop.out {P : Prop} (h : Stop P) : P := h
local macro_rules | `(tactic| walk_at "InvEndN") => `(tactic| (refine Stop.out ?_))
/-- the greedy row's state behind `j` places: what is left, the row -/
def grS (ns ps : List Int) : Nat → Int × List Int
  | 0 => (((rangeKs 0 ns.length).map fun k => ps.getD ((ns.length : Int) - 1 - k).toNat 0 * ns.getD k.toNat 0).sum, [])
  | j + 1 => if ps.getD ((ns.length : Int) - 1 - j).toNat 0 ≤ (grS ns ps j).1 then ((grS ns ps j).1 - ps.getD ((ns.length : Int) - 1 - j).toNat 0, (grS ns ps j).2 ++ [1]) else ((grS ns ps j).1, (grS ns ps j).2 ++ [0])
def greedyL (ns : List Int) : List Int := (grS ns (fibs ns.length) ns.length).2
def GrInv (ns ps : List Int) (pre : List Int) (left : Int) (row : List Int) : Prop := (left, row) = grS ns ps pre.length
theorem gr_start (ns ps : List Int) : ([] : List Int).length = ([] : List Int).length ∧ GrInv ns ps [] (((rangeKs 0 ((ns.length : Int) - 0).toNat).map fun k => ps.getD ((ns.length : Int) - 1 - k).toNat 0 * ns.getD k.toNat 0).sum) [] := by
  refine ⟨rfl, ?_⟩
  rw [show ((ns.length : Int) - 0).toNat = ns.length by omega]
  rfl
theorem gr_yes {ns ps pre row : List Int} {left k : Int} (h : GrInv ns ps pre left row) (hl : row.length = pre.length) (hk : k = 0 + (pre.length : Int)) (hc : ps.getD ((ns.length : Int) - 1 - k).toNat 0 ≤ left) :
    (row ++ [1]).length = (pre ++ [k]).length ∧ GrInv ns ps (pre ++ [k]) (left - ps.getD ((ns.length : Int) - 1 - k).toNat 0 * 1) (row ++ [1]) := by
  refine ⟨by simp [hl], ?_⟩
  have e : k = (pre.length : Int) := by omega
  subst e
  unfold GrInv at h ⊢
  rw [List.length_append, List.length_singleton, grS, ← h, if_pos hc, Int.mul_one]
theorem gr_no {ns ps pre row : List Int} {left k : Int} (h : GrInv ns ps pre left row) (hl : row.length = pre.length) (hk : k = 0 + (pre.length : Int)) (hc : ¬ ps.getD ((ns.length : Int) - 1 - k).toNat 0 ≤ left) :
    (row ++ [0]).length = (pre ++ [k]).length ∧ GrInv ns ps (pre ++ [k]) (left - ps.getD ((ns.length : Int) - 1 - k).toNat 0 * 0) (row ++ [0]) := by
  refine ⟨by simp [hl], ?_⟩
  have e : k = (pre.length : Int) := by omega
  subst e
  unfold GrInv at h ⊢
  rw [List.length_append, List.length_singleton, grS, ← h, if_neg hc, Int.mul_zero, Int.sub_zero]
theorem gr_end {ns ps row : List Int} {left : Int} (h : GrInv ns ps (rangeKs 0 ((ns.length : Int) - 0).toNat) left row) (h1 : ps.length ≤ ns.length) (h2 : ps = fibs ps.length) (h3 : ¬ (ps.length : Int) < ns.length) : row = greedyL ns := by
  have e : ps.length = ns.length := by omega
  rw [e] at h2
  subst h2
  unfold GrInv at h
  rw [rangeKs_length, show ((ns.length : Int) - 0).toNat = ns.length by omega] at h
  exact congrArg Prod.snd h
theorem fibs_snoc {ps : List Int} (h2 : 2 ≤ ps.length) (h : ps = fibs ps.length) : ps ++ [ps.getD ((-1 : Int) + (ps.length : Nat)).toNat 0 + ps.getD ((-2 : Int) + (ps.length : Nat)).toNat 0] = fibs (ps ++ [ps.getD ((-1 : Int) + (ps.length : Nat)).toNat 0 + ps.getD ((-2 : Int) + (ps.length : Nat)).toNat 0]).length := by
  obtain ⟨n, hn⟩ : ∃ n, ps.length = n + 2 := ⟨ps.length - 2, by omega⟩
  rw [List.length_append, List.length_singleton, hn]
  have e1 : ((-1 : Int) + ((n + 2 : Nat) : Int)).toNat = n + 1 := by omega
  have e2 : ((-2 : Int) + ((n + 2 : Nat) : Int)).toNat = n := by omega
  rw [e1, e2]
  rw [hn] at h
  have g : ∀ i, i < n + 2 → ps.getD i 0 = fib i := fun i hi => by
    rw [h]; simp [fibs, List.getD, hi]
  rw [g (n + 1) (by omega), g n (by omega), h]
  unfold fibs
  rw [List.range_succ (n := n + 2), List.map_append]
  rfl
set_option maxRecDepth 100000 in
set_option maxHeartbeats 4000000 in
theorem c_greedy (w : World) (mean mg mb) (s : Shared) (l : Addr) (vs : List Value) (ns : List Int) (hl : s.heap.IsList l vs.toArray) (hI : IntsAre vs ns) (hn2 : 2 ≤ ns.length) (hn : ns.length ≤ 17) (hb : ∀ d ∈ ns, 0 ≤ d ∧ d < 2) :
   Gives w mean mg mb 73 5 32 [.ref l] s (fun r h => NewList s.heap h r (greedyL ns)) := by
  unfold Gives
  w_top off
  k_fill
  intro dp un fr gd Q E X T hd hu hret
  k_dflt (refine' enterC (binds := [(Str.ofString "bits", Value.ref l)]) ?k1 ?k2 ?k3 ?k4 ?k5 ?k6 ?k7 ?k8 ?_ ?c1 ?c2 ?c3; (case k1 => k_asm); (case k2 => k_asm); (case k3 => k_is); (case k4 => k_is); (case k5 => ktr_room); (case k6 => exact BindsTo.of_eq rfl); (case k7 => exact rfl); (case k8 => decide +kernel);  (case c1 => exact rfl); (case c2 => exact rfl); (case c3 => exact rfl))
  intro h' tk' cells' F' N' Y'
  k_cells Y'
  (try simp only [List.cons_append, List.nil_append] at N')
  (try dsimp only)
  (k_with_none)
  (k_with "exec While Compare cons nil" => ((rename Fr _ _ _ _ => lF'); (rename News _ _ _ _ => lN'); (refine while_list (fun ps => 2 ≤ ps.length ∧ ps.length ≤ ns.length ∧ ps = fibs ps.length) (fun ps => ns.length - ps.length) lF' lN' (IntsAre.cons _ _ (.cons _ _ .nil)) ?wp ?wt); (case wp => exact ⟨by decide, by assumption, rfl⟩); (intro vs9 n9 ps9 h9 tk9 hI9 hP9 F9 N9); (obtain ⟨hP1, hP2, hP3⟩ := hP9)))
  (k_with "pyIter ref" => k_state (fun pre left row => row.length = pre.length ∧ GrInv ns ps9 pre left row) "left" "row")
  (k_with "state" => exact gr_start _ _)
  k_steps
  · rename News _ _ _ _ => nE'
    simp only [List.push_toArray] at nE'
    refine ⟨_, _, _, _, _, _, rfl, by assumption, nE', fun p hp => hp, IntsAre.append hI9 (.cons _ _ .nil), ⟨?_, ?_, ?_⟩, ?_⟩
    · rw [List.length_append, List.length_singleton]; omega
    · rw [List.length_append, List.length_singleton]; omega
    · exact fibs_snoc hP1 hP3
    · dsimp only; rw [List.length_append, List.length_singleton]; omega
  · unfold Stop
    rename News _ _ _ _ => nE'
    simp only [List.push_toArray] at nE'
    refine' kst_end ⟨_, _, _, _, _⟩ (by assumption) nE' ?hn ?ho ?ha ?hf ?hk ?hr ?hp
    case hn => refine' List.forall_mem_cons.mpr ⟨.head _, List.forall_mem_cons.mpr ⟨.tail _ (.head _), List.forall_mem_cons.mpr ⟨.tail _ (.tail _ (.head _)), List.forall_mem_cons.mpr ⟨.tail _ (.tail _ (.tail _ (.head _))), List.forall_mem_cons.mpr ⟨.tail _ (.tail _ (.tail _ (.tail _ (.head _)))), List.forall_mem_nil _⟩⟩⟩⟩⟩
    case ha => exact rfl
    case ho => exact fun p hp => .tail _ (.tail _ (.tail _ (.tail _ (.tail _ hp))))
    case hf => exact IntsAre.append (by assumption) (.cons _ _ .nil)
    case hk => exact List.forall_mem_cons.mpr ⟨by (dsimp only; exact if_pos rfl), List.forall_mem_nil _⟩
    case hr =>
      intro z h1 h2 h3
      have h4 : z ≠ Str.ofString "left" := h2 _ (.head _)
      have h5 : z ≠ Str.ofString "count" := by simpa using h3
      simp only [if_neg h1, if_neg h4, if_neg h5, h3, Bool.false_eq_true, if_false]
    case hp => exact gr_yes (by assumption) (by assumption) (by assumption) (by assumption)
  · unfold Stop
    rename News _ _ _ _ => nE'
    simp only [List.push_toArray] at nE'
    refine' kst_end ⟨_, _, _, _, _⟩ (by assumption) nE' ?hn ?ho ?ha ?hf ?hk ?hr ?hp
    case hn => refine' List.forall_mem_cons.mpr ⟨.head _, List.forall_mem_cons.mpr ⟨.tail _ (.head _), List.forall_mem_cons.mpr ⟨.tail _ (.tail _ (.head _)), List.forall_mem_cons.mpr ⟨.tail _ (.tail _ (.tail _ (.head _))), List.forall_mem_cons.mpr ⟨.tail _ (.tail _ (.tail _ (.tail _ (.head _)))), List.forall_mem_nil _⟩⟩⟩⟩⟩
    case ha => exact rfl
    case ho => exact fun p hp => .tail _ (.tail _ (.tail _ (.tail _ (.tail _ hp))))
    case hf => exact IntsAre.append (by assumption) (.cons _ _ .nil)
    case hk => exact List.forall_mem_cons.mpr ⟨by (dsimp only; exact if_pos rfl), List.forall_mem_nil _⟩
    case hr =>
      intro z h1 h2 h3
      have h4 : z ≠ Str.ofString "left" := h2 _ (.head _)
      have h5 : z ≠ Str.ofString "count" := by simpa using h3
      simp only [if_neg h1, if_neg h4, if_neg h5, h3, Bool.false_eq_true, if_false]
    case hp => exact gr_no (by assumption) (by assumption) (by assumption) (by assumption)
  · rename GrInv _ _ _ _ _ => hg9
    have e9 := gr_end hg9 (by assumption) (by assumption) (by assumption)
    subst e9
    exact hret _ _ _ (Fr.keep (by assumption)) (newList (by assumption) (by assumption))
end Mine
end PartC6

section PartDd
namespace Mine
/-- the very entries of a dict, in their order: keys and values -/
def Holds (h : Heap) (d : Addr) (l : List (Value × Value)) : Prop := ∃ o es ep, h.get? d = some o ∧ o.data = .dict es ep ∧ es.toList.map (fun e => (e.key, e.val)) = l
theorem Holds.up {h h' : Heap} {d : Addr} {l : List (Value × Value)} (x : Holds h d l) (e : ∀ o, h.get? d = some o → h'.get? d = some o) : Holds h' d l := let ⟨o, es, ep, a, b, c⟩ := x; ⟨o, es, ep, e o a, b, c⟩
theorem merged_app {K : Type} [DecidableEq K] : ∀ (more kvs : List (K × Value)), ((kvs ++ more).map (·.1)).Nodup → merged kvs more = kvs ++ more
  | [], kvs, _ => by simp [merged]
  | (k, v) :: more, kvs, h => by
    have hk : ¬ (kvs.any fun kv => decide (kv.1 = k)) = true := by
      rw [List.any_eq_true]; rintro ⟨kv, hkv, he⟩
      rw [List.map_append, List.nodup_append] at h
      exact h.2.2 kv.1 (List.mem_map_of_mem hkv) k (by simp) (of_decide_eq_true he)
    have e : stored kvs k v = kvs ++ [(k, v)] := by rw [stored, if_neg hk]
    have := merged_app more (kvs ++ [(k, v)]) (by simpa using h)
    simpa [merged, e] using this
section
variable {prog : Program} {w : World} {K : Type} [DecidableEq K] {knd : KeyKind prog w K} {A : Around} {E : Value → Shared → Prop} {s : Shared}

theorem dictPut_pairs {d : Addr} {kvs : List (K × Value)} {k : K} {key v : Value} {Q : Unit → Shared → Prop} (hkey : knd.is k key = true) (hm : s.heap.DictOf knd d kvs)
    (hQ : ∀ h', h'.DictOf knd d (stored kvs k v) → Heap.SameBut d s.heap h' → (k ∉ kvs.map (·.1) → ∀ l, Holds s.heap d l → Holds h' d (l ++ [(key, v)])) → Q () { s with heap := h' })
    (hsz : kvs.length ≤ 1000) : wpAny (model prog w) A (dictPut d (knd.hash k) key v) Q E s := by
  obtain ⟨o, es, ep, ho, hc, hd, hk, hp, hn⟩ := hm
  have hes : es.size ≤ sizeLine := by
    have e1 := hp.length
    have e2 : es.toList.length = es.size := by simp
    rw [sizeLine_eq]; omega
  unfold dictPut
  refine wpAny_bind (wpAny_dictFind_of hkey ho hd hk ?_)
  have hidx : (es.findIdx? fun e => knd.is k e.key) = kvs.findIdx? fun kv => decide (kv.1 = k) := by
    rw [← hp.findIdx k]; obtain ⟨l⟩ := es; simp
  cases hi : es.findIdx? fun e => knd.is k e.key with
  | some i =>
    refine wpAny_updateDict ho hd (hQ _ ⟨_, _, ep, Heap.get?_update_self _ ho (Obj.isFreed_of_dict (Obj.data_mapDict hd _)),
      hc.mapDict _, Obj.data_mapDict hd _, hk.modify _ _, ?_, ?_⟩ (Heap.SameBut.update ..) fun hnot _ _ => absurd ?_ hnot)
    · rw [stored, if_pos (any_of_findIdx_some (hidx ▸ hi))]
      have hl : (es.toList.findIdx? fun e => knd.is k e.key) = some i := by rw [← hi]; obtain ⟨l⟩ := es; simp
      have := hp.modify hn hl v
      obtain ⟨l⟩ := es
      simpa using this
    · rw [stored, if_pos (any_of_findIdx_some (hidx ▸ hi)), keys_map_store]; exact hn
    · have ha := any_of_findIdx_some (hidx ▸ hi)
      rw [List.any_eq_true] at ha
      obtain ⟨kv, hkv, he⟩ := ha
      exact List.mem_map.mpr ⟨kv, hkv, of_decide_eq_true he⟩
  | none =>
    have hnot : k ∉ kvs.map (·.1) := not_mem_of_findIdx_none (hidx ▸ hi)
    have hany : ¬ (kvs.any fun kv => decide (kv.1 = k)) = true := by
      rw [List.any_eq_true]; rintro ⟨kv, hkv, he⟩
      exact hnot (List.mem_map.mpr ⟨kv, hkv, of_decide_eq_true he⟩)
    refine wpAny_updateDictKeys (hz := hes) ho hd (hQ _ ⟨_, _, ep + 1, Heap.get?_update_self _ ho (Obj.isFreed_of_dict (Obj.data_mapDictKeys hd _)),
      hc.mapDictKeys _, Obj.data_mapDictKeys hd _, hk.push hkey _, ?_, ?_⟩ (Heap.SameBut.update ..) ?_)
    · rw [stored, if_neg hany]
      have := hp.append hkey (knd.hash k) v
      obtain ⟨l⟩ := es
      simpa using this
    · rw [stored, if_neg hany, List.map_append, List.nodup_append]
      refine ⟨hn, by simp, ?_⟩
      intro a ha b hb
      simp only [List.map_cons, List.map_nil, List.mem_singleton] at hb
      subst hb
      exact fun e => hnot (e ▸ ha)
    · rintro _ l ⟨o', es', ep', ho', hd', rfl⟩
      rw [ho] at ho'
      injection ho' with ho'
      subst ho'
      rw [hd] at hd'
      injection hd' with e1 e2
      subst e1
      exact ⟨_, _, _, Heap.get?_update_self _ ho (Obj.isFreed_of_dict (Obj.data_mapDictKeys hd _)), Obj.data_mapDictKeys hd _, by simp⟩

theorem byValue_noRef {v : Value} (h : carriedByValue v = true) : ∀ a, v ≠ .ref a := by
  rintro a rfl
  exact absurd h Bool.false_ne_true

theorem merge_dict {d o : Addr} {kvs more : List (K × Value)} {Q : Unit → Shared → Prop} (hdo : d ≠ o) (hoS : (o == sysModules) = false)
    (hd : s.heap.DictOf knd d kvs) (ho : s.heap.DictOf knd o more)
    (hQ : ∀ h', h'.DictOf knd d (merged kvs more) → Heap.SameBut d s.heap h' → (((kvs ++ more).map (·.1)).Nodup → ∀ l l', Holds s.heap d l → Holds s.heap o l' → Holds h' d (l ++ l')) → Q () { s with heap := h' })
    (hsz : kvs.length + more.length ≤ 1000) :
    wpAny (model prog w) A (mergeMapping d (.ref o) false) Q E s := by
  obtain ⟨od, esd, epd, hod, hcd, hdd, hkd, hpd, hnd⟩ := id hd
  obtain ⟨oo, eso, epo, hoo, hco, hdo', hko, hpo, hno⟩ := id ho
  have hlen : more.length = eso.size := by rw [← hpo.length]; simp
  have keep : ∀ f : DictEntry → PUnit → Sem (ForInStep PUnit), (∀ e ∈ eso.toList, ∀ c, f e c = pure (.yield c)) → forIn eso PUnit.unit f = pure PUnit.unit := fun f hf => by
    rw [← Array.forIn_toList]
    exact forIn_yield_id _ hf
  unfold mergeMapping
  refine wpAny_bind (wpAny_isInstance ho.typeIs isSubtype_dict_dict ?_)
  simp only [if_true]
  refine wpAny_bind (wpAny_specialOf ho.typeIs F.slot_dict_iter.lookup (wpAny_bind (wpAny_pure ?_)))
  simp only [beq_self_eq_true]
  rw [if_neg (by rw [hoS]; exact Bool.false_ne_true)]
  refine wpAny_bind (wpAny_dictEntries hod hdd ?_)
  by_cases hemp : esd.isEmpty = true
  rw [if_pos hemp]
  refine wpAny_bind (wpAny_dictEntries hoo hdo' ?_)
  refine wpAny_bind (wpAny_of_eq (keep _ fun e he c => by
    obtain ⟨k, hkey, _⟩ := hko e (Array.mem_toList_iff.mp he)
    have hno := byValue_noRef (knd.byValue k _ hkey)
    split
    · rename_i a ha; exact absurd ha (hno a)
    · rfl) ?_)
  rotate_left
  rw [if_neg hemp]
  all_goals
    refine wpAny_bind (wpAny_dictEntries hoo hdo' ?_)
    refine wpAny_bind (wpAny_dictEpoch hoo hdo' ?_)
    refine wpAny_bind ?_
    rw [List.range_eq_range']
    refine wpAny_forIn_list _
      (fun rest _ s' => ∃ h' i, s' = { s with heap := h' } ∧ rest = List.range' i (eso.size - i) ∧ i ≤ eso.size ∧ h'.DictOf knd d (merged kvs (more.take i)) ∧ h'.get? o = some oo ∧ Heap.SameBut d s.heap h' ∧ (((kvs ++ more).map (·.1)).Nodup → ∀ l l', Holds s.heap d l → Holds s.heap o l' → Holds h' d (l ++ l'.take i)))
      _ ?_ ?_ _ _ ⟨s.heap, 0, rfl, by simp, Nat.zero_le _, by simpa [merged] using hd, hoo, Heap.SameBut.refl _ _, fun _ l l' a _ => by simpa using a⟩
    · rintro x rest b s' ⟨h', i, rfl, hr, hi, hd', hoo', hs', hH⟩
      have hlt : i < eso.size := by
        rcases Nat.lt_or_ge i eso.size with h | h
        · exact h
        · rw [Nat.sub_eq_zero_of_le h] at hr; simp at hr
      obtain ⟨rfl, hrest⟩ : x = i ∧ rest = List.range' (i + 1) (eso.size - (i + 1)) := by
        have e : eso.size - i = (eso.size - (i + 1)) + 1 := by omega
        rw [e, List.range'_succ] at hr
        injection hr with h1 h2
        exact ⟨h1, h2⟩
      refine wpAny_bind (wpAny_dictEntries hoo' hdo' ?_)
      rw [Array.getElem?_eq_getElem hlt]
      obtain ⟨kv, hkv⟩ : ∃ kv, more[x]? = some kv := ⟨more[x]'(by rw [hlen]; exact hlt), List.getElem?_eq_getElem _⟩
      obtain ⟨k, v⟩ := kv
      obtain ⟨hkey, hval⟩ := hpo.get? (e := eso[x]) (by simp [hlt]) hkv
      obtain ⟨k', hkey', hhash⟩ := hko eso[x] (Array.getElem_mem hlt)
      obtain rfl : k' = k := knd.inj _ _ _ hkey' hkey
      show wpAny _ _ (holding [eso[x].key, eso[x].val] (dictPut d eso[x].hash eso[x].key eso[x].val) >>= _) _ _ _
      rw [hhash, hval]
      have hmx : (merged kvs (more.take x)).length ≤ 1000 := by
        have e1 := merged_length_le kvs (more.take x)
        have e2 : (more.take x).length ≤ more.length := by rw [List.length_take]; omega
        omega
      refine wpAny_bind (wpAny_holding (dictPut_pairs (hsz := hmx) hkey hd' fun h'' hd'' hs'' hH' => ?_))
      have hoo'' : h''.get? o = some oo := (hs''.2 o (Ne.symm hdo)).trans hoo'
      refine wpAny_bind (wpAny_dictEpoch hoo'' hdo' ?_)
      rw [if_neg (by simp)]
      refine wpAny_pure ⟨h'', x + 1, rfl, hrest, hlt, by rw [merged_take_succ kvs more x (k', v) hkv]; exact hd'', hoo'', hs'.trans hs'', ?_⟩
      intro hnd l l' hl hl'
      have hms : merged kvs (more.take x) = kvs ++ more.take x := merged_app _ _ (List.Sublist.nodup (List.Sublist.map _ (List.Sublist.append (List.Sublist.refl _) (List.take_sublist _ _))) hnd)
      have hfr : k' ∉ (merged kvs (more.take x)).map (·.1) := by
        rw [hms]
        have e1 : kvs ++ more.take (x + 1) = kvs ++ more.take x ++ [(k', v)] := by rw [List.take_add_one, hkv]; simp
        have e2 : ((kvs ++ more.take (x + 1)).map (·.1)).Nodup := List.Sublist.nodup (List.Sublist.map _ (List.Sublist.append (List.Sublist.refl _) (List.take_sublist _ _))) hnd
        rw [e1, List.map_append, List.nodup_append] at e2
        exact fun hm => e2.2.2 _ hm k' (by simp) rfl
      have hgot := hH' hfr _ (hH hnd l l' hl hl')
      obtain ⟨o2, es2, ep2, ho2, hd2, rfl⟩ := hl'
      rw [hoo] at ho2
      injection ho2 with ho2
      subst ho2
      rw [hdo'] at hd2
      injection hd2 with e1 e2
      subst e1
      have e3 : (eso.toList.map fun e => (e.key, e.val)).take (x + 1) = (eso.toList.map fun e => (e.key, e.val)).take x ++ [(eso[x].key, v)] := by
        rw [List.take_add_one]
        simp [hlt, hval]
      rw [e3, ← List.append_assoc]
      exact hgot
    · rintro b s' ⟨h', i, rfl, hr, hi, hd', hoo', hs', hH⟩
      have hin : i = eso.size := by
        rcases Nat.lt_or_ge i eso.size with h | h
        · have e : eso.size - i = (eso.size - (i + 1)) + 1 := by omega
          rw [e, List.range'_succ] at hr
          cases hr
        · omega
      subst hin
      rw [List.take_of_length_le (by omega)] at hd'
      refine wpAny_pure (hQ h' hd' hs' fun hnd l l' hl hl' => ?_)
      have := hH hnd l l' hl hl'
      obtain ⟨o2, es2, ep2, ho2, hd2, rfl⟩ := hl'
      rw [hoo] at ho2
      injection ho2 with ho2
      subst ho2
      rw [hdo'] at hd2
      injection hd2 with e1 e2
      subst e1
      rwa [List.take_of_length_le (by simp)] at this

theorem dict_spread {m : Sem Value} {p q r : Sem Value × Sem Value} {Q : Value → Shared → Prop}
    (h : wpAny (model prog w) A m (fun v s₁ => ∃ o more, v = .ref o ∧ s.heap.objs.size ≠ o ∧ (o == sysModules) = false ∧ s₁.heap.DictOf knd s.heap.objs.size [] ∧ s₁.heap.DictOf knd o more ∧ more.length ≤ 100 ∧ 
      ∀ h₂, h₂.DictOf knd s.heap.objs.size (merged [] more) → Heap.SameBut s.heap.objs.size s₁.heap h₂ → (((([] : List (K × Value)) ++ more).map (·.1)).Nodup → ∀ l l', Holds s₁.heap s.heap.objs.size l → Holds s₁.heap o l' → Holds h₂ s.heap.objs.size (l ++ l')) →
        wpAny (model prog w) A (subDict [p, q, r]) (fun d s₃ => ∃ kvs, s.heap.objs.size ≠ d ∧ (d == sysModules) = false ∧ s₃.heap.DictOf knd s.heap.objs.size (merged [] more) ∧ s₃.heap.DictOf knd d kvs ∧ kvs.length ≤ 100 ∧
          ∀ h₄, h₄.DictOf knd s.heap.objs.size (merged (merged [] more) kvs) → Heap.SameBut s.heap.objs.size s₃.heap h₄ → ((((merged [] more) ++ kvs).map (·.1)).Nodup → ∀ l l', Holds s₃.heap s.heap.objs.size l → Holds s₃.heap d l' → Holds h₄ s.heap.objs.size (l ++ l')) → Q (.ref s.heap.objs.size) { s₃ with heap := h₄ }) E { s₁ with heap := h₂ }) E { s with heap := s.heap.push { cls := .type "dict", data := .dict #[] } }) :
    wpAny (model prog w) A (dictDisplay [(none, m), (some p.1, p.2), (some q.1, q.2), (some r.1, r.2)]) Q E s := by
  unfold dictDisplay
  simp only [List.forIn_cons, List.forIn_nil, List.isEmpty_nil, if_true, pure_bind, bind_assoc, List.nil_append, List.length_cons, List.length_nil, List.isEmpty_cons, Bool.false_eq_true, if_false, Nat.zero_add, Nat.reduceBEq, List.cons_append, Nat.reduceAdd]
  refine wpAny_bind (wpAny_alloc ?_)
  refine wpAny_bind (wpAny_holding (wpAny_mono h (fun v s₁ h₁ => ?_) fun _ _ e => e))
  obtain ⟨o, more, rfl, hne, hS, hD, hO, hl, hk⟩ := h₁
  refine wpAny_bind (wpAny_onRaise (wpAny_tryCatch (wpAny_onRaise (wpAny_holding (merge_dict hne hS hD hO (fun h₂ hD₂ hs₂ hH₂ => ?_) (by simpa using Nat.le_trans hl (by decide)))))))
  refine wpAny_bind (wpAny_holding (wpAny_mono (hk h₂ hD₂ hs₂ hH₂) (fun d s₃ h₃ => ?_) fun _ _ e => e))
  obtain ⟨kvs, hne3, hS3, hD3, hO3, hl3, hk3⟩ := h₃
  have hml : (merged ([] : List (K × Value)) more).length ≤ 100 := by
    have := merged_length_le ([] : List (K × Value)) more
    simp only [List.length_nil, Nat.zero_add] at this
    omega
  refine wpAny_bind (wpAny_onRaise (wpAny_holding (merge_dict hne3 hS3 hD3 hO3 (fun h₄ hD₄ hs₄ hH₄ => ?_) (by omega))))
  exact wpAny_pure (hk3 h₄ hD₄ hs₄ hH₄)
end
section
variable {prog : Program} {w : World} {A : Around} {E : Value → Shared → Prop} {s : Shared} {env : Env}
theorem dict_empty (h : Heap) : (h.push { cls := .type "dict", data := .dict #[] }).DictOf (PySem.strKind prog w) h.objs.size [] := by
  refine ⟨_, #[], 0, Heap.get?_push_size _ rfl, ⟨rfl, rfl, rfl⟩, rfl, ?_, ?_, List.nodup_nil⟩
  · intro e he; simp at he
  · exact .nil
theorem strKey_of {k : Str} {v : Value} (h : (PySem.strKind prog w).is k v = true) : ∃ t, v = .str k t := Value.isStrOf_shape h
theorem holds3 {h : Heap} {d : Addr} {k1 k2 k3 : Str} {v1 v2 v3 : Value} (x : h.DictOf (PySem.strKind prog w) d [(k1, v1), (k2, v2), (k3, v3)]) :
    ∃ u1 u2 u3, Holds h d [(.str k1 u1, v1), (.str k2 u2, v2), (.str k3 u3, v3)] := by
  obtain ⟨o, es, ep, ho, hc, hd, hk, hp, hn⟩ := x
  have e1 : es.toList.length = 3 := by rw [hp.length]; rfl
  obtain ⟨l⟩ := es
  match l, e1 with
  | [x1, x2, x3], _ =>
    obtain ⟨a1, b1⟩ := hp.get? (i := 0) (e := x1) rfl rfl
    obtain ⟨a2, b2⟩ := hp.get? (i := 1) (e := x2) rfl rfl
    obtain ⟨a3, b3⟩ := hp.get? (i := 2) (e := x3) rfl rfl
    obtain ⟨u1, c1⟩ := strKey_of a1
    obtain ⟨u2, c2⟩ := strKey_of a2
    obtain ⟨u3, c3⟩ := strKey_of a3
    exact ⟨u1, u2, u3, _, _, _, ho, hd, by simp [b1, b2, b3, c1, c2, c3]⟩
theorem spread3 {k1 k2 k3 v1 v2 v3 : Str} {a1 a2 a3 b1 b2 b3 : Nat} {p1 p2 p3 q1 q2 q3 pos : Pos} {nm : Expr} {o : Addr} {more : List (Str × Value)} {Q : Value → Shared → Prop}
    (hName : ∀ (s' : Shared) (Q' : Value → Shared → Prop), Ext s.heap s'.heap → Q' (.ref o) s' → wpAny (model prog w) A (eval nm env) Q' E s')
    (hoS : (o == sysModules) = false) (hO : s.heap.DictOf (PySem.strKind prog w) o more) (hl : more.length ≤ 50) (hk : [k1, k2, k3].Nodup) (hlow : sysModules < s.heap.objs.size)
    (hnd : (more.map (·.1) ++ [k1, k2, k3]).Nodup) (h : ∀ h' tk' t1 t2 t3, s.toks ≤ tk' → Ext s.heap h' → (∀ l, Holds s.heap o l → ∃ u1 u2 u3, Holds h' s.heap.objs.size (l ++ [(.str k1 u1, .str v1 t1), (.str k2 u2, .str v2 t2), (.str k3 u3, .str v3 t3)])) → h'.DictOf (PySem.strKind prog w) s.heap.objs.size (merged (merged [] more) [(k1, .str v1 t1), (k2, .str v2 t2), (k3, .str v3 t3)]) → Q (.ref s.heap.objs.size) { s with heap := h', toks := tk' }) :
    wpAny (model prog w) A (eval (.Dict [none, some (.Constant (.str k1) a1 p1), some (.Constant (.str k2) a2 p2), some (.Constant (.str k3) a3 p3)] [nm, .Constant (.str v1) b1 q1, .Constant (.str v2) b2 q2, .Constant (.str v3) b3 q3] pos) env) Q E s := by
  rw [arm_eval_Dict]
  refine wpAny_bind (wpAny_standAt ?_)
  have hlt : o < s.heap.objs.size := by obtain ⟨_, _, _, ho, _⟩ := hO; exact Heap.lt_size ho
  refine dict_spread (knd := PySem.strKind prog w) (p := (eval (.Constant (.str k1) a1 p1) env, do let x ← eval (.Constant (.str v1) b1 q1) env; standAt pos; pure x)) (q := (eval (.Constant (.str k2) a2 p2) env, do let x ← eval (.Constant (.str v2) b2 q2) env; standAt pos; pure x)) (r := (eval (.Constant (.str k3) a3 p3) env, do let x ← eval (.Constant (.str v3) b3 q3) env; standAt pos; pure x)) ?_
  have e0 : Ext s.heap (s.heap.push { cls := .type "dict", data := .dict #[] }) := fun b o' e => Heap.get?_push_of_some _ e
  refine wpAny_bind (hName _ _ e0 (wpAny_bind (wpAny_standAt (wpAny_pure ?_))))
  refine ⟨o, more, rfl, Nat.ne_of_gt hlt, hoS, dict_empty _, hO.keep e0, by omega, fun h₂ hD₂ hs₂ hH₂ => ?_⟩
  have e2 : Ext s.heap h₂ := fun b o' e => (hs₂.2 b (Nat.ne_of_lt (Heap.lt_size e))).trans (e0 b o' e)
  have hsz : s.heap.objs.size < h₂.objs.size := by rw [hs₂.1, Heap.size_push]; exact Nat.lt_succ_self _
  refine wpAny_subDict (knd := PySem.strKind prog w) (by simp) ?_
  refine evalPairs_cons (wpAny_Constant_str (wpAny_bind (wpAny_Constant_str (wpAny_bind (wpAny_standAt (wpAny_pure ?_))))))
  refine evalPairs_cons (wpAny_Constant_str (wpAny_bind (wpAny_Constant_str (wpAny_bind (wpAny_standAt (wpAny_pure ?_))))))
  refine evalPairs_cons (wpAny_Constant_str (wpAny_bind (wpAny_Constant_str (wpAny_bind (wpAny_standAt (wpAny_pure ?_))))))
  refine evalPairs_nil ⟨_, carries_strPairs prog w _ rfl, dict_empty _, fun h' hD' hs' => ?_⟩
  have e3 : Ext h₂ h' := fun b o' e => (hs'.2 b (Nat.ne_of_lt (Heap.lt_size e))).trans (Heap.get?_push_of_some _ e)
  have hn : merged [] (strPairs [(Value.str k1 s.toks, Value.str v1 (s.toks + 1)), (Value.str k2 (s.toks + 1 + 1), Value.str v2 (s.toks + 1 + 1 + 1)), (Value.str k3 (s.toks + 1 + 1 + 1 + 1), Value.str v3 (s.toks + 1 + 1 + 1 + 1 + 1))]) = [(k1, Value.str v1 (s.toks + 1)), (k2, Value.str v2 (s.toks + 1 + 1 + 1)), (k3, Value.str v3 (s.toks + 1 + 1 + 1 + 1 + 1))] := merged_nil_of_nodup _ hk
  rw [hn] at hD'
  refine ⟨_, Nat.ne_of_lt hsz, beq_eq_false_iff_ne.mpr (Nat.ne_of_gt (Nat.lt_trans hlow hsz)), hD₂.keep e3, hD', by simp, fun h₄ hD₄ hs₄ hH₄ => ?_⟩
  have e4 : Ext s.heap h₄ := fun b o' e => (hs₄.2 b (Nat.ne_of_lt (Heap.lt_size e))).trans (e3 b o' (e2 b o' e))
  have hnd1 : (((([] : List (Str × Value)) ++ more).map (·.1)).Nodup) := by rw [List.nil_append]; exact (List.nodup_append.mp hnd).1
  refine h h₄ _ _ _ _ (by simp; omega) e4 (fun l hl => ?_) hD₄
  obtain ⟨u1, u2, u3, h3⟩ := holds3 hD'
  refine ⟨u1, u2, u3, hH₄ ?_ l _ ?_ h3⟩
  · rw [merged_app _ _ hnd1]; simpa using hnd
  · have := hH₂ hnd1 [] l ⟨_, _, _, Heap.get?_push_size _ rfl, rfl, rfl⟩ (hl.up fun o' e => e0 _ o' e)
    exact Holds.up this fun o' e => e3 _ o' e
theorem put_holds {d : Addr} {key v : Value} {k : Str} {Q : Unit → Shared → Prop} (hkey : (PySem.strKind prog w).is k key = true) (hm : s.heap.DictOf (PySem.strKind prog w) d [])
    (hQ : ∀ h', h'.DictOf (PySem.strKind prog w) d [(k, v)] → Heap.SameBut d s.heap h' → Holds h' d [(key, v)] → Q () { s with heap := h', toks := s.toks + 1 }) :
    wpAny (model prog w) A (dictSet d key v) Q E s := by
  obtain ⟨o, es, ep, ho, hc, hd, hk, hp, hn⟩ := id hm
  have he : es = #[] := by
    have e1 := hp.length
    obtain ⟨l⟩ := es
    simpa using e1
  subst he
  unfold dictSet
  try with_reducible refine wpAny_holding ?_
  refine wpAny_bind ((PySem.strKind prog w).pyHash hkey ?_)
  unfold dictSetHashed
  try with_reducible refine wpAny_holding ?_
  refine wpAny_bind (wpAny_dictFind_of (s := { s with toks := s.toks + 1 }) hkey ho hd hk ?_)
  have hi : ((#[] : Array DictEntry).findIdx? fun e => (PySem.strKind prog w).is k e.key) = none := by simp
  rw [hi]
  refine wpAny_bind (wpAny_rule (wpAny_updateDictKeys (hz := by simp [sizeLine_eq]) (s := { s with toks := s.toks + 1 }) ho hd (hQ _ ⟨_, _, ep + 1, Heap.get?_update_self _ ho (Obj.isFreed_of_dict (Obj.data_mapDictKeys hd _)),
      hc.mapDictKeys _, Obj.data_mapDictKeys hd _, hk.push hkey _, ?_, ?_⟩ (Heap.SameBut.update ..) ?_)))
  · have := hp.append hkey ((PySem.strKind prog w).hash k) v
    simpa using this
  · simp
  · exact ⟨_, _, _, Heap.get?_update_self _ ho (Obj.isFreed_of_dict (Obj.data_mapDictKeys hd _)), Obj.data_mapDictKeys hd _, by simp⟩
theorem disp1' {p : Sem Value × Sem Value} {Q : Value → Shared → Prop}
    (h : wpAny (model prog w) A (evalPairs [p]) (fun vs s₁ => ∃ k v, vs = [(k, v)] ∧ wpAny (model prog w) A (dictSet s.heap.objs.size k v) (fun _ s₂ => Q (.ref s.heap.objs.size) s₂) E s₁) E { s with heap := s.heap.push { cls := .type "dict", data := .dict #[] } }) :
    wpAny (model prog w) A (dictDisplay [(some p.1, p.2)]) Q E s := by
  have e : dictDisplay [(some p.1, p.2)] = (do let d ← subDict [p]; pure (.ref d)) := dictDisplay_pairs [p] (by simp) (by simp)
  rw [e]
  refine wpAny_bind ?_
  unfold subDict
  refine wpAny_bind (wpAny_alloc ?_)
  refine wpAny_bind (wpAny_holding ?_)
  rw [if_pos (by simp)]
  refine wpAny_bind (wpAny_mono h (fun vs s₁ h₁ => ?_) fun _ _ e => e)
  obtain ⟨k, v, rfl, h₁⟩ := h₁
  refine wpAny_holding ?_
  rw [List.forIn_cons]
  refine wpAny_bind (wpAny_bind (wpAny_bind (wpAny_mono h₁ (fun _ s₂ h₂ => wpAny_pure ?_) fun _ _ e => e)))
  dsimp only
  rw [List.forIn_nil]
  exact wpAny_pure (wpAny_pure (wpAny_pure (wpAny_pure h₂)))
theorem disp1 {k1 v1 : Str} {a1 b1 : Nat} {p1 q1 pos : Pos} {Q : Value → Shared → Prop}
    (h : ∀ h' tk', Ext s.heap h' → s.toks ≤ tk' → h'.DictOf (PySem.strKind prog w) s.heap.objs.size [(k1, .str v1 (s.toks + 1))] → Holds h' s.heap.objs.size [(.str k1 s.toks, .str v1 (s.toks + 1))] → Q (.ref s.heap.objs.size) { s with heap := h', toks := tk' }) :
    wpAny (model prog w) A (eval (.Dict [some (.Constant (.str k1) a1 p1)] [.Constant (.str v1) b1 q1] pos) env) Q E s := by
  rw [arm_eval_Dict]
  refine wpAny_bind (wpAny_standAt ?_)
  refine disp1' (p := (eval (.Constant (.str k1) a1 p1) env, do let x ← eval (.Constant (.str v1) b1 q1) env; standAt pos; pure x)) ?_
  have e0 : Ext s.heap (s.heap.push { cls := .type "dict", data := .dict #[] }) := fun b o' e => Heap.get?_push_of_some _ e
  refine evalPairs_cons (wpAny_Constant_str (wpAny_bind (wpAny_Constant_str (wpAny_bind (wpAny_standAt (wpAny_pure ?_))))))
  refine evalPairs_nil ?_
  refine ⟨_, _, rfl, put_holds (strKind_is _ _ _ _) (dict_empty _) fun h' hD hs hH => ?_⟩
  exact h h' _ (fun b o' e => (hs.2 b (Nat.ne_of_lt (Heap.lt_size e))).trans (e0 b o' e)) (by simp; omega) hD hH
end
end Mine
end PartDd

section PartIt
namespace Mine
section
variable {prog : Program} {w : World} {A : Around} {E : Value → Shared → Prop} {s : Shared}

/-- the next item of a dict: the very key and the very value that stand in the entry -/
theorem items_next {it d : Addr} {i ep : Nat} {od : Obj} {es : Array DictEntry} {ok ov : Value} {e : DictEntry} {Q : Option Value → Shared → Prop}
    (hit : IsItemIter s.heap it d i es.size ep ok ov) (hod : s.heap.get? d = some od) (hdd : od.data = .dict es ep) (hx : es[i]? = some e)
    (hQ : ∀ h', IsItemIterOut h' it d (i + 1) es.size ep e.key e.val s.heap.objs.size → h'.get? s.heap.objs.size = some { cls := .type "tuple", data := .seq #[e.key, e.val] } →
      (∀ b o, b ≠ it → s.heap.get? b = some o → h'.get? b = some o) → Q (some (.ref s.heap.objs.size)) { s with heap := h' }) :
    wpAny (model prog w) A (pyNext (.ref it)) Q E s := by
  have hT : s.TypeIs (.ref it) "dict_itemiterator" := ⟨_, hit, rfl⟩
  have hown : Builtin.Dict_items.ownsTuple "dict_itemiterator" = true := by decide
  have hlt : i < es.size := by
    rcases Nat.lt_or_ge i es.size with h | h
    · exact h
    · rw [Array.getElem?_eq_none h] at hx; cases hx
  have hil : it < s.heap.objs.size := Heap.lt_size hit
  have ne : s.heap.objs.size ≠ it := Nat.ne_of_gt hil
  unfold pyNext
  refine wpAny_bind (wpAny_attempt (wpAny_callSpecial?_slot (name := Str.ofString "__next__") hT F.slot_dict_itemiterator_next
    (wpAny_call_entry F.slot_dict_itemiterator_next hT F.entry_dict_itemiterator_next ?_ (F.args_dict_itemiterator_next_1 _))))
  refine wpAny_bind (wpAny_pure ?_)
  -- the place
  refine wpAny_bind (wpAny_bind (wpAny_bind (wpAny_typeNameOfWhole_itemiter hT (wpAny_pure ?_))))
  refine wpAny_bind (wpAny_fieldsOf hit rfl ?_)
  simp only [hown, if_true]
  show wpAny _ _ (if (Value.ref d == Value.none) = true then _ else _) _ _ _
  rw [if_neg (show ¬ ((Value.ref d == Value.none) = true) from Bool.false_ne_true)]
  refine wpAny_bind (wpAny_pure (wpAny_bind (wpAny_dictEntries hod hdd ?_)))
  rw [if_neg (by simp)]
  refine wpAny_bind (wpAny_pure (wpAny_bind (wpAny_dictEpoch hod hdd ?_)))
  rw [if_neg (by simp)]
  refine wpAny_pure ?_
  -- the entry
  simp only [show ¬ ((i : Int) < 0) from by omega, if_false, Int.toNat_natCast, hx]
  refine wpAny_bind (wpAny_bind (wpAny_typeNameOfWhole_itemiter hT (wpAny_pure ?_)))
  refine wpAny_bind (wpAny_isOneOf_itemiter hT ?_)
  show wpAny _ _ (setField (.ref it) 3 (rawInt ((i : Int) + 1)) >>= _) _ _ s
  refine wpAny_bind (wpAny_setField_rec hit (by simp) fun h₁ he₁ hs₁ => ?_)
  have hT₁ : Shared.TypeIs { s with heap := h₁ } (.ref it) "dict_itemiterator" := ⟨_, he₁, rfl⟩
  refine wpAny_bind (wpAny_holding (wpAny_bind (wpAny_isOneOf_itemiter hT₁ (wpAny_bind (wpAny_isOneOf_itemiter hT₁ ?_)))))
  show wpAny _ _ (Builtin.Dict_items.pairFromOwner (.ref it) 6 e.key e.val) _ _ { s with heap := h₁ }
  unfold Builtin.Dict_items.pairFromOwner
  refine wpAny_bind (wpAny_newTuple ?_)
  generalize hh₂ : h₁.push { cls := .type "tuple", data := .seq #[e.key, e.val] } = h₂
  have he₂ : h₂.get? it = some { cls := .type "dict_itemiterator", dict := none, data := .fields #[.none, .bool false, .ref d, .int ((i + 1 : Nat) : Int) 0, .int es.size 0, .int ep 0, ok, ov], slots := #[] } := by
    rw [← hh₂]
    refine Heap.get?_push_of_some _ ?_
    rw [show ((i + 1 : Nat) : Int) = (i : Int) + 1 by omega]
    simpa [rawInt] using he₁
  have ht₂ : h₂.get? s.heap.objs.size = some { cls := .type "tuple", data := .seq #[e.key, e.val] } := by rw [← hh₂, ← hs₁.1]; exact Heap.get?_push_size _ rfl
  have hk₂ : ∀ b o, b ≠ it → s.heap.get? b = some o → h₂.get? b = some o := fun b o hb x => by rw [← hh₂]; exact Heap.get?_push_of_some _ (hs₁.extBut b o hb x)
  show wpAny _ _ (Builtin.Dict_items.ownedTupleIsFree (.ref it) >>= _) _ _ { s with heap := h₂ }
  rw [show (Shared.heap { heap := h₁, gens := s.gens, drawn := s.drawn, toks := s.toks, os := s.os }).objs.size = s.heap.objs.size from hs₁.1]
  unfold Builtin.Dict_items.ownedTupleIsFree
  refine wpAny_bind (wpAny_bind (wpAny_field he₂ rfl (x := .none) rfl (wpAny_pure ?_)))
  simp only [if_true]
  refine wpAny_bind (wpAny_field he₂ rfl (x := ok) rfl (wpAny_bind (wpAny_field he₂ rfl (x := ov) rfl ?_)))
  refine wpAny_bind (wpAny_setField_rec he₂ (by simp) fun h₃ he₃ hs₃ => ?_)
  refine wpAny_bind (wpAny_setField_rec he₃ (by simp) fun h₄ he₄ hs₄ => ?_)
  refine wpAny_bind (wpAny_setField_rec he₄ (by simp) fun h₅ he₅ hs₅ => ?_)
  refine wpAny_bind (wpAny_setField_rec he₅ (by simp) fun h₆ he₆ hs₆ => ?_)
  have up : ∀ b o, b ≠ it → h₂.get? b = some o → h₆.get? b = some o := fun b o hb x => hs₆.extBut b o hb (hs₅.extBut b o hb (hs₄.extBut b o hb (hs₃.extBut b o hb x)))
  exact wpAny_bind (wpAny_letGo (wpAny_pure (wpAny_pure ⟨_, rfl, wpAny_pure (hQ h₆ (by unfold IsItemIterOut; simpa [rawInt] using he₆) (up _ _ ne ht₂) fun b o hb x => up b o hb (hk₂ b o hb x))⟩)))

def Has (h : Heap) (d : Addr) (es : Array DictEntry) (ep : Nat) : Prop := ∃ o, h.get? d = some o ∧ o.data = .dict es ep
theorem Has.up {h h' : Heap} {d : Addr} {es : Array DictEntry} {ep : Nat} (x : Has h d es ep) (e : ∀ o, h.get? d = some o → h'.get? d = some o) : Has h' d es ep := let ⟨o, a, b⟩ := x; ⟨o, e o a, b⟩

theorem items_turns {K : Type} [DecidableEq K] {knd : KeyKind prog w K} {elts : List Expr} {kk : Nat} {pos : Pos} (hh : A.handled = none) (I d : Addr) (hne : d ≠ I) (kvs : List (K × Value)) (ep : Nat) (es : Array DictEntry) (hl : kvs.length = es.size) :
    KTurns prog w A (.Tuple elts kk pos) I [I, d] [I] es.size
      (fun i v h => ∃ T e, v = .ref T ∧ es[i]? = some e ∧ h.IsTuple T #[e.key, e.val])
      (fun i v h => ∃ T e ok ov, v = .ref T ∧ es[i]? = some e ∧ h.IsTuple T #[e.key, e.val] ∧ IsItemIterOut h I d (i + 1) es.size ep ok ov T ∧ h.DictAt knd d kvs ep ∧ Has h d es ep ∧ T ≠ I)
      (fun i h => (∃ ok ov, IsItemIter h I d i es.size ep ok ov) ∧ h.DictAt knd d kvs ep ∧ Has h d es ep) where
  sub := fun b hb => by simp at hb; simp [hb]
  frame := fun i h h' st hk => by
    obtain ⟨⟨ok, ov, he⟩, hm, hs⟩ := st
    exact ⟨⟨ok, ov, hk I (by simp) _ he⟩, hm.at' fun o e => hk d (by simp) o e, hs.up fun o e => hk d (by simp) o e⟩
  item := fun i s Q E hi st hQ => by
    obtain ⟨⟨ok, ov, he⟩, hm, ⟨o, ho, hod⟩⟩ := st
    refine items_next he ho hod (e := es[i]) (by simp [hi]) fun h' hout hT hk => ?_
    exact hQ _ h' s.toks ⟨s.heap.objs.size, es[i], _, _, rfl, by simp [hi], ⟨_, hT, rfl, _, rfl⟩, hout, hm.at' (fun o e => hk d o hne e), ⟨o, hk d o hne ho, hod⟩, Nat.ne_of_gt (Heap.lt_size he)⟩ fun b o hb e => hk b o (fun h => hb (by simp [h])) e
  go := fun i v s Q E hm hQ => by
    obtain ⟨T, e, ok, ov, rfl, hx, hT, ho, hd, hs, hTI⟩ := hm
    refine wpAny_letOwnedTupleGo_items ho fun h' he hsb => ?_
    exact hQ h' ⟨T, e, rfl, hx, hT.at fun o e => hsb.extBut T o hTI e⟩ ⟨⟨ok, ov, he⟩, hd.extBut hsb.extBut hne, hs.up fun o e => hsb.extBut d o hne e⟩ fun b o hb e => hsb.extBut b o (fun h => hb (by simp [h])) e
  done := fun s Q E st hQ => by
    obtain ⟨⟨ok, ov, he⟩, hm, _⟩ := st
    rw [← hl] at he
    exact wpAny_pyNext_items_end hh he hm (by simp) fun h' hx => hQ h' s.toks fun b o hb e => hx b o (fun h => hb (by simp [h])) e

theorem for_items {K : Type} [DecidableEq K] {knd : KeyKind prog w K} {elts : List Expr} {kk : Nat} {pos : Pos} {env : Env} {h₀ : Heap} {body : List Stmt} {Q : Flow → Shared → Prop} {d vw : Addr} {kvs : List (K × Value)} {ep : Nat} {es : Array DictEntry} {m₀ : Str → Option Value} {news : List (Addr × Obj)}
    (J : Nat → (Str → Option Value) → Prop) (hh : A.handled = none) (F : Fr h₀ env.locals s.heap m₀) (N : News h₀ env.locals s.heap news) (hvw : ∃ ov, s.heap.get? vw = some ov ∧ ov.cls = .type "dict_items" ∧ ov.data = .fields #[.ref d])
    (hD : s.heap.DictAt knd d kvs ep) (hE : Has s.heap d es ep) (hl : kvs.length = es.size) (hd0 : ∃ o, h₀.get? d = some o) (h0 : J 0 m₀)
    (turn : ∀ i e T m₁ h₁ tk₁ own, es[i]? = some e → J i m₁ → Fr h₀ env.locals h₁ m₁ → News h₀ env.locals h₁ (own ++ news) → h₁.IsTuple T #[e.key, e.val] →
      wpAny (model prog w) A (assign (.Tuple elts kk pos) env (.ref T)) (fun _ s₃ => wpAny (model prog w) A (execs body env) (InvPost h₀ env.locals (J (i + 1)) (own ++ news) { s with heap := h₁, toks := tk₁ } Q) E s₃) E { s with heap := h₁, toks := tk₁ })
    (done : ∀ m₁ h tk, J es.size m₁ → Fr h₀ env.locals h m₁ → News h₀ env.locals h news → Q .next { s with heap := h, toks := tk }) :
    wpAny (model prog w) A (pyIter (.ref vw)) (fun it s₂ => TurnsAt prog w A h₀ env (.Tuple elts kk pos) body Q E it s₂) E s := by
  obtain ⟨od, hod⟩ := hd0
  have hlt : d < h₀.objs.size := Heap.lt_size hod
  have hne : d ≠ s.heap.objs.size := Nat.ne_of_lt (Nat.lt_trans (Nat.lt_of_lt_of_le hlt F.above) F.ns.lt)
  refine wpAny_pyIter_items hvw hD ?_
  let J' : Nat → (Str → Option Value) → List (Addr × Obj) → Prop := fun i m₁ news₁ => news₁ = news ∧ J i m₁
  refine ⟨s.heap.objs.size, [s.heap.objs.size, d], [s.heap.objs.size], es.size, _, _, _, m₀, news, J', rfl, items_turns (knd := knd) hh s.heap.objs.size d hne kvs ep es hl, ?_, ?_, ?_, ⟨⟨.none, .none, ?_⟩, hD.at' (fun o e => Heap.get?_push_of_some _ e), hE.up fun o e => Heap.get?_push_of_some _ e⟩, F.push _, (fun p hp => ⟨Heap.get?_push_of_some _ (N p hp).1, (N p hp).2⟩), ⟨rfl, h0⟩, ?_, ?_⟩
  · intro hm
    rcases List.mem_cons.mp hm with e | hm
    · exact absurd F.ns.lt (e ▸ Nat.lt_irrefl _)
    · exact absurd (Nat.lt_of_lt_of_le hlt F.above) ((List.mem_singleton.mp hm) ▸ Nat.lt_irrefl _)
  · intro b hb
    rw [List.mem_singleton.mp hb]
    exact next_is_new F
  · intro p hp hI
    exact absurd (Heap.lt_size (N p hp).1) ((List.mem_singleton.mp hI) ▸ Nat.lt_irrefl _)
  · rw [← hl]; exact Heap.get?_push_size _ rfl
  · rintro i v m₁ news₁ h₁ tk₁ own _ ⟨T, e, rfl, hx, hT⟩ ⟨rfl, hJ⟩ hoff _ _ _ _ F₁ N₁
    refine wpAny_mono (turn i e T m₁ h₁ tk₁ own hx hJ F₁ N₁ hT) (fun _ s₃ h₃ => wpAny_mono h₃ (fun f s₄ p => ?_) fun _ _ e => e) fun _ _ e => e
    have fin : InvEnd h₀ env.locals (J (i + 1)) (own ++ news₁) { s with heap := h₁, toks := tk₁ } s₄ → LoopStepU h₀ env.locals [s.heap.objs.size] own (J' (i + 1)) { s with heap := h₁, toks := tk₁ } .next s₄ := by
      rintro ⟨h', tk, m', news', e, F', N', hn, hm⟩
      exact ⟨rfl, h', tk, m', news₁, e, F', fun p hp => N' p (hn p hp), hoff, rfl, hm⟩
    cases f with
    | ret v => exact .ret p
    | brk => exact .brk p
    | next => exact .next (fin p)
    | cont => exact .cont (fin p)
  · rintro h' tk m' news' F' N' _ ⟨rfl, hJ⟩
    exact done m' h' tk hJ F' N'
end
end Mine
end PartIt

section PartTx
namespace Mine
section
open Builtin Builtin.Str StrLaws
theorem at_take {x y : Str} {k : Nat} : At x y x.length k → (x.cps.toList.drop k).take y.cps.toList.length = y.cps.toList := by
  rintro ⟨_, h⟩
  rw [subAt_eq] at h
  simpa [Str.length] using h
theorem take_at {x y : Str} {k : Nat} (h : (x.cps.toList.drop k).take y.cps.toList.length = y.cps.toList) (hw : 1 ≤ y.length) : At x y x.length k := by
  refine ⟨?_, ?_⟩
  · have e := congrArg List.length h
    simp only [List.length_take, List.length_drop, Array.length_toList] at e
    unfold Str.length at hw ⊢
    omega
  · rw [subAt_eq]
    simpa [Str.length] using h
structure Rep (y z : List Nat) (R : List Nat → List Nat) : Prop where
  hit : ∀ l, l.take y.length = y → R l = z ++ R (l.drop y.length)
  on : ∀ c t, (c :: t).take y.length ≠ y → R (c :: t) = c :: R t
  nil : R [] = []
theorem gap {x y z : Str} {R : List Nat → List Nat} (hR : Rep y.cps.toList z.cps.toList R) (hw : 1 ≤ y.length) : ∀ (m a : Nat), a + m ≤ x.length → (∀ k, a ≤ k → k < a + m → ¬ At x y x.length k) →
    R (x.cps.toList.drop a) = (x.cps.toList.drop a).take m ++ R (x.cps.toList.drop (a + m))
  | 0, a, _, _ => by simp
  | m + 1, a, h, hn => by
    have hlt : a < x.cps.toList.length := by simp only [Array.length_toList]; unfold Str.length at h; omega
    have e := List.drop_eq_getElem_cons hlt
    have hno : (x.cps.toList.drop a).take y.cps.toList.length ≠ y.cps.toList := fun q => hn a (Nat.le_refl _) (by omega) (take_at q hw)
    rw [e] at hno ⊢
    rw [hR.on _ _ hno, gap hR hw m (a + 1) (by omega) fun k h1 h2 => hn k (by omega) (by omega)]
    rw [List.take_succ_cons, show a + 1 + m = a + (m + 1) by omega]
    simp
theorem rep_cut {x y z : Str} {R : List Nat → List Nat} (hR : Rep y.cps.toList z.cps.toList R) (hw : 1 ≤ y.length) : ∀ (cuts : List Nat) (a f : Nat), a ≤ x.length → ChainG x y x.length a cuts f → (∀ k, f ≤ k → ¬ At x y x.length k) →
    (Str.join z (partsFrom x y.length a cuts)).cps.toList = R (x.cps.toList.drop a)
  | [], a, f, ha, h, hn => by
    have e : f = a := h
    subst e
    have g := gap hR hw (x.length - f) f (by omega) fun k h1 _ => hn k h1
    have e2 : f + (x.length - f) = x.cps.toList.length := by simp only [Array.length_toList]; unfold Str.length at ha ⊢; omega
    rw [g, e2, List.drop_length, hR.nil, List.append_nil]
    exact strSub_toList _ _ _
  | c :: r, a, f, ha, ⟨h1, h2, h3, h4⟩, hn => by
    obtain ⟨p, q, hp⟩ := partsFrom_ne x y.length (c + y.length) r
    have hc : c + y.length ≤ x.length := h2.1
    have ih := rep_cut hR hw r (c + y.length) f hc h4 hn
    have g := gap hR hw (c - a) a (by omega) fun k h5 h6 => h3 k h5 (by omega)
    have e2 : a + (c - a) = c := by omega
    have g2 := hR.hit _ (at_take h2)
    rw [g, e2, g2, List.drop_drop]
    have e3 : y.cps.toList.length = y.length := by simp [Str.length]
    rw [e3, ← ih]
    show (Str.join z (strSub x a c :: partsFrom x y.length (c + y.length) r)).cps.toList = _
    rw [hp]
    show ((strSub x a c ++ z ++ Str.join z (p :: q)) : Str).cps.toList = _
    simp [Str.cps_append, strSub_toList]
theorem replace_rep {x y z : Str} {R : List Nat → List Nat} (hR : Rep y.cps.toList z.cps.toList R) (hw : 1 ≤ y.length) : Txt.replace x y z = ⟨(R x.cps.toList).toArray⟩ := by
  obtain ⟨f, hG, hn⟩ := occ_tight x y hw
  have key := rep_cut hR hw _ 0 f (Nat.zero_le _) hG hn
  have h10 : (y.length == 0) = false := by simp; omega
  rw [List.drop_zero] at key
  apply Str.ext'
  apply Array.toList_inj.mp
  show _ = R x.cps.toList
  rw [← key]
  unfold Txt.replace
  rw [h10, Bool.false_and, Bool.or_false]
  cases he : occurrences x y 0 x.length (x.length + 1) with
  | nil =>
    rw [if_pos (by rfl)]
    show _ = (strSub x 0 x.length).cps.toList
    rw [strSub_toList]
    have e9 : x.cps.toList = List.take x.cps.size x.cps.toList := by rw [List.take_of_length_le (by simp)]
    simpa [Str.length] using e9
  | cons c r =>
    rw [if_neg (by simp), glued_eq_join, partsBetween_eq]
theorem occ_free {l : List Nat} {c : Nat} (h : c ∉ l) : occurrences ⟨l.toArray⟩ ⟨#[c]⟩ 0 (⟨l.toArray⟩ : Str).length ((⟨l.toArray⟩ : Str).length + 1) = [] := by
  refine occ_nil_of_no _ _ _ (fun i hi => ?_)
  cases hs : subAt ⟨l.toArray⟩ ⟨#[c]⟩ i with
  | false => rfl
  | true =>
    have := (subAt_one _ _ _).mp ⟨hi, hs⟩
    exact absurd (List.mem_of_getElem? this) (by simpa using h)
end
/-- the row with each ABB turned to BAA -/
def repC : List Nat → List Nat
  | 65 :: 66 :: 66 :: t => 66 :: 65 :: 65 :: repC t
  | c :: t => c :: repC t
  | [] => []
theorem repC_rep : Rep [65, 66, 66] [66, 65, 65] repC where
  hit := by
    intro l h
    match l, h with
    | [a, b, c], h => simp at h; obtain ⟨rfl, rfl, rfl⟩ := h; simp [repC]
    | a :: b :: c :: d :: t, h => simp at h; obtain ⟨rfl, rfl, rfl⟩ := h; simp [repC]
    | [], h => simp at h
    | [a], h => simp at h
    | [a, b], h => simp at h
  on := by
    intro c t h
    rw [repC]
    rintro t' rfl rfl
    simp at h
  nil := rfl
def quot : List Nat := [38, 113, 117, 111, 116, 59]
def repQ : List Nat → List Nat
  | [] => []
  | c :: t => if c = 34 then quot ++ repQ t else c :: repQ t
theorem repQ_rep : Rep [34] quot repQ where
  hit := by
    intro l h
    match l, h with
    | [], h => simp at h
    | c :: t, h => simp at h; simp [repQ, h]
  on := by
    intro c t h
    simp at h
    simp [repQ, h]
  nil := rfl
theorem replace_C (l : List Nat) : Txt.replace ⟨l.toArray⟩ (Str.ofString "ABB") (Str.ofString "BAA") = ⟨(repC l).toArray⟩ := by
  have := replace_rep (x := ⟨l.toArray⟩) (y := Str.ofString "ABB") (z := Str.ofString "BAA") (R := repC) repC_rep (by decide)
  simpa using this
theorem replace_Q (l : List Nat) : Txt.replace ⟨l.toArray⟩ (Str.ofString "\"") (Str.ofString "&quot;") = ⟨(repQ l).toArray⟩ := by
  have := replace_rep (x := ⟨l.toArray⟩) (y := Str.ofString "\"") (z := Str.ofString "&quot;") (R := repQ) repQ_rep (by decide)
  simpa using this
def Plain (l : List Nat) : Prop := ∀ c ∈ l, c = 65 ∨ c = 66 ∨ c = 34 ∨ c = 39
theorem Plain.free {l : List Nat} (h : Plain l) {c : Nat} (hc : c ≠ 65 ∧ c ≠ 66 ∧ c ≠ 34 ∧ c ≠ 39) : c ∉ l := fun hm => by
  obtain ⟨a, b, d, e⟩ := hc
  rcases h c hm with h | h | h | h <;> contradiction
theorem repC_len : ∀ l, (repC l).length = l.length
  | 65 :: 66 :: 66 :: t => by simp [repC, repC_len t]
  | [] => rfl
  | c :: t => by
    by_cases h : ∃ t', c = 65 ∧ t = 66 :: 66 :: t'
    · obtain ⟨t', rfl, rfl⟩ := h
      simp [repC, repC_len t']
    · rw [repC]
      · simp [repC_len t]
      · rintro t' rfl rfl; exact h ⟨t', rfl, rfl⟩
theorem repC_plain : ∀ {l : List Nat}, Plain l → Plain (repC l)
  | [], h => h
  | c :: t, h => by
    have ht : Plain t := fun a b => h a (.tail _ b)
    by_cases hh : ∃ t', c = 65 ∧ t = 66 :: 66 :: t'
    · obtain ⟨t', rfl, rfl⟩ := hh
      have hp := repC_plain (l := t') fun a b => ht a (.tail _ (.tail _ b))
      intro a ha
      rw [repC] at ha
      simp only [List.mem_cons] at ha
      rcases ha with rfl | rfl | rfl | ha
      · exact .inr (.inl rfl)
      · exact .inl rfl
      · exact .inl rfl
      · exact hp a ha
    · have hp := repC_plain ht
      intro a ha
      rw [repC] at ha
      · rcases List.mem_cons.mp ha with rfl | ha
        · exact h _ (.head _)
        · exact hp a ha
      · rintro t' rfl rfl; exact hh ⟨t', rfl, rfl⟩
/-- what quoteattr gives, over the codes -/
def quoteC (l : List Nat) : List Nat :=
  if 34 ∈ repC l then (if 39 ∈ repC l then 34 :: (repQ (repC l) ++ [34]) else 39 :: (repC l ++ [39])) else 34 :: (repC l ++ [34])
end Mine
end PartTx

section PartC7
namespace Mine
abbrev sABB : Str := Str.ofString "ABB"
abbrev kk (w : World) := PySem.strKind Challenge.rw_ik0019_01.row.prog w
structure Tab4 (w : World) (h : Heap) (d : Addr) (t u t1 u1 t2 u2 t3 u3 : Tok) : Prop where
  t0 : t ≠ 0
  u0 : u ≠ 0
  tu : t ≠ u
  dict : h.DictOf (kk w) d [(Str.ofString "ABB", .str (Str.ofString "BAA") u), (Str.ofString "\n", .str (Str.ofString "&#10;") u1), (Str.ofString "\r", .str (Str.ofString "&#13;") u2), (Str.ofString "\t", .str (Str.ofString "&#9;") u3)]
  has : Holds h d [(.str (Str.ofString "ABB") t, .str (Str.ofString "BAA") u), (.str (Str.ofString "\n") t1, .str (Str.ofString "&#10;") u1), (.str (Str.ofString "\r") t2, .str (Str.ofString "&#13;") u2), (.str (Str.ofString "\t") t3, .str (Str.ofString "&#9;") u3)]
theorem for_dict {w : World} {A : Around} {E : Value → Shared → Prop} {s : Shared} {env : Env} {h₀ : Heap} {m₀ : Str → Option Value} {news : List (Addr × Obj)} {elts : List Expr} {kk' : Nat} {pt pd pa pc pos : Pos} {y : Str} {body : List Stmt} {Q : Flow → Shared → Prop} {d : Addr} {t u t1 u1 t2 u2 t3 u3 : Tok}
    (J : Nat → (Str → Option Value) → Prop) (hh : A.handled = none) (F : Fr h₀ env.locals s.heap m₀) (N : News h₀ env.locals s.heap news) (hy : env.kindOf y = some .local) (hdb : (y == ("__debug__" : Str)) = false) (hsk : env.scope.kind = .function) (hm : m₀ y = some (.ref d)) (hdS : (d == sysModules) = false)
    (hT : Tab4 w h₀ d t u t1 u1 t2 u2 t3 u3) (hline : (pa.endLine == pc.line) = true) (h0 : J 0 m₀)
    (turn : ∀ i key val T m₁ h₁ tk₁ own, [(Value.str (Str.ofString "ABB") t, Value.str (Str.ofString "BAA") u), (.str (Str.ofString "\n") t1, .str (Str.ofString "&#10;") u1), (.str (Str.ofString "\r") t2, .str (Str.ofString "&#13;") u2), (.str (Str.ofString "\t") t3, .str (Str.ofString "&#9;") u3)][i]? = some (key, val) → J i m₁ → Fr h₀ env.locals h₁ m₁ → News h₀ env.locals h₁ (own ++ (s.heap.objs.size, { cls := .type "dict_items", data := .fields #[.ref d] }) :: news) → h₁.IsTuple T #[key, val] →
      wpAny (model Challenge.rw_ik0019_01.row.prog w) A (assign (.Tuple elts kk' pt) env (.ref T)) (fun _ s₃ => wpAny (model Challenge.rw_ik0019_01.row.prog w) A (execs body env) (fun f s₄ => f = .next ∧ InvEnd h₀ env.locals (J (i + 1)) (own ++ (s.heap.objs.size, { cls := .type "dict_items", data := .fields #[.ref d] }) :: news) { s with heap := h₁, toks := tk₁ } s₄) (fun _ _ => False) s₃) (fun _ _ => False) { s with heap := h₁, toks := tk₁ })
    (done : ∀ m₁ h tk, J 4 m₁ → Fr h₀ env.locals h m₁ → Q .next { s with heap := h, toks := tk })
    (hE : PassesOwn (model Challenge.rw_ik0019_01.row.prog w) A env E := by passes_own) :
    wpAny (model Challenge.rw_ik0019_01.row.prog w) A (exec (.For (.Tuple elts kk' pt) (.Call (.Attribute (.Name y pd) (Str.ofString "items") pa) [] [] pc) body [] pos) env) Q E s := by
  obtain ⟨o, es, ep, ho, hed, hel⟩ := hT.has
  have hD : (s.heap).DictOf (kk w) d _ := hT.dict.keep F.keep
  obtain ⟨ep', hat⟩ := hD.dictAt
  obtain ⟨o', es', ho', hc', hd', hk', hp', hn'⟩ := id hat
  have e1 : o' = o := by
    have := F.keep _ _ ho
    rw [ho'] at this
    exact Option.some.inj this
  subst e1
  rw [hed] at hd'
  injection hd' with e1 e2
  subst e1; subst e2
  have hsz : es.size = 4 := by
    have := congrArg List.length hel
    simpa using this
  refine For_turns F ?_ (hE := hE)
  refine wpAny_Call_items hdS hD rfl hline (fun Q' hQ' => ?_) ?_
  · exact wpAny_Name (wpAny_loadName_local hsk hy F.ns hm hQ') hdb
  · have hnp : Ext s.heap (s.heap.push { cls := .type "dict_items", data := .fields #[.ref d] }) := fun b o e => Heap.get?_push_of_some _ e
    refine for_items (knd := kk w) (d := d) (ep := ep) (es := es) (m₀ := m₀) (news := (s.heap.objs.size, { cls := .type "dict_items", data := .fields #[.ref d] }) :: news) J hh (F.push _) (News.push F N _) ⟨_, Heap.get?_push_size _ rfl, rfl, rfl⟩ (hat.at' fun o e => hnp _ o e) ⟨o', hnp _ _ ho', hed⟩ (by rw [hsz]; rfl) ⟨o', ho⟩ h0 ?_ ?_
    · intro i e T m₁ h₁ tk₁ own hes hJ F₁ N₁ hTu
      have hi : (es.toList.map fun e => (e.key, e.val))[i]? = some (e.key, e.val) := by simp [hes]
      rw [hel] at hi
      refine wpAny_mono (turn i e.key e.val T m₁ h₁ tk₁ own hi hJ F₁ N₁ hTu) (fun _ s₃ h₃ => wpAny_mono h₃ (fun f s₄ p => ?_) fun _ _ q => q.elim) fun _ _ q => q.elim
      obtain ⟨rfl, p⟩ := p
      exact p
    · intro m₁ h tk hJ F' N'
      exact done m₁ h tk (hsz ▸ hJ) F'
def JS (l : List Nat) (i : Nat) (m : Str → Option Value) : Prop := ∃ tx : Tok, m (Str.ofString "s") = some (.str ⟨(if i = 0 then l else repC l).toArray⟩ tx)
theorem as_if {m : Str → Option Value} {x : Str} {v : Value} (h : m x = some v) : m = fun z => if z = x then some v else m z := by
  funext z
  by_cases e : z = x
  · subst e; simp [h]
  · simp [e]
theorem as_ifs {m : Str → Option Value} {x : Str} {v : Value} (h : m x = some v) : ∃ r : Str → Option Value, m = fun z => if z = x then some v else r z := ⟨m, as_if h⟩
section
open Builtin.Str
theorem replace_none {prog : Program} {w : World} {A : Around} {E : Value → Shared → Prop} {s : Shared} {x y z : Str} {t u v : Tok} {Q : Value → Shared → Prop} (hn : occurrences x y 0 x.length (x.length + 1) = [])
    (hq : Q (.str x t) s) : wpAny (model prog w) A (call (.builtin "str.replace") [.str x t, .str y u, .str z v]) Q E s := by
  refine call_gives F.slot_str_replace (typeIs_str _ _ _) F.entry_str_replace (F.args_str_replace_3 _ _ _)
    (gives_str_replace x y z t u v fun h => ?_) ?_
  · rw [hn] at h; simp at h
  · rw [hn]; exact hq
end
set_option maxRecDepth 100000 in
set_option maxHeartbeats 4000000 in
theorem c_drep (w : World) (mean mg mb) (s : Shared) (l : List Nat) (tx : Tok) (d : Addr) {t u t1 u1 t2 u2 t3 u3} (hT : Tab4 w s.heap d t u t1 u1 t2 u2 t3 u3) (hdS : (d == sysModules) = false) (hp : Plain l) (hx : l.length ≤ 30) :
   Gives w mean mg mb 21 1 8 [.str ⟨l.toArray⟩ tx, .ref d] s (fun r h => ∃ t, r = .str ⟨(repC l).toArray⟩ t) := by
  unfold Gives
  w_top off
  k_fill
  intro dp un fr gd Q E X T hd hu hret
  k_dflt (refine' enter (binds := [(Str.ofString "s", Value.str ⟨l.toArray⟩ tx), (Str.ofString "d", Value.ref d)]) ?k1 ?k2 ?k3 ?k4 ?k5 ?k6 ?k7 ?_ ?c1 ?c2 ?c3 ?c4; (case k1 => k_asm); (case k2 => k_asm); (case k3 => k_is); (case k4 => k_is); (case k5 => ktr_room); (case k6 => exact BindsTo.of_eq rfl); (case k7 => exact locs rfl); (case c4 => decide);  (case c1 => exact rfl); (case c2 => exact rfl); (case c3 => exact rfl))
  intro h' F' N'
  (try dsimp only)
  (k_with_none)
  k_steps
  refine' for_dict (J := JS l) rfl (by assumption) (by assumption) rfl (by decide) rfl ?hm hdS hT rfl ?h0 ?_ ?_
  case hm => exact rfl
  case h0 => exact ⟨tx, rfl⟩
  · intro i key val T m₁ h₁ tk₁ own hes hJ F₁ N₁ hTu
    obtain ⟨tx₁, hJ⟩ := hJ
    obtain ⟨r₁, rfl⟩ := as_ifs hJ
    clear hJ
    have hl : (⟨l.toArray⟩ : Str).length ≤ 30 := by simpa [Str.length] using hx
    refine unpackN_ F₁ N₁ hTu rfl rfl rfl ?_
    intro h₂ F₂ N₂
    match i, hes with
    | 0, hes =>
      obtain ⟨rfl, rfl⟩ : _ ∧ _ := by simpa using hes
      k_steps
      refine' SC.replaceW hT.t0 hT.u0 hT.tu ?ra ?rb ?rc ?_
      case ra => decide
      case rb => exact Nat.le_trans hl (by decide)
      case rc => decide
      rw [if_pos trivial, replace_C]
      intro t₉ k₉
      k_steps
      exact ⟨_, _, _, _, rfl, by assumption, by assumption, fun p hp => hp, ⟨_, rfl⟩⟩
    | 1, hes => 
      obtain ⟨rfl, rfl⟩ : _ ∧ _ := by simpa using hes
      k_steps
      refine' replace_none ?ra ?_
      case ra => exact occ_free (c := 10) ((repC_plain hp).free (by decide))
      k_steps
      exact ⟨_, _, _, _, rfl, by assumption, by assumption, fun p hp => hp, ⟨_, rfl⟩⟩
    | 2, hes =>
      obtain ⟨rfl, rfl⟩ : _ ∧ _ := by simpa using hes
      k_steps
      refine' replace_none ?ra ?_
      case ra => exact occ_free (c := 13) ((repC_plain hp).free (by decide))
      k_steps
      exact ⟨_, _, _, _, rfl, by assumption, by assumption, fun p hp => hp, ⟨_, rfl⟩⟩
    | 3, hes =>
      obtain ⟨rfl, rfl⟩ : _ ∧ _ := by simpa using hes
      k_steps
      refine' replace_none ?ra ?_
      case ra => exact occ_free (c := 9) ((repC_plain hp).free (by decide))
      k_steps
      exact ⟨_, _, _, _, rfl, by assumption, by assumption, fun p hp => hp, ⟨_, rfl⟩⟩
    | n + 4, hes => simp at hes
  · intro m₁ h tk hJ F'
    obtain ⟨tx₁, hJ⟩ := hJ
    obtain ⟨r₁, rfl⟩ := as_ifs hJ
    clear hJ
    dsimp only
    k_steps
    dsimp only
    rw [if_neg (by decide)]
    exact hret _ _ _ (Fr.keep (by assumption)) ⟨_, rfl⟩
end Mine
end PartC7

section PartC8
namespace Mine
theorem Tab4.up {w : World} {h h' : Heap} {d : Addr} {t u t1 u1 t2 u2 t3 u3 : Tok} (T : Tab4 w h d t u t1 u1 t2 u2 t3 u3) (e : Ext h h') : Tab4 w h' d t u t1 u1 t2 u2 t3 u3 :=
  ⟨T.t0, T.u0, T.tu, T.dict.keep e, T.has.up fun o x => e _ o x⟩
local macro_rules | `(tactic| walk_at "call builtin:str.replace") => `(tactic| (refine' replace_none ?ra ?_; (case ra => first | exact occ_free (c := 38) (Plain.free (by assumption) (by decide)) | exact occ_free (c := 62) (Plain.free (by assumption) (by decide)) | exact occ_free (c := 60) (Plain.free (by assumption) (by decide)))))
local macro_rules | `(tactic| walk_at "call ref") => `(tactic| (k_here; k_dflt (refine' use (c_drep _ _ _ _ _ _ _ _ ?l1 ?l2 ?l3 ?l4) ?k1 ?k2 ?k3 ?k4 ?k5 ?k6 ?_; (case k1 => k_asm); (case k2 => k_asm); (case k3 => k_asm); (case k4 => k_asm); (case k5 => ktr_room); (case k6 => ktr_units); (case l1 => exact Tab4.up (by assumption) (Fr.keep (by assumption))); (case l2 => assumption); (case l3 => assumption); (case l4 => assumption); k_whole); intro r9 h9 tk9 F9 N9 X9 O9; obtain ⟨t9, O9⟩ := O9; subst O9; clear X9; (try dsimp only); k_sweep))
set_option maxRecDepth 100000 in
set_option maxHeartbeats 4000000 in
theorem c_escape (w : World) (mean mg mb) (s : Shared) (l : List Nat) (tx : Tok) (d : Addr) {t u t1 u1 t2 u2 t3 u3} (hT : Tab4 w s.heap d t u t1 u1 t2 u2 t3 u3) (hdS : (d == sysModules) = false) (hp : Plain l) (hx : l.length ≤ 30) :
   Gives w mean mg mb 30 2 20 [.str ⟨l.toArray⟩ tx, .ref d] s (fun r h => ∃ t, r = .str ⟨(repC l).toArray⟩ t) := by
  unfold Gives
  w_top off
  k_fill
  intro dp un fr gd Q E X T hd hu hret
  k_dflt (refine' enter (binds := [(Str.ofString "data", Value.str ⟨l.toArray⟩ tx), (Str.ofString "entities", Value.ref d)]) ?k1 ?k2 ?k3 ?k4 ?k5 ?k6 ?k7 ?_ ?c1 ?c2 ?c3 ?c4; (case k1 => k_asm); (case k2 => k_asm); (case k3 => k_is); (case k4 => k_is); (case k5 => ktr_room); (case k6 => first | exact BindsTo.of_eq rfl | exact binds_K (by k_in) rfl (by k_is) rfl rfl rfl); (case k7 => exact locs rfl); (case c4 => decide);  (case c1 => exact rfl); (case c2 => exact rfl); (case c3 => exact rfl))
  intro h' F' N'
  (try dsimp only)
  (k_with_none)
  k_steps
  refine' wpAny_truthy_dict (knd := kk w) hdS (hT.dict.keep (Fr.keep (by assumption))) (by simp) ?_
  dsimp only [List.isEmpty]
  k_steps
  exact hret _ _ _ (Fr.keep (by assumption)) ⟨_, rfl⟩
end Mine
end PartC8

section PartC9
namespace Mine
/-- the table of one entry -/
structure Tab1 (w : World) (h : Heap) (d : Addr) (t u : Tok) : Prop where
  t0 : t ≠ 0
  u0 : u ≠ 0
  tu : t ≠ u
  dict : h.DictOf (kk w) d [(Str.ofString "ABB", .str (Str.ofString "BAA") u)]
  has : Holds h d [(.str (Str.ofString "ABB") t, .str (Str.ofString "BAA") u)]
theorem DictOf.same {prog : Program} {w : World} {K : Type} [DecidableEq K] {knd : KeyKind prog w K} {h h' : Heap} {d : Addr} {kvs : List (K × Value)} (x : h.DictOf knd d kvs) (e : ∀ o, h.get? d = some o → h'.get? d = some o) : h'.DictOf knd d kvs :=
  let ⟨o, es, ep, ho, r⟩ := x; ⟨o, es, ep, e o ho, r⟩
theorem Tab4.same {w : World} {h h' : Heap} {d : Addr} {t u t1 u1 t2 u2 t3 u3 : Tok} {o : Obj} (T : Tab4 w h d t u t1 u1 t2 u2 t3 u3) (ho : h.get? d = some o) (ho' : h'.get? d = some o) : Tab4 w h' d t u t1 u1 t2 u2 t3 u3 :=
  have e : ∀ o', h.get? d = some o' → h'.get? d = some o' := fun o' x => by rw [ho] at x; rw [ho', x]
  ⟨T.t0, T.u0, T.tu, DictOf.same T.dict e, T.has.up e⟩
theorem repQ_len : ∀ l, (repQ l).length ≤ 6 * l.length
  | [] => Nat.le_refl _
  | c :: t => by
    have := repQ_len t
    unfold repQ
    split
    · simp [quot]; omega
    · simp; omega
theorem len_list (l : List Nat) : (⟨l.toArray⟩ : Str).length = l.length := by simp [Str.length]
section
open Builtin.Str
theorem occ1 {l : List Nat} {y : Str} {c : Nat} (hy : y = ⟨#[c]⟩) : (occurrences ⟨l.toArray⟩ y 0 (⟨l.toArray⟩ : Str).length 1).isEmpty = !decide (c ∈ l) := by
  have := StrLaws.found_one ⟨l.toArray⟩ c
  rw [← hy] at this
  rw [← this]
  simp
theorem quote1 {l : List Nat} (h : (occurrences ⟨(repC l).toArray⟩ (Str.ofString "\"") 0 (⟨(repC l).toArray⟩ : Str).length 1).isEmpty = true) :
    Str.ofString "\"" ++ (⟨(repC l).toArray⟩ : Str) ++ Str.ofString "\"" = ⟨(quoteC l).toArray⟩ := by
  rw [occ1 (c := 34) (by decide)] at h
  have h' : 34 ∉ repC l := by simpa using h
  unfold quoteC
  rw [if_neg h']
  apply Str.ext'
  apply Array.toList_inj.mp
  simp [Str.cps_append, show (Str.ofString "\"").cps = #[34] from by decide]
theorem quote2 {l : List Nat} (h : (occurrences ⟨(repC l).toArray⟩ (Str.ofString "\"") 0 (⟨(repC l).toArray⟩ : Str).length 1).isEmpty = false)
    (h2 : (occurrences ⟨(repC l).toArray⟩ (Str.ofString "'") 0 (⟨(repC l).toArray⟩ : Str).length 1).isEmpty = true) :
    Str.ofString "'" ++ (⟨(repC l).toArray⟩ : Str) ++ Str.ofString "'" = ⟨(quoteC l).toArray⟩ := by
  rw [occ1 (c := 34) (by decide)] at h
  rw [occ1 (c := 39) (by decide)] at h2
  have h' : 34 ∈ repC l := by simpa using h
  have h3 : 39 ∉ repC l := by simpa using h2
  unfold quoteC
  rw [if_pos h', if_neg h3]
  apply Str.ext'
  apply Array.toList_inj.mp
  simp [Str.cps_append, show (Str.ofString "'").cps = #[39] from by decide]
theorem quote3 {l : List Nat} (h : (occurrences ⟨(repC l).toArray⟩ (Str.ofString "\"") 0 (⟨(repC l).toArray⟩ : Str).length 1).isEmpty = false)
    (h2 : (occurrences ⟨(repC l).toArray⟩ (Str.ofString "'") 0 (⟨(repC l).toArray⟩ : Str).length 1).isEmpty = false) :
    Str.ofString "\"" ++ Txt.replace ⟨(repC l).toArray⟩ (Str.ofString "\"") (Str.ofString "&quot;") ++ Str.ofString "\"" = ⟨(quoteC l).toArray⟩ := by
  rw [occ1 (c := 34) (by decide)] at h
  rw [occ1 (c := 39) (by decide)] at h2
  have h' : 34 ∈ repC l := by simpa using h
  have h3 : 39 ∈ repC l := by simpa using h2
  unfold quoteC
  rw [if_pos h', if_pos h3, replace_Q]
  apply Str.ext'
  apply Array.toList_inj.mp
  simp [Str.cps_append, show (Str.ofString "\"").cps = #[34] from by decide]
end
set_option maxRecDepth 100000 in
set_option maxHeartbeats 4000000 in
theorem c_quote (w : World) (mean mg mb) (s : Shared) (l : List Nat) (tx : Tok) (d : Addr) {t u} (hT : Tab1 w s.heap d t u) (hdS : (d == sysModules) = false) (hp : Plain l) (hx : l.length ≤ 30) :
   Gives w mean mg mb 39 3 30 [.str ⟨l.toArray⟩ tx, .ref d] s (fun r h => ∃ t, r = .str ⟨(quoteC l).toArray⟩ t) := by
  unfold Gives
  w_top off
  k_fill
  intro dp un fr gd Q E X T hd hu hret
  k_dflt (refine' enter (binds := [(Str.ofString "data", Value.str ⟨l.toArray⟩ tx), (Str.ofString "entities", Value.ref d)]) ?k1 ?k2 ?k3 ?k4 ?k5 ?k6 ?k7 ?_ ?c1 ?c2 ?c3 ?c4; (case k1 => k_asm); (case k2 => k_asm); (case k3 => k_is); (case k4 => k_is); (case k5 => ktr_room); (case k6 => first | exact BindsTo.of_eq rfl | exact binds_K (by k_in) rfl (by k_is) rfl rfl rfl); (case k7 => exact locs rfl); (case c4 => decide);  (case c1 => exact rfl); (case c2 => exact rfl); (case c3 => exact rfl))
  intro h' F' N'
  (try dsimp only)
  (k_with_none)
  k_steps
  rename Fr _ _ _ _ => F2
  rename News _ _ _ _ => N2
  have hlow := modules_low T.nolimit
  have hlow2 := Nat.lt_trans (Nat.lt_of_lt_of_le hlow F2.above) F2.ns.lt
  refine' spread3 (o := d) (more := [(Str.ofString "ABB", .str (Str.ofString "BAA") u)]) ?n1 hdS ?n2 ?n3 ?n4 ?n5 ?n6 ?_
  case n1 =>
    intro s' Q' e hQ
    exact ld (fr_ext (by assumption) e) rfl hQ
  case n2 => exact hT.dict.keep (Fr.keep (by assumption))
  case n3 => simp
  case n4 => decide
  case n5 => exact hlow2
  case n6 => exact (show [Str.ofString "ABB", Str.ofString "\n", Str.ofString "\r", Str.ofString "\t"].Nodup by decide)
  dsimp only
  intro h2 tk2 t1 t2 t3 htk hext hhold hdict
  obtain ⟨u1, u2, u3, hh⟩ := hhold _ (Holds.up hT.has fun o (e : s.heap.get? d = some o) => F2.keep d o e)
  have em : merged (merged [] [(Str.ofString "ABB", Value.str (Str.ofString "BAA") u)]) [(Str.ofString "\n", Value.str (Str.ofString "&#10;") t1), (Str.ofString "\r", Value.str (Str.ofString "&#13;") t2), (Str.ofString "\t", Value.str (Str.ofString "&#9;") t3)] = [(Str.ofString "ABB", Value.str (Str.ofString "BAA") u), (Str.ofString "\n", Value.str (Str.ofString "&#10;") t1), (Str.ofString "\r", Value.str (Str.ofString "&#13;") t2), (Str.ofString "\t", Value.str (Str.ofString "&#9;") t3)] := by
    rw [merged_app [(Str.ofString "ABB", Value.str (Str.ofString "BAA") u)] ([] : List (Str × Value)) (show [Str.ofString "ABB"].Nodup by decide), List.nil_append, merged_app]
    · rfl
    · exact (show [Str.ofString "ABB", Str.ofString "\n", Str.ofString "\r", Str.ofString "\t"].Nodup by decide)
  rw [em] at hdict
  have hTab : Tab4 w h2 h'.objs.size t u u1 t1 u2 t2 u3 t3 := ⟨hT.t0, hT.u0, hT.tu, hdict, hh⟩
  obtain ⟨o9, es9, ep9, ho9, _⟩ := id hdict
  clear hdict hh hhold em
  have F3 := fr_ext F2 hext
  have N3 := news_new F2 N2 hext (Heap.get?_none_of_le (Nat.le_refl _)) ho9
  clear F2 N2
  k_steps
  rename Fr _ _ _ _ => F4
  rename News _ _ _ _ => N4
  k_dflt (refine' use (c_escape _ _ _ _ _ _ _ _ ?l1 ?l2 ?l3 ?l4) ?k1 ?k2 ?k3 ?k4 ?k5 ?k6 ?_; (case k1 => k_asm); (case k2 => k_asm); (case k3 => k_asm); (case k4 => k_asm); (case k5 => ktr_room); (case k6 => ktr_units); (case l1 => exact Tab4.same hTab ho9 (N4 _ (.head _)).1); (case l2 => exact beq_eq_false_iff_ne.mpr (Nat.ne_of_gt hlow2)); (case l3 => assumption); (case l4 => assumption); k_whole)
  intro r9 h9 tk9 F9 N9 X9 O9
  obtain ⟨t9, O9⟩ := O9
  subst O9
  clear X9
  dsimp only
  have hl1 : (⟨(repC l).toArray⟩ : Str).length ≤ 30 := by rw [len_list, repC_len]; exact hx
  have hl2 : (Txt.replace ⟨(repC l).toArray⟩ (Str.ofString "\"") (Str.ofString "&quot;")).length ≤ 180 := by rw [replace_Q, len_list]; have := repQ_len (repC l); rw [repC_len] at this; omega
  k_sweep
  k_steps
  · dsimp only
    rw [quote1 (by assumption)]
    exact hret _ _ _ (Fr.keep (by assumption)) ⟨_, rfl⟩
  · dsimp only
    rw [quote2 (by assumption) (by assumption)]
    exact hret _ _ _ (Fr.keep (by assumption)) ⟨_, rfl⟩
  · dsimp only
    rw [quote3 (by assumption) (by assumption)]
    exact hret _ _ _ (Fr.keep (by assumption)) ⟨_, rfl⟩
end Mine
end PartC9

section PartL0
namespace Mine
def bit (a : Int) : Int := if a.fmod 3 = 0 then 0 else 1
def bitsOf (script : List Int) : List Int := [0] ++ (script.take 10).map bit ++ [1, 0, 1, 0, 1, 1]
theorem bits_carried {ys : List Value} : ∀ {l : List Int}, CarriedAll ys (List.map (fun a => if (a.fmod 3 != 0) = true then PyData.int 1 else PyData.int 0) (List.filter (fun _ => true) l)) → IntsAre ys (l.map bit) := by
  intro l h
  rw [List.filter_eq_self.mpr (fun _ _ => rfl)] at h
  have e : List.map (fun a : Int => if (a.fmod 3 != 0) = true then PyData.int 1 else PyData.int 0) l = (l.map bit).map PyData.int := by
    rw [List.map_map]
    refine List.map_congr_left fun a _ => ?_
    by_cases h : a.fmod 3 = 0
    · simp [bit, h]
    · simp [bit, h]
  rw [e, List.map_map] at h
  exact CarriedAll.intsOf h
structure BitsAre (bs script : List Int) : Prop where
  eq : bs = bitsOf script
  b2 : ∀ d ∈ bs, 0 ≤ d ∧ d < 2
  b16 : ∀ d ∈ bs, 0 ≤ d ∧ d < 16
  hi : bs.length ≤ 17
  lo : 2 ≤ bs.length
theorem bit_in (a : Int) : 0 ≤ bit a ∧ bit a < 2 := by unfold bit; split <;> decide
theorem bits_are (script : List Int) : BitsAre (bitsOf script) script := by
  have h : ∀ d ∈ bitsOf script, 0 ≤ d ∧ d < 2 := by
    intro d hd
    unfold bitsOf at hd
    rcases List.mem_append.mp hd with hd | hd
    · rcases List.mem_append.mp hd with hd | hd
      · rw [List.mem_singleton.mp hd]; decide
      · obtain ⟨a, _, rfl⟩ := List.mem_map.mp hd; exact bit_in a
    · simp only [List.mem_cons, List.not_mem_nil, or_false] at hd
      rcases hd with rfl | rfl | rfl | rfl | rfl | rfl <;> decide
  refine ⟨rfl, h, fun d hd => ⟨(h d hd).1, Int.lt_trans (h d hd).2 (by decide)⟩, ?_, ?_⟩
  · simp only [bitsOf, List.length_append, List.length_map, List.length_take, List.length_cons, List.length_nil]; omega
  · simp only [bitsOf, List.length_append, List.length_map, List.length_take, List.length_cons, List.length_nil]; omega
theorem bits_open {ws : List Value} {script : List Int} (h : IntsAre ws ([0] ++ (script.take 10).map bit ++ [1, 0, 1, 0, 1, 1])) : ∃ bs, IntsAre ws bs ∧ BitsAre bs script := ⟨_, h, bits_are script⟩
/-- a dict of one entry, over the object -/
def TabO (w : World) (o : Obj) : Prop := ∀ h d, h.get? d = some o → ∃ t u, Tab1 w h d t u
section
variable {w : World} {A : Around} {E : Value → Shared → Prop} {s : Shared} {env : Env} {h₀ : Heap} {L : Addr} {m : Str → Option Value} {news : List (Addr × Obj)}
theorem disp_tab {a1 b1 : Nat} {p1 q1 pos : Pos} {Q : Value → Shared → Prop} (F : Fr h₀ L s.heap m) (N : News h₀ L s.heap news) (ht : 1 ≤ s.toks) (hlow : sysModules < h₀.objs.size)
    (h : ∀ h' o tk', Fr h₀ L h' m → News h₀ L h' ((s.heap.objs.size, o) :: news) → TabO w o → (s.heap.objs.size == sysModules) = false → Q (.ref s.heap.objs.size) { s with heap := h', toks := tk' }) :
    wpAny (model Challenge.rw_ik0019_01.row.prog w) A (eval (.Dict [some (.Constant (.str (Str.ofString "ABB")) a1 p1)] [.Constant (.str (Str.ofString "BAA")) b1 q1] pos) env) Q E s := by
  refine disp1 fun h' tk' e _ hD hH => ?_
  obtain ⟨o, es, ep, ho, r⟩ := id hD
  refine h h' o tk' (fr_ext F e) (news_new F N e (Heap.get?_none_of_le (Nat.le_refl _)) ho) (fun h9 d9 ho9 => ⟨s.toks, s.toks + 1, ?_⟩) (beq_eq_false_iff_ne.mpr (Nat.ne_of_gt (Nat.lt_trans (Nat.lt_of_lt_of_le hlow F.above) F.ns.lt)))
  obtain ⟨o2, es2, ep2, ho2, r2⟩ := hH
  have e2 : o2 = o := by rw [ho] at ho2; exact (Option.some.inj ho2).symm
  subst e2
  exact ⟨Nat.ne_of_gt ht, Nat.succ_ne_zero _, Nat.ne_of_lt (Nat.lt_succ_self _), ⟨_, es, ep, ho9, r⟩, ⟨_, es2, ep2, ho9, r2⟩⟩
theorem execs_cons_toks {prog : Program} {st : Stmt} {rest : List Stmt} {Q : Flow → Shared → Prop} (ht : 1 ≤ s.toks)
    (h : wpAny (model prog w) A (exec st env) (fun f s' => 1 ≤ s'.toks → match f with | .next => wpAny (model prog w) A (execs rest env) Q E s' | f => Q f s') E s) : wpAny (model prog w) A (execs (st :: rest) env) Q E s :=
  wpAny_execs_cons (wpAny_mono (wpAny_with_toks ht (wpAny_mono h (fun _ _ x => x) fun _ _ x _ => x)) (fun f s' x => by cases f <;> exact x) fun _ _ x => x)
theorem gen_toks' {prog : Program} {α : Type} {m : Sem α} {Q : α → Shared → Prop} {h : Heap} {g dr os} {a : Nat} (ha : 1 ≤ a)
    (f : ∀ tk, 1 ≤ tk → wpAny (model prog w) A m Q E ⟨h, g, dr, tk, os⟩) : wpAny (model prog w) A m Q E ⟨h, g, dr, a, os⟩ := f _ ha
end
theorem c_quoteO (w : World) (mean mg mb) (s : Shared) (l : List Nat) (tx : Tok) (d : Addr) {o : Obj} (hO : TabO w o) (hg : s.heap.get? d = some o) (hdS : (d == sysModules) = false) (hp : Plain l) (hx : l.length ≤ 30) :
   Gives w mean mg mb 39 3 30 [.str ⟨l.toArray⟩ tx, .ref d] s (fun r h => ∃ t, r = .str ⟨(quoteC l).toArray⟩ t) :=
  let ⟨_, _, T⟩ := hO _ _ hg
  c_quote w mean mg mb s l tx d T hdS hp hx
end Mine
end PartL0

section PartPl
namespace Mine
def repB : List Int → List Int
  | a :: b :: c :: t => if a = 0 ∧ b = 1 ∧ c = 1 then 1 :: 0 :: 0 :: repB t else a :: repB (b :: c :: t)
  | l => l
def rowAt (bs : List Int) : Nat → List Int
  | 0 => bs
  | i + 1 => repB (rowAt bs i)
def Bits (l : List Int) : Prop := ∀ d ∈ l, 0 ≤ d ∧ d < 2
theorem Bits.tail {a : Int} {t : List Int} (h : Bits (a :: t)) : Bits t := fun d hd => h d (.tail _ hd)
theorem Bits.head {a : Int} {t : List Int} (h : Bits (a :: t)) : a = 0 ∨ a = 1 := by have := h a (.head _); omega
theorem Bits.cons {a : Int} {t : List Int} (ha : a = 0 ∨ a = 1) (h : Bits t) : Bits (a :: t) := fun d hd => by
  rcases List.mem_cons.mp hd with rfl | hd
  · omega
  · exact h d hd
theorem repB_len : ∀ l, (repB l).length = l.length
  | a :: b :: c :: t => by
    unfold repB
    split
    · simp [repB_len t]
    · simp [repB_len (b :: c :: t)]
  | [] => rfl
  | [_] => rfl
  | [_, _] => rfl
theorem repB_bits : ∀ {l}, Bits l → Bits (repB l)
  | a :: b :: c :: t, h => by
    unfold repB
    split
    · exact .cons (.inr rfl) (.cons (.inl rfl) (.cons (.inl rfl) (repB_bits h.tail.tail.tail)))
    · exact .cons h.head (repB_bits h.tail)
  | [], h => h
  | [_], h => h
  | [_, _], h => h
theorem rowAt_len (bs : List Int) : ∀ i, (rowAt bs i).length = bs.length
  | 0 => rfl
  | i + 1 => by rw [rowAt, repB_len, rowAt_len bs i]
theorem rowAt_bits {bs : List Int} (h : Bits bs) : ∀ i, Bits (rowAt bs i)
  | 0 => h
  | i + 1 => repB_bits (rowAt_bits h i)
/-- the codes of a row -/
def codes (b : List Int) : List Nat := b.map fun d => (65 + d).toNat
theorem codes_plain {b : List Int} (h : Bits b) : Plain (codes b) := by
  intro c hc
  obtain ⟨d, hd, rfl⟩ := List.mem_map.mp hc
  have := h d hd
  omega
theorem repC_codes : ∀ {b : List Int}, Bits b → repC (codes b) = codes (repB b)
  | a :: b :: c :: t, h => by
    unfold repB
    have ha := h.head
    have hb := h.tail.head
    have hc := h.tail.tail.head
    split
    · rename_i e
      obtain ⟨rfl, rfl, rfl⟩ := e
      have ih := repC_codes h.tail.tail.tail
      simp only [codes, List.map_cons] at ih ⊢
      simp only [show (65 + (0 : Int)).toNat = 65 from rfl, show (65 + (1 : Int)).toNat = 66 from rfl]
      rw [repC, ih]
    · rename_i e
      have ih := repC_codes h.tail
      have hn : ((65 + a).toNat :: codes (b :: c :: t)).take ([65, 66, 66] : List Nat).length ≠ [65, 66, 66] := by
        simp [codes]
        intro h1 h2 h3
        apply e
        omega
      have := repC_rep.on _ _ hn
      rw [ih] at this
      exact this
  | [], _ => rfl
  | [a], h => by rcases h.head with rfl | rfl <;> rfl
  | [a, b], h => by rcases h.head with rfl | rfl <;> rcases h.tail.head with rfl | rfl <;> rfl
/-- the ones that the law marks, by the two figures to the left -/
def mk : Int → Int → List Int → List Int
  | _, _, [] => []
  | p, q, d :: t => d * q * (1 - p) :: mk q d t
theorem num_len (a : Int) : ∀ l, num 2 a l = a * 2 ^ l.length + num 2 0 l
  | [] => by simp [num]
  | d :: t => by
    unfold num
    rw [num_len (a * 2 + d) t, num_len (0 * 2 + d) t, List.length_cons, Int.pow_succ]
    have : (a * 2 + d) * 2 ^ t.length = a * (2 ^ t.length * 2) + d * 2 ^ t.length := by rw [Int.add_mul, Int.mul_assoc, Int.mul_comm 2]
    rw [this, Int.zero_mul, Int.zero_add]
    omega
theorem num_cons (d : Int) (t : List Int) : num 2 0 (d :: t) = d * 2 ^ t.length + num 2 0 t := by
  show num 2 (0 * 2 + d) t = _
  rw [Int.zero_mul, Int.zero_add, num_len]
theorem mk_len : ∀ (p q : Int) l, (mk p q l).length = l.length
  | _, _, [] => rfl
  | p, q, d :: t => by simp [mk, mk_len q d t]
theorem rep_num : ∀ {l : List Int} {p q : Int}, Bits l → (p = 0 ∨ p = 1) → (q = 0 ∨ q = 1) → ¬ (p = 0 ∧ q = 1 ∧ l.head? = some 1) → ¬ (q = 0 ∧ l.take 2 = [1, 1]) →
    num 2 0 (repB l) = num 2 0 l + num 2 0 (mk p q l)
  | a :: b :: c :: t, p, q, h, hp, hq, h1, h2 => by
    have ha := h.head
    have e0 : a * q * (1 - p) = 0 := by
      rcases ha with rfl | rfl
      · simp
      · rcases hq with rfl | rfl
        · simp
        · rcases hp with rfl | rfl
          · exact absurd ⟨rfl, rfl, rfl⟩ h1
          · rfl
    unfold repB
    split
    · rename_i e
      obtain ⟨rfl, rfl, rfl⟩ := e
      have ih := rep_num (p := 1) (q := 1) h.tail.tail.tail (.inr rfl) (.inr rfl) (by simp) (by simp)
      simp only [mk, num_cons, List.length_cons, repB_len, mk_len, ih, Int.pow_succ]
      omega
    · rename_i e
      have ih := rep_num (p := q) (q := a) h.tail hq ha (by
        rintro ⟨rfl, rfl, hb⟩
        simp at hb
        subst hb
        exact h2 ⟨rfl, rfl⟩) (by
        rintro ⟨rfl, hb⟩
        simp at hb
        exact e ⟨rfl, hb⟩)
      have z : num 2 0 (0 :: mk q a (b :: c :: t)) = num 2 0 (mk q a (b :: c :: t)) := by rw [num_cons]; simp
      rw [show mk p q (a :: b :: c :: t) = (a * q * (1 - p)) :: mk q a (b :: c :: t) from rfl, e0, z, num_cons a (repB _), num_cons a (b :: c :: t), ih, repB_len]
      omega
  | [], _, _, _, _, _, _, _ => rfl
  | [a], p, q, h, hp, hq, h1, h2 => by
    rcases h.head with rfl | rfl
    · simp [repB, mk, num]
    · rcases hq with rfl | rfl
      · simp [repB, mk, num]
      · rcases hp with rfl | rfl
        · exact absurd ⟨rfl, rfl, rfl⟩ h1
        · simp [repB, mk, num]
  | [a, b], p, q, h, hp, hq, h1, h2 => by
    rcases h.head with rfl | rfl <;> rcases h.tail.head with rfl | rfl <;> rcases hq with rfl | rfl <;> rcases hp with rfl | rfl <;> first | (simp [repB, mk, num]; done) | (exact absurd ⟨rfl, rfl, rfl⟩ h1) | (exact absurd ⟨rfl, rfl⟩ h2)
theorem mk_get : ∀ (l : List Int) (p q : Int) (i : Nat) (h : i < l.length), (mk p q l)[i]? = some ((p :: q :: l).getD (i + 2) 0 * (p :: q :: l).getD (i + 1) 0 * (1 - (p :: q :: l).getD i 0))
  | d :: t, p, q, 0, _ => by simp [mk]
  | d :: t, p, q, i + 1, h => by
    have := mk_get t q d i (by simpa using h)
    simpa [mk] using this
  | [], _, _, _, h => by simp at h
theorem marked_mk (ns : List Int) : markedL ns = mk 1 1 ns := by
  apply List.ext_getElem?
  intro i
  by_cases hi : i < ns.length
  · rw [mk_get ns 1 1 i hi]
    unfold markedL rangeKs
    rw [List.getElem?_map, List.getElem?_map, List.getElem?_range hi]
    simp only [Option.map_some]
    congr 1
    match i with
    | 0 => simp
    | 1 => simp
    | j + 2 =>
      rw [if_pos (by omega)]
      simp
      have e1 : ((j : Int) + 2).toNat = j + 2 := by omega
      have e2 : ((j : Int) + 2 - 1).toNat = j + 1 := by omega
      rw [e1]
      rfl
  · have h1 : (markedL ns).length = ns.length := by simp [markedL, rangeKs_length]
    rw [List.getElem?_eq_none (by omega), List.getElem?_eq_none (by rw [mk_len]; omega)]
theorem rep_marked {l : List Int} (h : Bits l) : num 2 0 (repB l) = num 2 0 l + num 2 0 (markedL l) := by
  rw [marked_mk]
  exact rep_num h (.inr rfl) (.inr rfl) (by simp) (by simp)
theorem bits_snoc {n d : Int} (h0 : 0 ≤ n) (hd : d = 0 ∨ d = 1) (z : Nat) : bitsL (n * 2 + d) (z + 1) = bitsL n z ++ [d] := by
  unfold bitsL rangeKs
  rw [List.range_succ]
  simp only [List.map_append, List.map_map, List.map_cons, List.map_nil]
  congr 1
  · refine List.map_congr_left fun k hk => ?_
    have hk' := List.mem_range.mp hk
    simp only [Function.comp]
    have e1 : (((z + 1 : Nat) : Int) - 1 - (0 + (k : Int))).toNat = (z - 1 - k) + 1 := by omega
    have e2 : ((z : Int) - 1 - (0 + (k : Int))).toNat = z - 1 - k := by omega
    rw [e1, e2]
    generalize z - 1 - k = j
    have p1 : (0 : Int) ≤ 2 ^ j := Int.pow_nonneg (by decide)
    have p2 : (0 : Int) ≤ 2 ^ (j + 1) := Int.pow_nonneg (by decide)
    rw [Int.fdiv_eq_ediv_of_nonneg _ p1, Int.fdiv_eq_ediv_of_nonneg _ p2, Int.pow_succ, Int.mul_comm (2 ^ j) 2, ← Int.ediv_ediv_of_nonneg (by decide)]
    congr 2
    omega
  · have e1 : (((z + 1 : Nat) : Int) - 1 - (0 + (z : Int))).toNat = 0 := by omega
    rw [e1]
    simp only [Int.pow_zero]
    rw [Int.fdiv_eq_ediv_of_nonneg _ (by decide), Int.ediv_one, Int.fmod_eq_emod_of_nonneg _ (by decide)]
    congr 1
    omega
theorem num_bound : ∀ {l : List Int}, Bits l → 0 ≤ num 2 0 l ∧ num 2 0 l < 2 ^ l.length
  | [], _ => by simp [num]
  | d :: t, h => by
    have ih := num_bound h.tail
    rw [num_cons, List.length_cons, Int.pow_succ]
    rcases h.head with rfl | rfl <;> omega
theorem bits_of_rev : ∀ (r : List Int), Bits r.reverse → bitsL (num 2 0 r.reverse) r.length = r.reverse
  | [], _ => rfl
  | d :: t, h => by
    rw [List.reverse_cons] at h ⊢
    have ht : Bits t.reverse := fun x hx => h x (List.mem_append_left _ hx)
    have hd : d = 0 ∨ d = 1 := by have := h d (by simp); omega
    rw [num_snoc, List.length_cons, bits_snoc (num_bound ht).1 hd, bits_of_rev t ht]
theorem bits_num {b : List Int} (h : Bits b) : bitsL (num 2 0 b) b.length = b := by
  have := bits_of_rev b.reverse (by simpa using h)
  simpa using this
theorem num_small {b : List Int} (h : Bits b) (hl : b.length ≤ 17) : num 2 0 b < 2 ^ 20 := by
  have h1 := (num_bound h).2
  have h2 : (2 : Int) ^ b.length ≤ 2 ^ 17 := by exact_mod_cast Nat.pow_le_pow_right (n := 2) (by decide) hl
  have h3 : (2 : Int) ^ 17 < 2 ^ 20 := by decide
  omega
end Mine
end PartPl

section PartPf
namespace Mine
def repX : List Bool → List Bool
  | a :: b :: c :: t => if (!a && b && c) = true then true :: false :: false :: repX t else a :: repX (b :: c :: t)
  | l => l
def iterX (l : List Bool) : Nat → List Bool
  | 0 => l
  | n + 1 => repX (iterX l n)
def toI (l : List Bool) : List Int := l.map fun b => if b then 1 else 0
theorem repB_toI : ∀ l, repB (toI l) = toI (repX l)
  | a :: b :: c :: t => by
    have h1 := repB_toI t
    have h2 := repB_toI (b :: c :: t)
    simp only [toI, List.map_cons] at h1 h2 ⊢
    unfold repB repX
    cases a <;> cases b <;> cases c <;> simp_all [toI]
  | [] => rfl
  | [_] => rfl
  | [_, _] => rfl
theorem rowAt_toI (l : List Bool) : ∀ n, rowAt (toI l) n = toI (iterX l n)
  | 0 => rfl
  | n + 1 => by rw [rowAt, rowAt_toI l n, repB_toI, iterX]
def trues : List Bool → Nat
  | [] => 0
  | true :: t => trues t + 1
  | false :: t => trues t
theorem sum_toI : ∀ l, (toI l).sum = (trues l : Int)
  | [] => rfl
  | true :: t => by
    have := sum_toI t
    simp only [toI, List.map_cons, List.sum_cons, trues] at this ⊢
    rw [this]; simp; omega
  | false :: t => by
    have := sum_toI t
    simp only [toI, List.map_cons, List.sum_cons, trues] at this ⊢
    rw [this]; simp
/-- the greedy row by the places from the left -/
def gI : Int → List Int → List Int
  | _, [] => []
  | left, c :: t => if c ≤ left then 1 :: gI (left - c) t else 0 :: gI left t
def dotI : List Int → List Int → Int
  | c :: cs, d :: ds => c * d + dotI cs ds
  | _, _ => 0
theorem dot_range : ∀ (R ns : List Int), R.length = ns.length → ((List.range ns.length).map fun k => R.getD k 0 * ns.getD k 0).sum = dotI R ns
  | [], [], _ => rfl
  | c :: cs, d :: ds, h => by
    have ih := dot_range cs ds (by simpa using h)
    rw [List.length_cons, List.range_succ_eq_map, List.map_cons, List.map_map, List.sum_cons, dotI, ← ih]
    simp [Function.comp_def]
  | [], _ :: _, h => by simp at h
  | _ :: _, [], h => by simp at h
theorem rev_getD {ps : List Int} {n k : Nat} (hl : ps.length = n) (hk : k < n) : ps.getD ((n : Int) - 1 - (k : Int)).toNat 0 = ps.reverse.getD k 0 := by
  rw [show ((n : Int) - 1 - (k : Int)).toNat = n - 1 - k by omega]
  simp only [List.getD_eq_getElem?_getD]
  rw [List.getElem?_reverse (by omega), hl]
theorem gr_left {ns ps : List Int} (hl : ps.length = ns.length) : (grS ns ps 0).1 = dotI ps.reverse ns := by
  rw [← dot_range ps.reverse ns (by simpa using hl)]
  unfold grS rangeKs
  simp only [List.map_map]
  congr 1
  refine List.map_congr_left fun k hk => ?_
  have hk' := List.mem_range.mp hk
  simp only [Function.comp, Int.zero_add]
  rw [rev_getD hl hk']
  simp
theorem gr_run {ns ps : List Int} (hl : ps.length = ns.length) : ∀ j, j ≤ ns.length → (grS ns ps j).2 ++ gI (grS ns ps j).1 (ps.reverse.drop j) = gI (dotI ps.reverse ns) ps.reverse
  | 0, _ => by rw [← gr_left hl]; rfl
  | j + 1, h => by
    have ih := gr_run hl j (by omega)
    rw [← ih]
    have hlt : j < ps.reverse.length := by simp; omega
    have e : ps.reverse.getD j 0 = ps.reverse[j] := by simp [List.getD_eq_getElem?_getD, List.getElem?_eq_getElem hlt]
    rw [List.drop_eq_getElem_cons hlt]
    show (grS ns ps (j + 1)).2 ++ _ = _ ++ (if ps.reverse[j] ≤ _ then _ else _)
    rw [show grS ns ps (j + 1) = if ps.getD ((ns.length : Int) - 1 - j).toNat 0 ≤ (grS ns ps j).1 then ((grS ns ps j).1 - ps.getD ((ns.length : Int) - 1 - j).toNat 0, (grS ns ps j).2 ++ [1]) else ((grS ns ps j).1, (grS ns ps j).2 ++ [0]) from rfl]
    rw [rev_getD hl (by omega), e]
    split <;> simp
theorem greedy_gI {ns : List Int} : greedyL ns = gI (dotI (fibs ns.length).reverse ns) (fibs ns.length).reverse := by
  have hl : (fibs ns.length).length = ns.length := by simp [fibs]
  rw [← gr_run hl ns.length (Nat.le_refl _)]
  unfold greedyL
  rw [List.drop_of_length_le (by simp [hl])]
  simp [gI]
def gX : Nat → List Nat → List Bool
  | _, [] => []
  | left, c :: t => if Nat.ble c left = true then true :: gX (left - c) t else false :: gX left t
def dotX : List Nat → List Bool → Nat
  | c :: cs, true :: ds => c + dotX cs ds
  | _ :: cs, false :: ds => dotX cs ds
  | _, _ => 0
theorem dot_toI : ∀ (P : List Nat) (l : List Bool), dotI (P.map Int.ofNat) (toI l) = (dotX P l : Int)
  | c :: cs, true :: ds => by
    have := dot_toI cs ds
    simp only [toI, List.map_cons, dotI, dotX] at this ⊢
    rw [this]; simp
  | c :: cs, false :: ds => by
    have := dot_toI cs ds
    simp only [toI, List.map_cons, dotI, dotX] at this ⊢
    rw [this]; simp
  | [], [] => rfl
  | [], _ :: _ => rfl
  | _ :: _, [] => rfl
theorem g_toI : ∀ (P : List Nat) (n : Nat), gI (n : Int) (P.map Int.ofNat) = toI (gX n P)
  | [], _ => rfl
  | c :: t, n => by
    have h1 := g_toI t (n - c)
    have h2 := g_toI t n
    simp only [List.map_cons, gI, gX]
    by_cases h : c ≤ n
    · have e : ((n : Int) - Int.ofNat c) = ((n - c : Nat) : Int) := by simp; omega
      rw [if_pos (by simpa using h), if_pos (by simpa using h), e, h1]
      rfl
    · rw [if_neg (by simpa using h), if_neg (by simpa using h), h2]
      rfl
def fb : Nat → Nat × Nat
  | 0 => (1, 2)
  | n + 1 => ((fb n).2, (fb n).1 + (fb n).2)
theorem fib_fb : ∀ n, fib n = ((fb n).1 : Int) ∧ fib (n + 1) = ((fb n).2 : Int)
  | 0 => ⟨rfl, rfl⟩
  | n + 1 => by
    obtain ⟨a, b⟩ := fib_fb n
    refine ⟨b, ?_⟩
    show fib (n + 1) + fib n = _
    rw [a, b, fb]
    simp; omega
def places (z : Nat) : List Nat := ((List.range z).map fun i => (fb i).1).reverse
theorem places_fibs (z : Nat) : (fibs z).reverse = (places z).map Int.ofNat := by
  unfold fibs places
  rw [← List.map_reverse, ← List.map_reverse, List.map_map]
  refine List.map_congr_left fun i _ => ?_
  rw [(fib_fb i).1]; rfl
theorem greedy_toI (l : List Bool) : greedyL (toI l) = toI (gX (dotX (places l.length) l) (places l.length)) := by
  rw [greedy_gI]
  have hl : (toI l).length = l.length := by simp [toI]
  rw [hl, places_fibs, dot_toI, g_toI]
def rowX (l : List Bool) : List Bool := false :: (l ++ [true, false, true, false, true, true])
def fp (n : Nat) : Nat := (fb n).1
theorem fp_two (n : Nat) : fp (n + 2) = fp (n + 1) + fp n := by
  show (fb (n + 1)).2 = (fb (n + 1)).1 + (fb n).1
  rw [fb]
  exact Nat.add_comm _ _
theorem fp_pos : ∀ n, 1 ≤ fp n
  | 0 => by decide
  | 1 => by decide
  | n + 2 => by rw [fp_two]; have := fp_pos n; omega
theorem fp_mono : ∀ n, fp n ≤ fp (n + 1)
  | 0 => by decide
  | n + 1 => by rw [fp_two]; omega
/-- what a row counts, each place the sum of the two to its right -/
def val : List Bool → Nat
  | [] => 0
  | d :: t => (bif d then fp t.length else 0) + val t
theorem repX_len : ∀ l, (repX l).length = l.length
  | a :: b :: c :: t => by
    unfold repX
    split
    · simp [repX_len t]
    · simp [repX_len (b :: c :: t)]
  | [] => rfl
  | [_] => rfl
  | [_, _] => rfl
theorem val_repX : ∀ l, val (repX l) = val l
  | a :: b :: c :: t => by
    have h1 := val_repX t
    have h2 := val_repX (b :: c :: t)
    unfold repX
    split
    · rename_i h
      obtain ⟨⟨rfl, rfl⟩, rfl⟩ : (a = false ∧ b = true) ∧ c = true := by simpa using h
      have e : val (false :: true :: true :: t) = fp (t.length + 1) + (fp t.length + val t) := by simp [val]
      have e' : val (true :: false :: false :: repX t) = fp (t.length + 2) + val t := by simp [val, repX_len, h1]
      rw [e, e', fp_two]
      omega
    · rw [val, h2, repX_len]; rfl
  | [] => rfl
  | [_] => rfl
  | [_, _] => rfl
theorem trues_cons (a : Bool) (t : List Bool) : trues (a :: t) = (bif a then 1 else 0) + trues t := by
  cases a
  · simp [trues]
  · simp [trues]; omega
theorem repX_falls : ∀ l, repX l = l ∨ trues (repX l) < trues l
  | a :: b :: c :: t => by
    have h1 := repX_falls t
    have h2 := repX_falls (b :: c :: t)
    unfold repX
    split
    · rename_i h
      obtain ⟨⟨rfl, rfl⟩, rfl⟩ : (a = false ∧ b = true) ∧ c = true := by simpa using h
      refine .inr ?_
      simp only [trues_cons, cond_true, cond_false]
      rcases h1 with h1 | h1
      · rw [h1]; omega
      · omega
    · rcases h2 with h2 | h2
      · rw [h2]; exact .inl rfl
      · refine .inr ?_
        rw [trues_cons a, trues_cons a]; omega
  | [] => .inl rfl
  | [_] => .inl rfl
  | [_, _] => .inl rfl
theorem iter_falls (l : List Bool) : ∀ n, repX (iterX l n) = iterX l n ∨ trues (iterX l n) + n ≤ trues l
  | 0 => .inr (Nat.le_refl _)
  | n + 1 => by
    have fix : repX (iterX l n) = iterX l n → repX (iterX l (n + 1)) = iterX l (n + 1) := fun h => by rw [iterX, h, h]
    rcases iter_falls l n with h | h
    · exact .inl (fix h)
    · rcases repX_falls (iterX l n) with h2 | h2
      · exact .inl (fix h2)
      · refine .inr ?_
        rw [iterX]; omega
theorem iter_fix (l : List Bool) : repX (iterX l (trues l)) = iterX l (trues l) := by
  rcases iter_falls l (trues l) with h | h
  · exact h
  · rcases repX_falls (iterX l (trues l)) with h2 | h2
    · exact h2
    · omega
theorem iter_len (l : List Bool) : ∀ n, (iterX l n).length = l.length
  | 0 => rfl
  | n + 1 => by rw [iterX, repX_len, iter_len l n]
theorem iter_val (l : List Bool) : ∀ n, val (iterX l n) = val l
  | 0 => rfl
  | n + 1 => by rw [iterX, val_repX, iter_val l n]
/-- no two ones side by side -/
def Apart : List Bool → Prop
  | a :: b :: t => ¬ (a = true ∧ b = true) ∧ Apart (b :: t)
  | _ => True
theorem fix_apart : ∀ l, repX l = l → (∀ t, l ≠ true :: true :: t) → Apart l
  | a :: b :: c :: t, h, hs => by
    unfold repX at h
    split at h
    · rename_i e
      obtain ⟨⟨rfl, rfl⟩, rfl⟩ : (a = false ∧ b = true) ∧ c = true := by simpa using e
      simp at h
    · rename_i e
      injection h with _ h
      refine ⟨?_, fix_apart (b :: c :: t) h ?_⟩
      · rintro ⟨rfl, rfl⟩
        exact hs _ rfl
      · intro t' e'
        injection e' with e1 e2
        injection e2 with e2 e3
        subst e1; subst e2
        cases a
        · exact e rfl
        · exact hs _ rfl
  | [], _, _ => trivial
  | [_], _, _ => trivial
  | [a, b], _, hs => ⟨by rintro ⟨rfl, rfl⟩; exact hs _ rfl, trivial⟩
theorem val_le : ∀ l, val l + 2 ≤ fp (l.length + 1)
  | [] => by decide
  | a :: t => by
    have := val_le t
    rw [List.length_cons, fp_two, val]
    cases a
    · simp only [cond_false]; omega
    · simp only [cond_true]; omega
theorem apart_val : ∀ l, Apart l → val l < fp l.length
  | [], _ => by decide
  | [a], _ => by cases a <;> decide
  | a :: b :: t, h => by
    have h2 := apart_val (b :: t) h.2
    cases a
    · have e : val (false :: b :: t) = val (b :: t) := by simp [val]
      have := fp_mono (b :: t).length
      rw [e, show (false :: b :: t).length = (b :: t).length + 1 from rfl]
      omega
    · cases b
      · have h3 : Apart t := by
          cases t with
          | nil => trivial
          | cons c t => exact h.2.2
        have h4 := apart_val t h3
        simp only [val, List.length_cons, cond_true, cond_false]
        rw [fp_two]; omega
      · exact absurd ⟨rfl, rfl⟩ h.1
theorem apart_tail {a : Bool} {t : List Bool} (h : Apart (a :: t)) : Apart t := by
  cases t with
  | nil => trivial
  | cons b t => exact h.2
theorem places_succ (z : Nat) : places (z + 1) = fp z :: places z := by
  unfold places
  rw [List.range_succ, List.map_append, List.reverse_append]
  rfl
theorem dot_val : ∀ l, dotX (places l.length) l = val l
  | [] => rfl
  | a :: t => by
    rw [List.length_cons, places_succ, val, ← dot_val t]
    cases a
    · simp [dotX]
    · simp [dotX]
theorem greedy_apart : ∀ l, Apart l → gX (val l) (places l.length) = l
  | [], _ => rfl
  | a :: t, h => by
    have ih := greedy_apart t (apart_tail h)
    have hv := apart_val t (apart_tail h)
    rw [List.length_cons, places_succ, gX]
    cases a
    · have e : val (false :: t) = val t := by simp [val]
      rw [e, if_neg (by simp; omega), ih]
    · have e : val (true :: t) = fp t.length + val t := by simp [val]
      rw [e, if_pos (by simp), Nat.add_sub_cancel_left, ih]
theorem greedy_row {r t : List Bool} (hr : r = false :: t) (h1 : 1 ≤ trues r) : repX (iterX r (trues r - 1)) = gX (dotX (places r.length) r) (places r.length) := by
  have e : repX (iterX r (trues r - 1)) = iterX r (trues r) := by
    rw [show trues r = (trues r - 1) + 1 by omega, iterX]
    rfl
  have hA : Apart (iterX r (trues r)) := by
    refine fix_apart _ (iter_fix r) fun t' et => ?_
    have hl := iter_len r (trues r)
    have hv := iter_val r (trues r)
    have hb := val_le t
    rw [et] at hl hv
    subst hr
    simp only [List.length_cons] at hl
    simp only [val, List.length_cons, cond_true, cond_false] at hv
    have hl' : t.length = t'.length + 1 := by omega
    rw [hl', fp_two] at hb
    omega
  have hg := greedy_apart _ hA
  rw [iter_val, iter_len] at hg
  rw [e, dot_val, hg]
theorem trues_append : ∀ a b : List Bool, trues (a ++ b) = trues a + trues b
  | [], b => by simp [trues]
  | true :: a, b => by simp [trues, trues_append a b]; omega
  | false :: a, b => by simp [trues, trues_append a b]
theorem last_row {bs : List Int} {l : List Bool} (e : bs = toI (rowX l)) : repB (rowAt bs (bs.sum - 1).toNat) = greedyL bs := by
  subst e
  have h1 : 1 ≤ trues (rowX l) := by
    show 1 ≤ trues (l ++ [true, false, true, false, true, true])
    rw [trues_append]
    simp [trues]
  rw [sum_toI, rowAt_toI, repB_toI, greedy_toI, show ((trues (rowX l) : Int) - 1).toNat = trues (rowX l) - 1 by omega, greedy_row (r := rowX l) rfl h1]
end Mine
end PartPf

section PartRg
namespace Mine
section
variable {prog : Program} {w : World} {A : Around} {E : Value → Shared → Prop} {s : Shared}
theorem iter_range {env : Env} {h₀ : Heap} {body : List Stmt} {ty : Str} {tp : Pos} {Q : Flow → Shared → Prop} {r : Addr} {b : Int} {n : Nat} {t u v : Tok} {m₀ : Str → Option Value} {news : List (Addr × Obj)}
    (J : Nat → (Str → Option Value) → Prop) (hh : A.handled = none) (F : Fr h₀ env.locals s.heap m₀) (N : News h₀ env.locals s.heap news) (hr : IsRange s.heap r 0 b 1 t u v)
    (hsm : Builtin.Range.small 0 b 1 = true) (hn : Builtin.Range.rangeSize 0 b 1 = ((n : Nat) : Int)) (h0 : J 0 m₀)
    (turn : ∀ i tv m₁ h₁ tk₁ own, i < n → J i m₁ → Fr h₀ env.locals h₁ m₁ → News h₀ env.locals h₁ (own ++ news) →
      wpAny (model prog w) A (assign (.Name ty tp) env (.int (i : Int) tv)) (fun _ s₃ => wpAny (model prog w) A (execs body env) (fun f s₄ => f = .next ∧ InvEnd h₀ env.locals (J (i + 1)) (own ++ news) { s with heap := h₁, toks := tk₁ } s₄) (fun _ _ => False) s₃) (fun _ _ => False) { s with heap := h₁, toks := tk₁ })
    (done : ∀ m₁ h tk, J n m₁ → Fr h₀ env.locals h m₁ → News h₀ env.locals h news → Q .next { s with heap := h, toks := tk }) :
    wpAny (model prog w) A (pyIter (.ref r)) (fun it s₂ => TurnsAt prog w A h₀ env (.Name ty tp) body Q E it s₂) E s := by
  refine wpAny_pyIter_range hr hsm ?_
  let J' : Nat → (Str → Option Value) → List (Addr × Obj) → Prop := fun i m₁ news₁ => news₁ = news ∧ J i m₁
  refine ⟨s.heap.objs.size, [s.heap.objs.size], [s.heap.objs.size], n, _, _, _, m₀, news, J', rfl, KTurns.ofWalks (Walks.range hh s.heap.objs.size 0 1 n) (fun i v s Q E st q => by unfold letOwnedTupleGo; exact wpAny_pure q), ?_, ?_, ?_, ?_, F.push _, (fun p hp => ⟨Heap.get?_push_of_some _ (N p hp).1, (N p hp).2⟩), ⟨rfl, h0⟩, ?_, ?_⟩
  · intro hm
    exact absurd F.ns.lt ((List.mem_singleton.mp hm) ▸ Nat.lt_irrefl _)
  · intro b hb
    rw [List.mem_singleton.mp hb]
    exact next_is_new F
  · intro p hp hI
    exact absurd (Heap.lt_size (N p hp).1) ((List.mem_singleton.mp hI) ▸ Nat.lt_irrefl _)
  · have := Heap.get?_push_size s.heap (o := { cls := .type "range_iterator", data := .fields #[rawInt 0, rawInt (Builtin.Range.rangeSize 0 b 1), rawInt 1] }) rfl
    rw [hn] at this
    simpa [hn] using this
  · rintro i v m₁ news₁ h₁ tk₁ own hi ⟨tv, rfl⟩ ⟨rfl, hJ⟩ hoff _ _ _ _ F₁ N₁
    rw [Int.zero_add, Int.mul_one]
    refine wpAny_mono (turn i tv m₁ h₁ tk₁ own hi hJ F₁ N₁) (fun _ s₃ h₃ => wpAny_mono h₃ (fun f s₄ p => ?_) fun _ _ q => q.elim) fun _ _ q => q.elim
    obtain ⟨rfl, h', tk, m', news', e, F', N', hn, hm⟩ := p
    exact .next ⟨rfl, h', tk, m', news₁, e, F', fun p hp => N' p (hn p hp), hoff, rfl, hm⟩
  · rintro h' tk m' news' F' N' _ ⟨rfl, hJ⟩
    exact done m' h' tk hJ F' N'
theorem range_toNat {b : Int} (h1 : -1000 ≤ b) (h2 : b ≤ 1000) : Builtin.Range.small 0 b 1 = true ∧ Builtin.Range.rangeSize 0 b 1 = ((b.toNat : Nat) : Int) := by
  have e : Builtin.Range.rangeSize 0 b 1 = ((b.toNat : Nat) : Int) := by
    unfold Builtin.Range.rangeSize
    rw [if_pos (by decide)]
    by_cases h : 0 < b
    · rw [if_pos h, Int.ediv_one]; omega
    · rw [if_neg h]; omega
  refine ⟨?_, e⟩
  unfold Builtin.Range.small
  rw [e]
  unfold Builtin.Range.rangeFitsLong
  simp
  omega
theorem iter_rangeN {env : Env} {h₀ : Heap} {body : List Stmt} {ty : Str} {tp : Pos} {Q : Flow → Shared → Prop} {r : Addr} {b : Int} {t u v : Tok} {m₀ : Str → Option Value} {news : List (Addr × Obj)}
    (J : Nat → (Str → Option Value) → Prop) (hh : A.handled = none) (F : Fr h₀ env.locals s.heap m₀) (N : News h₀ env.locals s.heap news) (hr : IsRange s.heap r 0 b 1 t u v)
    (h1 : -1000 ≤ b) (h2 : b ≤ 1000) (h0 : J 0 m₀)
    (turn : ∀ i tv m₁ h₁ tk₁ own, i < b.toNat → J i m₁ → Fr h₀ env.locals h₁ m₁ → News h₀ env.locals h₁ (news ++ own) →
      wpAny (model prog w) A (assign (.Name ty tp) env (.int (i : Int) tv)) (fun _ s₃ => wpAny (model prog w) A (execs body env) (fun f s₄ => f = .next ∧ InvEnd h₀ env.locals (J (i + 1)) (news ++ own) { s with heap := h₁, toks := tk₁ } s₄) (fun _ _ => False) s₃) (fun _ _ => False) { s with heap := h₁, toks := tk₁ })
    (done : ∀ m₁ h tk, J b.toNat m₁ → Fr h₀ env.locals h m₁ → News h₀ env.locals h news → Q .next { s with heap := h, toks := tk }) :
    wpAny (model prog w) A (pyIter (.ref r)) (fun it s₂ => TurnsAt prog w A h₀ env (.Name ty tp) body Q E it s₂) E s :=
  iter_range J hh F N hr (range_toNat h1 h2).1 (range_toNat h1 h2).2 h0 (fun i tv m₁ h₁ tk₁ own hi hJ F₁ N₁ => wpAny_mono (turn i tv m₁ h₁ tk₁ own hi hJ F₁ fun p hp => N₁ p ((List.mem_append.mp hp).elim (fun x => List.mem_append_right _ x) fun x => List.mem_append_left _ x)) (fun _ s₃ h₃ => wpAny_mono h₃ (fun f s₄ p => by
    obtain ⟨rfl, h', tk, m', news', e, F', N', hn, hm⟩ := p
    exact ⟨rfl, h', tk, m', news', e, F', N', fun p hp => hn p ((List.mem_append.mp hp).elim (fun x => List.mem_append_right _ x) fun x => List.mem_append_left _ x), hm⟩) fun _ _ q => q) fun _ _ q => q) done
end
end Mine
end PartRg

section PartPq
namespace Mine
theorem row_codes (b : List Int) : rowStr b = ⟨(codes b).toArray⟩ := rfl
theorem codes_free {b : List Int} (h : Bits b) {c : Nat} (hc : c ≠ 65 ∧ c ≠ 66) : c ∉ codes b := by
  intro hm
  obtain ⟨d, hd, rfl⟩ := List.mem_map.mp hm
  have := h d hd
  omega
theorem repQ_free : ∀ {l : List Nat}, 34 ∉ l → repQ l = l
  | [], _ => rfl
  | c :: t, h => by
    simp at h
    unfold repQ
    rw [if_neg (fun e => h.1 e.symm), repQ_free h.2]
theorem repC_on {c : Nat} {l : List Nat} (h : c ≠ 65) : repC (c :: l) = c :: repC l := repC_rep.on _ _ (by simp; intro e; exact absurd e h)
theorem quote_0 {b : List Int} (h : Bits b) : quoteC (codes b) = 34 :: (codes (repB b) ++ [34]) := by
  unfold quoteC
  rw [repC_codes h, if_neg (codes_free (repB_bits h) (by decide))]
theorem quote_1 {b : List Int} (h : Bits b) : quoteC (34 :: codes b) = 39 :: (34 :: codes (repB b) ++ [39]) := by
  unfold quoteC
  rw [repC_on (by decide), repC_codes h, if_pos (by simp), if_neg (by simp [codes_free (repB_bits h)])]
theorem quote_2 {b : List Int} (h : Bits b) : quoteC (34 :: 39 :: codes b) = 34 :: (quot ++ 39 :: codes (repB b)) ++ [34] := by
  unfold quoteC
  rw [repC_on (by decide), repC_on (by decide), repC_codes h, if_pos (by simp), if_pos (by simp)]
  have e : repQ (34 :: 39 :: codes (repB b)) = quot ++ 39 :: codes (repB b) := by
    rw [repQ, if_pos rfl, repQ, if_neg (by decide), repQ_free (codes_free (repB_bits h) (by decide))]
  rw [e]
  simp
theorem app_codes (x : Str) (b : List Int) : x ++ rowStr b = ⟨(x.cps.toList ++ codes b).toArray⟩ := by
  apply Str.ext'
  apply Array.toList_inj.mp
  simp [Str.cps_append, row_codes]
theorem bitsOf_toI (script : List Int) : bitsOf script = toI (rowX ((script.take 10).map fun a => decide (a.fmod 3 ≠ 0))) := by
  unfold bitsOf rowX toI
  simp only [List.map_cons, List.map_append, List.map_map, List.map_nil]
  show 0 :: _ = 0 :: _
  congr 1
  congr 1
  refine List.map_congr_left fun a _ => ?_
  unfold bit
  by_cases h : a.fmod 3 = 0 <;> simp [h]
theorem last_ok (script : List Int) : repB (rowAt (bitsOf script) ((bitsOf script).sum - 1).toNat) = greedyL (bitsOf script) :=
  last_row (l := (script.take 10).map fun a => decide (a.fmod 3 ≠ 0)) (bitsOf_toI script)
theorem sum_bound : ∀ {l : List Int}, Bits l → 0 ≤ l.sum ∧ l.sum ≤ (l.length : Int)
  | [], _ => by simp
  | d :: t, h => by
    have := sum_bound h.tail
    rcases h.head with rfl | rfl <;> simp <;> omega
theorem rowStr_len (b : List Int) : (rowStr b).length = b.length := by rw [row_codes, len_list]; simp [codes]
theorem pl0 {b : List Int} (h : Bits b) : Plain (codes b) := codes_plain h
theorem pl1 {b : List Int} (h : Bits b) : Plain (34 :: codes b) := fun c hc => by
  rcases List.mem_cons.mp hc with rfl | hc
  · exact .inr (.inr (.inl rfl))
  · exact codes_plain h c hc
theorem pl2 {b : List Int} (h : Bits b) : Plain (34 :: 39 :: codes b) := fun c hc => by
  rcases List.mem_cons.mp hc with rfl | hc
  · exact .inr (.inr (.inl rfl))
  · rcases List.mem_cons.mp hc with rfl | hc
    · exact .inr (.inr (.inr rfl))
    · exact codes_plain h c hc
theorem codes_len (b : List Int) : (codes b).length = b.length := by simp [codes]
theorem str_eq {x y : Str} (h : x.cps.toList = y.cps.toList) : x = y := Str.ext' (Array.toList_inj.mp h)
theorem ah0 (b : List Int) : Str.ofString "" ++ rowStr b = ⟨(codes b).toArray⟩ := str_eq (by simp [Str.cps_append, row_codes, show (Str.ofString "").cps = #[] from by decide])
theorem ah1 (b : List Int) : Str.ofString "\"" ++ rowStr b = ⟨(34 :: codes b).toArray⟩ := str_eq (by simp [Str.cps_append, row_codes, show (Str.ofString "\"").cps = #[34] from by decide])
theorem ah2 (b : List Int) : Str.ofString "\"'" ++ rowStr b = ⟨(34 :: 39 :: codes b).toArray⟩ := str_eq (by simp [Str.cps_append, row_codes, show (Str.ofString "\"'").cps = #[34, 39] from by decide])
theorem op0 (b : List Int) : (⟨(34 :: (codes b ++ [34])).toArray⟩ : Str) = Str.ofString "\"" ++ rowStr b ++ Str.ofString "\"" := str_eq (by simp [Str.cps_append, row_codes, show (Str.ofString "\"").cps = #[34] from by decide])
theorem op1 (b : List Int) : (⟨(39 :: (34 :: codes b ++ [39])).toArray⟩ : Str) = Str.ofString "'\"" ++ rowStr b ++ Str.ofString "'" := str_eq (by simp [Str.cps_append, row_codes, show (Str.ofString "'\"").cps = #[39, 34] from by decide, show (Str.ofString "'").cps = #[39] from by decide])
theorem op2 (b : List Int) : (⟨(34 :: (quot ++ 39 :: codes b) ++ [34]).toArray⟩ : Str) = Str.ofString "\"&quot;'" ++ rowStr b ++ Str.ofString "\"" := str_eq (by simp [Str.cps_append, row_codes, quot, show (Str.ofString "\"").cps = #[34] from by decide, show (Str.ofString "\"&quot;'").cps = #[34, 38, 113, 117, 111, 116, 59, 39] from by decide])
section
variable (w : World) (mean : ExcName → Option Value) (mg mb : Str → Option Value) (s : Shared) (b : List Int) (tx : Tok) (d : Addr) {o : Obj} (hO : TabO w o) (hg : s.heap.get? d = some o) (hdS : (d == sysModules) = false) (hb : Bits b) (hl : b.length ≤ 17)
include hO hg hdS hb hl
theorem c_qL : Gives w mean mg mb 39 3 30 [.str (rowStr b) tx, .ref d] s (fun r h => ∃ t, r = .str (Str.ofString "\"" ++ rowStr (repB b) ++ Str.ofString "\"") t) := by
  have := c_quoteO w mean mg mb s (codes b) tx d hO hg hdS (pl0 hb) (by rw [codes_len]; omega)
  rw [quote_0 hb, op0] at this
  exact this
theorem c_q0 : Gives w mean mg mb 39 3 30 [.str (Str.ofString "" ++ rowStr b) tx, .ref d] s (fun r h => ∃ t, r = .str (Str.ofString "\"" ++ rowStr (repB b) ++ Str.ofString "\"") t) := by
  rw [ah0]
  exact c_qL w mean mg mb s b tx d hO hg hdS hb hl
theorem c_q1 : Gives w mean mg mb 39 3 30 [.str (Str.ofString "\"" ++ rowStr b) tx, .ref d] s (fun r h => ∃ t, r = .str (Str.ofString "'\"" ++ rowStr (repB b) ++ Str.ofString "'") t) := by
  have := c_quoteO w mean mg mb s (34 :: codes b) tx d hO hg hdS (pl1 hb) (by simp [codes_len]; omega)
  rw [quote_1 hb, op1] at this
  rw [ah1]
  exact this
theorem c_q2 : Gives w mean mg mb 39 3 30 [.str (Str.ofString "\"'" ++ rowStr b) tx, .ref d] s (fun r h => ∃ t, r = .str (Str.ofString "\"&quot;'" ++ rowStr (repB b) ++ Str.ofString "\"") t) := by
  have := c_quoteO w mean mg mb s (34 :: 39 :: codes b) tx d hO hg hdS (pl2 hb) (by simp [codes_len]; omega)
  rw [quote_2 hb, op2] at this
  rw [ah2]
  exact this
end
theorem Bits.b16 {l : List Int} (h : Bits l) : ∀ d ∈ l, 0 ≤ d ∧ d < 16 := fun d hd => ⟨(h d hd).1, Int.lt_trans (h d hd).2 (by decide)⟩
theorem fin_facts {bs script : List Int} (h : BitsAre bs script) : Bits (rowAt bs (bs.sum - 1).toNat) ∧ (rowAt bs (bs.sum - 1).toNat).length ≤ 17 ∧ repB (rowAt bs (bs.sum - 1).toNat) = greedyL bs ∧ Bits (greedyL bs) ∧ (greedyL bs).length ≤ 17 := by
  have hb := rowAt_bits h.b2 (bs.sum - 1).toNat
  have hl : (rowAt bs (bs.sum - 1).toNat).length ≤ 17 := by rw [rowAt_len]; exact h.hi
  have e : repB (rowAt bs (bs.sum - 1).toNat) = greedyL bs := by rw [h.eq]; exact last_ok script
  refine ⟨hb, hl, e, ?_, ?_⟩
  · rw [← e]; exact repB_bits hb
  · rw [← e, repB_len]; exact hl
theorem it0 : Txt.item (Str.ofString "\"") 0 = Str.ofString "\"" := by decide
theorem it1 : Txt.item (Str.ofString "'\"") 0 = Str.ofString "'" := by decide
theorem it2 : Txt.item (Str.ofString "\"&quot;'") 0 = Str.ofString "\"" := by decide
theorem mod_is {prog : Program} {w : World} {A : Around} {E : Value → Shared → Prop} {s : Shared} {a b r : Int} {t u : Tok} {Q : Value → Shared → Prop} (h3 : a.fmod b = r) (hb : b ≠ 0)
    (h : Q (.int r s.toks) { s with toks := s.toks + 1 }) : wpAny (model prog w) A (binaryOp .Mod (.int a t) (.int b u)) Q E s := mod_int' hb (by rw [h3]; exact h)
theorem c_bitsR (w : World) (mean mg mb) (s : Shared) (b : List Int) (n : Int) (z : Nat) (tn tz : Tok) (hn : n = num 2 0 b) (hz : z = b.length) (hb : Bits b) (hl : b.length ≤ 17) :
    Gives w mean mg mb 63 5 32 [.int n tn, .int (z : Int) tz] s (fun r h => NewList s.heap h r b) := by
  have := c_bits w mean mg mb s n z tn tz (by rw [hn]; exact (num_bound hb).1) (by rw [hn]; exact num_small hb hl) (by omega)
  rw [hn, hz, bits_num hb] at this
  rw [hn, hz]
  exact this
end Mine
end PartPq

section PartL2
namespace Mine
/-- what holds of the names at the head of a turn -/
def JL (bs : List Int) (D Db : Addr) (i : Nat) (m : Str → Option Value) : Prop :=
  (∃ t : Tok, m (Str.ofString "number") = some (.int (num 2 0 (rowAt bs i)) t)) ∧ (∃ t : Tok, m (Str.ofString "text") = some (.str (rowStr (rowAt bs i)) t)) ∧ m (Str.ofString "table") = some (.ref D) ∧ m (Str.ofString "bits") = some (.ref Db)
theorem JL.form {bs : List Int} {D Db : Addr} {i : Nat} {m : Str → Option Value} (h : JL bs D Db i m) : ∃ (tn tt : Tok) (r : Str → Option Value),
    m = fun z => if z = Str.ofString "number" then some (.int (num 2 0 (rowAt bs i)) tn) else if z = Str.ofString "text" then some (.str (rowStr (rowAt bs i)) tt) else if z = Str.ofString "table" then some (.ref D) else if z = Str.ofString "bits" then some (.ref Db) else r z := by
  obtain ⟨⟨tn, h1⟩, ⟨tt, h2⟩, h3, h4⟩ := h
  refine ⟨tn, tt, m, funext fun z => ?_⟩
  by_cases e1 : z = Str.ofString "number"
  · rw [if_pos e1, e1, h1]
  rw [if_neg e1]
  by_cases e2 : z = Str.ofString "text"
  · rw [if_pos e2, e2, h2]
  rw [if_neg e2]
  by_cases e3 : z = Str.ofString "table"
  · rw [if_pos e3, e3, h3]
  rw [if_neg e3]
  by_cases e4 : z = Str.ofString "bits"
  · rw [if_pos e4, e4, h4]
  rw [if_neg e4]
theorem JL.next {bs : List Int} {D Db : Addr} {i : Nat} {m : Str → Option Value} {t t' : Tok} (hb : Bits (rowAt bs i)) (h1 : m (Str.ofString "number") = some (.int (num 2 0 (rowAt bs i) + num 2 0 (markedL (rowAt bs i))) t))
    (h2 : m (Str.ofString "text") = some (.str (rowStr (repB (rowAt bs i))) t')) (h3 : m (Str.ofString "table") = some (.ref D)) (h4 : m (Str.ofString "bits") = some (.ref Db)) : JL bs D Db (i + 1) m :=
  ⟨⟨t, by rw [h1, ← rep_marked hb]; rfl⟩, ⟨t', h2⟩, h3, h4⟩
local macro_rules | `(tactic| walk_at "exec For Name Call cons nil") => `(tactic| (refine Stop.out ?_))
local macro_rules | `(tactic| walk_at "execs cons") => `(tactic| (k_here; refine' execs_cons_toks ?ht ?_; (case ht => assumption); (try dsimp only)))
local macro_rules | `(tactic| walk_at "eval Dict") => `(tactic| (k_here; refine' disp_tab ?F ?N ?ht ?hl ?_; (case F => assumption); (case N => assumption); (case ht => assumption); (case hl => exact modules_low (Top.nolimit (by assumption))); intro h9 o9 tk9 F9 N9 O9 S9; (try dsimp only); k_sweep))
local macro_rules | `(tactic| walk_at "binaryOp Add ref ref") => `(tactic| (k_here; (have hi9 := bits_carried (by assumption)); k_made; walk_at "binaryOp Add ref ref"))
local macro_rules | `(tactic| walk_at "call ref") => `(tactic| (refine Stop.out ?_))
local macro_rules | `(tactic| walk_at "call ref") => `(tactic| (k_here; k_dflt (refine' use (c_number _ _ _ _ _ _ _ _ _ _ _ _ ?l1 ?l2 ?l3 ?l4) ?k1 ?k2 ?k3 ?k4 ?k5 ?k6 ?_; (case k1 => k_asm); (case k2 => k_asm); (case k3 => k_asm); (case k4 => k_asm); (case k5 => decide); (case k6 => decide); (case l1 => kmk_list); (case l2 => assumption); (case l3 => decide); (case l4 => decide); k_whole); intro r9 h9 tk9 F9 N9 X9 O9; obtain ⟨t9, O9⟩ := O9; subst O9; clear X9; (try dsimp only); k_sweep))
local macro_rules | `(tactic| walk_at "call ref") => `(tactic| (k_here; k_dflt (refine' use (c_row _ _ _ _ _ _ _ _ ?l1 ?l2 ?l3 ?l4) ?k1 ?k2 ?k3 ?k4 ?k5 ?k6 ?_; (case k1 => k_asm); (case k2 => k_asm); (case k3 => k_asm); (case k4 => k_asm); (case k5 => decide); (case k6 => decide); (case l1 => kmk_list); (case l2 => assumption); (case l3 => first | exact BitsAre.hi (by assumption) | assumption | (simp only [repB_len]; assumption)); (case l4 => first | exact BitsAre.b16 (by assumption) | exact Bits.b16 (by assumption) | exact Bits.b16 (repB_bits (by assumption))); k_whole); intro r9 h9 tk9 F9 N9 X9 O9; obtain ⟨t9, O9⟩ := O9; subst O9; clear X9; (try dsimp only); k_sweep))
local macro_rules | `(tactic| walk_at "call ref") => `(tactic| (k_here; (fail_if_success (with_reducible rename BitsAre _ _ => x9)); (with_reducible rename IntsAre _ (_ ++ _) => hB9); (obtain ⟨bs, hI9, hbs⟩ := bits_open hB9); walk_at "call ref"))
local macro_rules | `(tactic| walk_at "call ref") => `(tactic| (k_here; k_dflt (refine' useL (c_marked _ _ _ _ _ _ _ _ ?l1 ?l2 ?l3 ?l4) ?k1 ?k2 ?k3 ?k4 ?k5 ?k6 ?_; (case k1 => k_asm); (case k2 => k_asm); (case k3 => k_asm); (case k4 => k_asm); (case k5 => decide); (case k6 => decide); (case l1 => kmk_list); (case l2 => assumption); (case l3 => assumption); (case l4 => assumption); k_whole); intro r9 us9 n9 h9 tk9 F9 N9 I9; (try dsimp only); k_sweep))
local macro_rules | `(tactic| walk_at "call ref") => `(tactic| (k_here; k_dflt (refine' useL (c_greedy _ _ _ _ _ _ _ _ ?l1 ?l2 ?l3 ?l4 ?l5) ?k1 ?k2 ?k3 ?k4 ?k5 ?k6 ?_; (case k1 => k_asm); (case k2 => k_asm); (case k3 => k_asm); (case k4 => k_asm); (case k5 => decide); (case k6 => decide); (case l1 => kmk_list); (case l2 => assumption); (case l3 => exact BitsAre.lo (by assumption)); (case l4 => exact BitsAre.hi (by assumption)); (case l5 => exact BitsAre.b2 (by assumption)); k_whole); intro r9 us9 n9 h9 tk9 F9 N9 I9; (try dsimp only); k_sweep))
local macro_rules | `(tactic| walk_at "binaryOp Mod int int") => `(tactic| (k_here; refine' mod_is ?h3 ?hb ?_; (case h3 => assumption); (case hb => decide)))
theorem ls0 : (Str.ofString "").length = 0 := by decide
theorem ls1 : (Str.ofString "\"").length = 1 := by decide
theorem ls2 : (Str.ofString "'\"").length = 2 := by decide
theorem ls3 : (Str.ofString "\"'").length = 2 := by decide
theorem ls4 : (Str.ofString "\"&quot;'").length = 8 := by decide
theorem ls5 : (Str.ofString "'").length = 1 := by decide
local macro_rules | `(tactic| walk_at "binaryOp Add str str") => `(tactic| (k_here; refine' SBL.add (hsz := ?hsz9) ?_; (case hsz9 => ((simp only [Str.length_append, rowStr_len, repB_len, rowAt_len, sizeLine_eq, ls0, ls1, ls2, ls3, ls4, ls5]); omega)); intro _ _ _))
local macro_rules | `(tactic| walk_at "call ref") => `(tactic| (k_here; k_dflt (refine' use (c_q0 _ _ _ _ _ _ _ _ ?l0 ?l1 ?l2 ?l3 ?l4) ?k1 ?k2 ?k3 ?k4 ?k5 ?k6 ?_; (case k1 => k_asm); (case k2 => k_asm); (case k3 => k_asm); (case k4 => k_asm); (case k5 => decide); (case k6 => decide); (case l0 => assumption); (case l1 => ((rename News _ _ _ _ => nQ9); exact (nQ9 (_, _) (by repeat (first | exact List.Mem.head _ | exact List.mem_append_right _ (List.Mem.head _) | exact List.mem_append_right _ (List.Mem.tail _ (List.Mem.head _)) | refine List.Mem.tail _ ?_))).1)); (case l2 => assumption); (case l3 => assumption); (case l4 => assumption); k_whole); intro r9 h9 tk9 F9 N9 X9 O9; obtain ⟨t9, O9⟩ := O9; subst O9; clear X9; (try dsimp only); k_sweep))
local macro_rules | `(tactic| walk_at "call ref") => `(tactic| (k_here; k_dflt (refine' use (c_q1 _ _ _ _ _ _ _ _ ?l0 ?l1 ?l2 ?l3 ?l4) ?k1 ?k2 ?k3 ?k4 ?k5 ?k6 ?_; (case k1 => k_asm); (case k2 => k_asm); (case k3 => k_asm); (case k4 => k_asm); (case k5 => decide); (case k6 => decide); (case l0 => assumption); (case l1 => ((rename News _ _ _ _ => nQ9); exact (nQ9 (_, _) (by repeat (first | exact List.Mem.head _ | exact List.mem_append_right _ (List.Mem.head _) | exact List.mem_append_right _ (List.Mem.tail _ (List.Mem.head _)) | refine List.Mem.tail _ ?_))).1)); (case l2 => assumption); (case l3 => assumption); (case l4 => assumption); k_whole); intro r9 h9 tk9 F9 N9 X9 O9; obtain ⟨t9, O9⟩ := O9; subst O9; clear X9; (try dsimp only); k_sweep))
local macro_rules | `(tactic| walk_at "call ref") => `(tactic| (k_here; k_dflt (refine' use (c_q2 _ _ _ _ _ _ _ _ ?l0 ?l1 ?l2 ?l3 ?l4) ?k1 ?k2 ?k3 ?k4 ?k5 ?k6 ?_; (case k1 => k_asm); (case k2 => k_asm); (case k3 => k_asm); (case k4 => k_asm); (case k5 => decide); (case k6 => decide); (case l0 => assumption); (case l1 => ((rename News _ _ _ _ => nQ9); exact (nQ9 (_, _) (by repeat (first | exact List.Mem.head _ | exact List.mem_append_right _ (List.Mem.head _) | exact List.mem_append_right _ (List.Mem.tail _ (List.Mem.head _)) | refine List.Mem.tail _ ?_))).1)); (case l2 => assumption); (case l3 => assumption); (case l4 => assumption); k_whole); intro r9 h9 tk9 F9 N9 X9 O9; obtain ⟨t9, O9⟩ := O9; subst O9; clear X9; (try dsimp only); k_sweep))
local macro_rules | `(tactic| walk_at "call ref") => `(tactic| (k_here; k_dflt (refine' use (c_qL _ _ _ _ _ _ _ _ ?l0 ?l1 ?l2 ?l3 ?l4) ?k1 ?k2 ?k3 ?k4 ?k5 ?k6 ?_; (case k1 => k_asm); (case k2 => k_asm); (case k3 => k_asm); (case k4 => k_asm); (case k5 => decide); (case k6 => decide); (case l0 => assumption); (case l1 => ((rename News _ _ _ _ => nQ9); exact (nQ9 (_, _) (by repeat (first | exact List.Mem.head _ | exact List.mem_append_right _ (List.Mem.head _) | exact List.mem_append_right _ (List.Mem.tail _ (List.Mem.head _)) | refine List.Mem.tail _ ?_))).1)); (case l2 => assumption); (case l3 => assumption); (case l4 => assumption); k_whole); intro r9 h9 tk9 F9 N9 X9 O9; obtain ⟨t9, O9⟩ := O9; subst O9; clear X9; (try dsimp only); k_sweep))
local macro_rules | `(tactic| walk_at "call ref") => `(tactic| (k_here; k_dflt (refine' useL (c_bitsR _ _ _ _ _ _ _ _ _ _ ?l1 ?l2 ?l3 ?l4) ?k1 ?k2 ?k3 ?k4 ?k5 ?k6 ?_; (case k1 => k_asm); (case k2 => k_asm); (case k3 => k_asm); (case k4 => k_asm); (case k5 => decide); (case k6 => decide); (case l1 => first | exact rfl | exact (rep_marked (by assumption)).symm); (case l3 => first | assumption | exact repB_bits (by assumption)); (case l4 => first | assumption | (simp only [repB_len]; assumption)); (case l2 => (simp only [rowAt_len, repB_len])); k_whole); intro r9 us9 n9 h9 tk9 F9 N9 I9; (try dsimp only); k_sweep))
set_option maxRecDepth 100000 in
set_option maxHeartbeats 8000000 in
theorem tt : PySem.Challenge.rw_ik0019_01.Holds := hd (by
  w_strict (
    k_go0
    (all_goals try k_fold)
    refine' gen_toks' (by simp) ?_
    intro tk9 ht9
    k_steps
    unfold Stop
    rename Fr _ _ _ _ => F2
    refine' For_turns F2 ?_
    k_steps
    rename BitsAre _ _ => hbs
    rename IsRange _ _ _ _ _ _ _ _ => hR
    refine' iter_rangeN (J := JL _ _ _) ?hh ?F ?N ?hR ?s1 ?s2 ?h0 ?_ ?_
    (case hh => exact rfl); (case F => k_asm); (case N => k_asm); (case hR => k_asm)
    (case h0 => (refine' ⟨⟨_, ?jq1⟩, ⟨_, ?jq2⟩, ?jq3, ?jq4⟩; (case jq1 => exact rfl); (case jq2 => exact rfl); (case jq3 => exact rfl); (case jq4 => exact rfl)))
    (case s1 => (have h := sum_bound hbs.b2; have := hbs.hi; omega))
    (case s2 => (have h := sum_bound hbs.b2; have := hbs.hi; omega))
    · intro i tv m₁ h₁ tk₁ own hi hJ F1 N1
      obtain ⟨tn, tt, r, rfl⟩ := hJ.form
      have hbi := rowAt_bits hbs.b2 i
      have hli := rowAt_len _ i ▸ hbs.hi
      clear hJ
      simp only [List.cons_append, List.nil_append] at N1
      have hbl := hbs.hi
      k_sweep
      have h3 : (i : Int).fmod 3 = 0 ∨ (i : Int).fmod 3 = 1 ∨ (i : Int).fmod 3 = 2 := by rw [Int.fmod_eq_emod_of_nonneg _ (by decide)]; omega
      rcases h3 with h3 | h3 | h3
      · k_steps
        · exfalso
          rename (_ != _) = true => hne
          rw [it0] at hne
          simp at hne
        · exfalso
          rename (_ != _) = true => hne
          rw [it0] at hne
          simp at hne
        · refine' ⟨_, _, _, _, rfl, by assumption, by assumption, ?jq1, ?jq2⟩
          case jq1 =>
            intro p hp
            repeat (first | exact hp | refine List.Mem.tail _ ?_)
          case jq2 => exact JL.next hbi rfl rfl rfl rfl
      · k_steps
        · exfalso
          rename (_ != _) = true => hne
          rw [it1] at hne
          simp at hne
        · exfalso
          rename (_ != _) = true => hne
          rw [it1] at hne
          simp at hne
        · refine' ⟨_, _, _, _, rfl, by assumption, by assumption, ?jq1, ?jq2⟩
          case jq1 =>
            intro p hp
            repeat (first | exact hp | refine List.Mem.tail _ ?_)
          case jq2 => exact JL.next hbi rfl rfl rfl rfl
      · k_steps
        · exfalso
          rename (_ != _) = true => hne
          rw [it2] at hne
          simp at hne
        · exfalso
          rename (_ != _) = true => hne
          rw [it2] at hne
          simp at hne
        · refine' ⟨_, _, _, _, rfl, by assumption, by assumption, ?jq1, ?jq2⟩
          case jq1 =>
            intro p hp
            repeat (first | exact hp | refine List.Mem.tail _ ?_)
          case jq2 => exact JL.next hbi rfl rfl rfl rfl
    · intro m₁ h tk hJ F1 N1
      obtain ⟨tn, tt, r, rfl⟩ := hJ.form
      obtain ⟨hbi, hli, hlast, hgb, hgl⟩ := fin_facts hbs
      have hbl := hbs.hi
      clear hJ
      dsimp only
      intro _
      k_sweep
      k_steps
      ))
end Mine
end PartL2

theorem PySem.Challenge.cw_ik0019_01_holds : PySem.Challenge.rw_ik0019_01.Holds :=
  Mine.tt
