import PyProof.Rows.All
import Wide.All
import OpenK.AllK
import Wide.FinOn
import Lean
import PySem.Challenge.RW_pg0106_01
set_option Elab.async false
set_option maxRecDepth 100000
section
open PySem PySem.W PyProof.Rows
set_option maxHeartbeats 8000000
namespace Mine
open_top TP for PySem.Challenge.rw_pg0106_01
end Mine
end

section
open PySem PySem.W PyProof.Rows PySem.Calls
namespace Mine
noncomputable abbrev prog : Program := PySem.Challenge.rw_pg0106_01.row.prog
noncomputable abbrev KK (w : World) : Frag := TP.heap_39 w.params

/-- a plain surrounding with room -/
abbrev AB (d u : Nat) : Around := { handled := none, depth := d, frames := none, guards := none, units := u }
structure Fit (A : Around) (d u : Nat) : Prop where
  h : A.handled = none
  d : A.depth ≤ d
  u : A.units ≤ u
theorem Fit.inn {A : Around} {d u : Nat} (f : Fit A d u) {Γ : Ctx} (h : Γ.In A) : Γ.In (AB d u) :=
  ⟨h.1.trans f.h, Nat.le_trans h.2.1 f.d, (fun _ e => by cases e), (fun _ e => by cases e), Nat.le_trans h.2.2.2.2 f.u⟩
theorem Fit.bel {A : Around} {d u : Nat} (f : Fit A d u) {Γ : Ctx} (h : Γ.Below A) : Γ.Below (AB d u) :=
  ⟨h.1.trans f.h, Nat.le_trans h.2.1 f.d, (fun _ e => by cases e), (fun _ e => by cases e), Nat.le_trans h.2.2.2.2 f.u⟩
theorem Fit.wp {M : Model} {A : Around} {d u : Nat} (f : Fit A d u) {α : Type} {t : Sem α} {Q : α → Shared → Prop} {E : Value → Shared → Prop} {s : Shared}
    (h : wpAny M (AB d u) t Q E s) : wpAny M A t Q E s := fun Γ p hΓ => h Γ p (f.inn hΓ)
theorem Fit.code {M : Model} {A : Around} {d u : Nat} (f : Fit A d u) {c : Code} {R : Result → Shared → Prop} {s : Shared}
    (h : codeAny M (AB d u) c R s) : codeAny M A c R s := fun Γ p hc hΓ => h Γ p hc (f.bel hΓ)
theorem Fit.ab {d u d' u' : Nat} (h1 : d ≤ d') (h2 : u ≤ u') : Fit (AB d u) d' u' := ⟨rfl, h1, h2⟩
theorem Fit.in1 {A : Around} {d u : Nat} (f : Fit A d u) : Fit A.in1 d (u + 1) := ⟨f.h, f.d, Nat.succ_le_succ f.u⟩
theorem Fit.deeper {A : Around} {d u : Nat} (f : Fit A d u) (e : Env) : Fit (A.deeper e) (d + 1) (u + 3) := ⟨f.h, Nat.succ_le_succ f.d, Nat.add_le_add_right f.u 3⟩
theorem Fit.mono {A : Around} {d u d' u' : Nat} (f : Fit A d u) (h1 : d ≤ d') (h2 : u ≤ u') : Fit A d' u' := ⟨f.h, Nat.le_trans f.d h1, Nat.le_trans f.u h2⟩

/-- an object that is no code table -/
def plainO (o : Obj) : Bool := match o.cls, o.data with
  | .none, .fields _ => false
  | _, _ => true
/-- all that stood stands, but for the two code tables that this text grows -/
def Keep (h h' : Heap) : Prop := ∀ b o, h.get? b = some o → (plainO o || (b != 73 && b != 80)) = true → h'.get? b = some o
def Ext (h h' : Heap) : Prop := ∀ b o, h.get? b = some o → h'.get? b = some o
theorem Ext.keep {h h' : Heap} (x : Ext h h') : Keep h h' := fun b o e _ => x b o e
theorem Ext.refl (h : Heap) : Ext h h := fun _ _ e => e
theorem Ext.trans {h h' h'' : Heap} (x : Ext h h') (y : Ext h' h'') : Ext h h'' := fun b o e => y b o (x b o e)
theorem Keep.refl (h : Heap) : Keep h h := fun _ _ e _ => e
theorem Keep.trans {h h' h'' : Heap} (x : Keep h h') (y : Keep h' h'') : Keep h h'' := fun b o e p => y b o (x b o e p) p
theorem Keep.get {h h' : Heap} (x : Keep h h') {a : Addr} {o : Obj} (e : h.get? a = some o) (p : plainO o = true) : h'.get? a = some o := x a o e (by rw [p]; rfl)
theorem Keep.ns {h h' : Heap} (x : Keep h h') {a : Addr} {m : Str → Option Value} (n : h.Ns a m) : h'.Ns a m :=
  let ⟨o, es, ep, e, d, r⟩ := n; ⟨o, es, ep, x.get e (by unfold plainO; rw [d]; cases o.cls <;> rfl), d, r⟩
theorem Keep.list {h h' : Heap} (x : Keep h h') {a : Addr} {vs : Array Value} (n : h.IsList a vs) : h'.IsList a vs :=
  let ⟨o, e, c, r⟩ := n; ⟨o, x.get e (by unfold plainO; rw [c]), c, r⟩
theorem Keep.tuple {h h' : Heap} (x : Keep h h') {a : Addr} {vs : Array Value} (n : h.IsTuple a vs) : h'.IsTuple a vs :=
  let ⟨o, e, c, r⟩ := n; ⟨o, x.get e (by unfold plainO; rw [c]), c, r⟩

theorem enter {w : World} {A : Around} {s : Shared} {K : Frag}
    {R : Result → Shared → Prop} {name qual : Str} {params : Arguments} {body : List Stmt} {scope : Scope} {dV kV doc pm cdv ct oc : Value} {an od : Option Addr} {osl : Array (Option Value)} {f : Addr} {args : Args} (binds : List (Str × Value))
    (X : K.In s.heap) (hlim : s.heap.NoLimit)
    (ho : K.lookup f = some ⟨oc, od, .func (fnOf name qual params body scope dV kV doc pm an cdv ct), osl⟩) (hcd : codeIn K cdv qual = true) (hroom : A.depth < recursionLimit)
    (hbind : BindsTo s (fnOf name qual params body scope dV kV doc pm an cdv ct) args binds) (hloc : ∀ y ∈ binds, scope.names.lookup y.1 = some .local)
    (h : ∀ L h₁ tk, L = s.heap.objs.size → Fr s.heap L h₁ (fun y => binds.reverse.lookup y) →
      wpAny (model prog w) (A.deeper (envOf qual scope L f cdv)) (execs body (envOf qual scope L f cdv))
        (fun fl s' => R (.ok (.ret (match fl with | .ret v => v | _ => .none))) s') (fun _ _ => False)
        { s with heap := h₁, toks := tk })
    (hco : scope.isCoroutine = false := by rfl) (hgen : scope.isGenerator = false := by rfl) (hk : scope.kind = .function := by rfl)
    (hcell : ∀ x ∈ scope.names, x.2 ≠ .cell := by decide) : codeAny (model prog w) A (.call (.ref f) args) R s := by
  refine codeAny_call_def (fd := fnOf name qual params body scope dV kV doc pm an cdv ct) (body := body) (binds := binds) hroom (X _ _ ho) rfl hlim (codeRec_of X hcd) rfl hbind hcell hloc (fun h₁ hns hk₁ => ?_) hco hgen hk
  exact wpAny_mono (h _ h₁ _ rfl ⟨hns, hk₁, Nat.le_refl _⟩) (fun _ _ x => x) (fun _ _ x => x.elim)

/-- the written part holds no code table -/
theorem KK_plain (w : World) : ∀ a o, (KK w).lookup a = some o → plainO o = true := by
  intro a o e
  have h2 : noTabs (KK w) = true := by kernel_rfl
  have h3 := List.all_eq_true.mp h2 (a, o) (mem_of_lookupK e)
  unfold plainO
  dsimp only at h3
  split at h3
  · cases h3
  · rename_i hh
    split
    · rename_i h4 h5; exact (hh _ h4 h5).elim
    · rfl
theorem Keep.inK {w : World} {h h' : Heap} (x : Keep h h') (X : (KK w).In h) : (KK w).In h' := fun a o e => x.get (X a o e) (KK_plain w a o e)
theorem noLimit {w : World} {h : Heap} (X : (KK w).In h) : h.NoLimit := by
  have e : (KK w).lookup cStatics = some { cls := .none, data := .dict #[] } := by kernel_rfl
  exact ⟨fun _ => none, ⟨_, _, _, X _ _ e, rfl, fun _ he => by simp at he, fun _ => rfl⟩, rfl⟩
def selQual : Str := Str.ofString "_prepare_tag.<locals>.select"
def Tab80 (h : Heap) : Prop := ∃ qs, h.get? 80 = some (tabObj qs) ∧ (qs = #[] ∨ ∃ c, qs = #[.int 68 0, .int 12 0, .ref c])
def Tab73 (h : Heap) : Prop := ∃ ps, h.get? 73 = some (tabObj ps) ∧ TriplesOk ps.toList ∧ ∀ pos v, codeAmong pos ps.toList = some v → ∃ c, v = .ref c ∧ 80 < c ∧ h.CodeRec (.ref c) selQual
structure TabOk (h : Heap) : Prop where
  a : Tab73 h
  b : Tab80 h
/-- the module that holds the built-in names -/
def Bm (h : Heap) : Prop := ∃ sl, h.get? 4 = some ⟨.type "module", some 0, .plain, sl⟩
theorem Keep.bm {h h' : Heap} (x : Keep h h') (b : Bm h) : Bm h' := let ⟨sl, e⟩ := b; ⟨sl, x.get e rfl⟩
theorem codeRec_move {h h' : Heap} {c : Addr} {q : Str} (r : h.CodeRec (.ref c) q) (k : ∀ o, h.get? c = some o → h'.get? c = some o) : h'.CodeRec (.ref c) q := by
  obtain ⟨c₂, o₂, vs₂, t₂, e₂, g₂, r₂⟩ := r
  cases e₂
  exact ⟨_, o₂, vs₂, t₂, rfl, k _ g₂, r₂⟩
theorem Tab73.move {h h' : Heap} (t : Tab73 h) (k : ∀ b o, h.get? b = some o → b ≠ 80 → h'.get? b = some o) : Tab73 h' :=
  let ⟨ps, e, o, r⟩ := t; ⟨ps, k _ _ e (by decide), o, fun pos v q => let ⟨c, a, b, z⟩ := r pos v q; ⟨c, a, b, codeRec_move z fun o e => k _ o e (Nat.ne_of_gt b)⟩⟩
theorem TabOk.ext {h h' : Heap} (t : TabOk h) (x : Ext h h') : TabOk h' :=
  ⟨t.a.move fun b o e _ => x b o e, let ⟨qs, e, r⟩ := t.b; ⟨qs, x _ _ e, r⟩⟩

/-- a place: what it lies in, its path, its tag -/
structure Pl where
  over : Int
  path : Str
  tag : Option Str
def TagV : Option Str → Value → Prop
  | none, v => v = .none
  | some t, v => ∃ k, v = .str t k
abbrev sNumber : Str := Str.ofString "number"
abbrev sOver : Str := Str.ofString "over"
abbrev sPath : Str := Str.ofString "path"
abbrev sTag : Str := Str.ofString "tag"
def PlaceAt (av : Addr → Prop) (h : Heap) (v : Value) (i : Int) (p : Pl) : Prop := ∃ a d fd m t1 t2 t3 tv, (av a ∧ av d) ∧ v = .ref a ∧ h.get? a = some ⟨.type "function", some d, .func fd, #[]⟩ ∧ h.Ns d m ∧
  m sNumber = some (.int i t1) ∧ m sOver = some (.int p.over t2) ∧ m sPath = some (.str p.path t3) ∧ m sTag = some tv ∧ TagV p.tag tv
theorem Keep.place {av : Addr → Prop} {h h' : Heap} (x : Keep h h') {v : Value} {i : Int} {p : Pl} (q : PlaceAt av h v i p) : PlaceAt av h' v i p :=
  let ⟨a, d, fd, m, t1, t2, t3, tv, e0, e1, e2, e3, r⟩ := q; ⟨a, d, fd, m, t1, t2, t3, tv, e0, e1, x.get e2 rfl, x.ns e3, r⟩
theorem PlaceAt.mono {av av' : Addr → Prop} (k : ∀ b, av b → av' b) {h : Heap} {v : Value} {i : Int} {p : Pl} (q : PlaceAt av h v i p) : PlaceAt av' h v i p :=
  let ⟨a, d, fd, m, t1, t2, t3, tv, e0, r⟩ := q; ⟨a, d, fd, m, t1, t2, t3, tv, ⟨k _ e0.1, k _ e0.2⟩, r⟩
theorem PlaceAt.move {av : Addr → Prop} {h h' : Heap} (k : ∀ b o, av b → h.get? b = some o → h'.get? b = some o) {v : Value} {i : Int} {p : Pl} (q : PlaceAt av h v i p) : PlaceAt av h' v i p :=
  let ⟨a, d, fd, m, t1, t2, t3, tv, e0, e1, e2, ⟨o, es, ep, e, rr⟩, r⟩ := q; ⟨a, d, fd, m, t1, t2, t3, tv, e0, e1, k _ _ e0.1 e2, ⟨o, es, ep, k _ _ e0.2 e, rr⟩, r⟩
end Mine
end

section
open PySem PySem.W PyProof.Rows PySem.Calls PySem.Spec
namespace Mine
theorem tupleReads {h : Heap} {b : Addr} {x p : Str} {t1 t2 : Tok} (hb : h.IsTuple b #[.str x t1, .str p t2]) : Reads h (.ref b) (.tuple [.str x, .str p]) ([] ++ ([] ++ [])) := by
  obtain ⟨o, e, c, n, d⟩ := hb
  exact .tuple e c d (.cons (.str _ _) (.cons (.str _ _) .nil))

theorem shape2 {x p : Str} (hx : PyData.strOk x = true) (hp : PyData.strOk p = true) : SeqAt.shaped (.tuple [.str x, .str p]) = true := by
  simp [SeqAt.shaped, PyData.canLay0, PyData.canLayAll0, PyData.depth, PyData.depthAll, hx, hp]
def subV (x p y q : Str) : Bool :=
  if (x == y && p == q) = true then true else if (x != y) = true then false else
  if (Txt.slice p (some (-1)) none != Str.ofString "/") = true then Txt.startswith q (p ++ Str.ofString "/") else Txt.startswith q p
set_option maxRecDepth 100000 in
set_option maxHeartbeats 8000000 in
theorem suburi0 {w : World} (s : Shared) (X : (KK w).In s.heap) (b t : Addr) (x y p q : Str) (t1 t2 t3 t4 : Tok) (self : Value)
   (R : Result → Shared → Prop) (hx : PyData.strOk x = true) (hy : PyData.strOk y = true) (hp : PyData.strOk p = true) (hq : PyData.strOk q = true) (hl : p.length ≤ 1000) (hlq : q.length ≤ 1000) 
   (hb : s.heap.IsTuple b #[.str x t1, .str p t2]) (ht : s.heap.IsTuple t #[.str y t3, .str q t4])
   (hR : ∀ h' tk', Ext s.heap h' → R (.ok (.ret (.bool (subV x p y q)))) { s with heap := h', toks := tk' })
    : codeAny (model prog w) (AB 600 2000) (.call (.ref 64) ⟨[self, .ref b, .ref t], []⟩) R s := by
   have hlim := noLimit X
   revert X
   dsimp only [prog, KK]
   k_fill
   intro X
   refine' enter (K := TP.heap_39 w.params) [(Str.ofString "self", self), (Str.ofString "base", .ref b), (Str.ofString "test", .ref t)] X hlim ?ho ?hcd (by decide) ?hbind ?hloc ?h ?c2 ?c3 ?c4 ?c5
   case ho => k_is
   case hcd => k_is
   case hbind => exact BindsTo.of_eq rfl
   case hloc => exact locs rfl
   case c2 => exact rfl
   case c3 => exact rfl
   case c4 => exact rfl
   case c5 => decide
   intro L h' tk hL F
   have hb' : h'.IsTuple b #[.str x t1, .str p t2] := Keep.tuple (Ext.keep F.keep) hb
   have ht' : h'.IsTuple t #[.str y t3, .str q t4] := Keep.tuple (Ext.keep F.keep) ht
   try dsimp only
   repeat' walk1
   refine eq_dataH (tupleReads hb') (tupleReads ht') (shape2 hx hp) (shape2 hy hq) (Nat.le_of_ble_eq_true rfl) ?_
   simp only [PyData.eqv, PyData.eqvAll, Bool.and_true]
   repeat' walk1
   · rename_i c
     have e : subV x p y q = true := by unfold subV; rw [if_pos c]
     exact e ▸ hR _ _ F.keep
   · rename (x == y && p == q) = false => c1
     rename (x != y) = true => c2
     have e : subV x p y q = false := by unfold subV; rw [c1, c2]; rfl
     exact e ▸ hR _ _ F.keep
   · rename (x == y && p == q) = false => c1
     rename (x != y) = false => c2
     rename (Txt.slice p (some (-1)) none != _) = true => c3
     rename Fr _ _ _ _ => F'
     have e : subV x p y q = Txt.startswith q (p ++ Str.ofString "/") := by unfold subV; rw [c1, c2, c3]; rfl
     exact e ▸ hR _ _ F'.keep
   · rename (x == y && p == q) = false => c1
     rename (x != y) = false => c2
     rename (Txt.slice p (some (-1)) none != _) = false => c3
     rename Fr _ _ _ _ => F'
     have e : subV x p y q = Txt.startswith q p := by unfold subV; rw [c1, c2, c3]; rfl
     exact e ▸ hR _ _ F'.keep
theorem suburi {w : World} {A : Around} {s : Shared} (f : Fit A 600 2000) (X : (KK w).In s.heap) {b t : Addr} {x y p q : Str} {t1 t2 t3 t4 : Tok} {self : Value}
   {R : Result → Shared → Prop} (hx : PyData.strOk x = true) (hy : PyData.strOk y = true) (hp : PyData.strOk p = true) (hq : PyData.strOk q = true) (hl : p.length ≤ 1000) (hlq : q.length ≤ 1000)
   (hb : s.heap.IsTuple b #[.str x t1, .str p t2]) (ht : s.heap.IsTuple t #[.str y t3, .str q t4])
   (hR : ∀ h' tk', Ext s.heap h' → R (.ok (.ret (.bool (subV x p y q)))) { s with heap := h', toks := tk' })
    : codeAny (model prog w) A (.call (.ref 64) ⟨[self, .ref b, .ref t], []⟩) R s :=
  f.code (suburi0 s X b t x y p q t1 t2 t3 t4 self R hx hy hp hq hl hlq hb ht hR)
end Mine
end

section
open PySem PySem.W PySem.W.X PyProof.Rows PySem.Calls PySem.Spec
namespace Mine
noncomputable def KT : Params → Frag := fun P => ((nat_lit 84), ((TP.heap_39 P).lookup 84).getD default) :: ((nat_lit 80), (⟨.none, none, .fields #[], #[]⟩ : Obj)) :: TP.heap_39 P
theorem KT_of {w : World} {h : Heap} (X : (KK w).In h) (t : h.get? 80 = some (tabObj #[])) : (KT w.params).In h := by
  intro a o e
  unfold KT at e
  have z : ∃ o', (TP.heap_39 w.params).lookup 84 = some o' := by
    have : ((TP.heap_39 w.params).lookup 84).isSome = true := by kernel_rfl
    exact Option.isSome_iff_exists.mp this
  obtain ⟨o', z⟩ := z
  rw [z] at e
  rw [List.lookup_cons] at e
  split at e
  · rename_i q
    have : a = 84 := by simpa using q
    subst this
    cases e
    exact X _ _ z
  · rw [List.lookup_cons] at e
    split at e
    · rename_i q
      have : a = 80 := by simpa using q
      subst this
      cases e
      exact t
    · exact X _ _ e

theorem place_end {h : Heap} {d f : Addr} {fd : FuncData} {e1 e2 e3 e4 : DictEntry} {ep : Nat} {n : Int} {p : Pl} {k1 k2 k3 k4 t1 t2 t3 : Tok} {tv : Value} {av : Addr → Prop}
    (g1 : h.get? d = some ⟨.type "dict", none, .dict ⟨[e1, e2, e3, e4]⟩ ep, #[]⟩) (g2 : h.get? f = some ⟨.type "function", some d, .func fd, #[]⟩)
    (a1 : e1.key = .str ⟨#[110, 117, 109, 98, 101, 114]⟩ k1) (a2 : e2.key = .str ⟨#[111, 118, 101, 114]⟩ k2) (a3 : e3.key = .str ⟨#[112, 97, 116, 104]⟩ k3) (a4 : e4.key = .str ⟨#[116, 97, 103]⟩ k4)
    (v1 : e1.val = .int n t1) (v2 : e2.val = .int p.over t2) (v3 : e3.val = .str p.path t3) (v4 : e4.val = tv) (ht : TagV p.tag tv) (hf : av f) (hd : av d) : PlaceAt av h (.ref f) n p := by
  have s1 : sNumber = ⟨#[110, 117, 109, 98, 101, 114]⟩ := by decide +kernel
  have s2 : sOver = ⟨#[111, 118, 101, 114]⟩ := by decide +kernel
  have s3 : sPath = ⟨#[112, 97, 116, 104]⟩ := by decide +kernel
  have s4 : sTag = ⟨#[116, 97, 103]⟩ := by decide +kernel
  refine ⟨f, d, fd, nsFind ⟨[e1, e2, e3, e4]⟩, t1, t2, t3, tv, ⟨hf, hd⟩, rfl, g2, ⟨_, _, _, g1, rfl, ?_, fun _ => rfl⟩, ?_, ?_, ?_, ?_, ht⟩
  · intro e he
    simp at he
    rcases he with rfl | rfl | rfl | rfl
    · exact ⟨_, _, a1⟩
    · exact ⟨_, _, a2⟩
    · exact ⟨_, _, a3⟩
    · exact ⟨_, _, a4⟩
  · rw [s1]; simp [nsFind, findBy, a1, Value.isStr, v1]
  · rw [s2]; simp [nsFind, findBy, a1, a2, Value.isStr, v2]
  · rw [s3]; simp [nsFind, findBy, a1, a2, a3, Value.isStr, v3]
  · rw [s4]; simp [nsFind, findBy, a1, a2, a3, a4, Value.isStr, v4]
theorem mem_keep80 {h₀ h : Heap} {o : Obj} {news : List (Addr × Obj)} (D : Mem h₀ h [(80, o)] news) : ∀ b x, h₀.get? b = some x → b ≠ 80 → h.get? b = some x := fun b x e n =>
  D.keep b x e (by
    have z : Nat.beq 80 b = false := by
      cases hz : Nat.beq 80 b with
      | false => rfl
      | true => exact absurd (Nat.eq_of_beq_eq_true hz).symm n
    simp [away, z])
theorem mem_keep0 {h₀ h : Heap} {news : List (Addr × Obj)} (D : Mem h₀ h [] news) : Ext h₀ h := fun b x e =>
  D.keep b x e (by simp [away])
theorem tab_grown {h₀ h : Heap} {news : List (Addr × Obj)} {c : Addr} (D : Mem h₀ h [(80, tableObj #[.int 68 0, .int 12 0, .ref c])] news) : Tab80 h :=
  ⟨_, (D.ch _ (.head _)).1, .inr ⟨c, rfl⟩⟩
/-- all that stood stands, but for the lambda's code table -/
def K80 (h h' : Heap) : Prop := ∀ b x, h.get? b = some x → b ≠ 80 → h'.get? b = some x
abbrev PlaceEnd (s : Shared) (n : Int) (p : Pl) (Q : Value → Shared → Prop) : Prop :=
  ∀ v h' tk', K80 s.heap h' → Tab80 h' → PlaceAt (fun b => s.heap.get? b = none) h' v n p → Q v { s with heap := h', toks := tk' }
theorem placeA_end {s : Shared} {n : Int} {p : Pl} {Q : Value → Shared → Prop} {h : Heap} {news : List (Addr × Obj)} {c f : Addr} {tk : Nat}
    (hR : PlaceEnd s n p Q) (D : Mem s.heap h [(80, tableObj #[.int 68 0, .int 12 0, .ref c])] news) (P : PlaceAt (fun b => s.heap.get? b = none) h (.ref f) n p) : Q (.ref f) { s with heap := h, toks := tk } :=
  hR _ _ _ (mem_keep80 D) (tab_grown D) P
theorem placeB_end {s : Shared} {n : Int} {p : Pl} {Q : Value → Shared → Prop} {h : Heap} {news : List (Addr × Obj)} {f : Addr} {tk : Nat}
    (hR : PlaceEnd s n p Q) (D : Mem s.heap h [] news) (T : Tab80 s.heap) (P : PlaceAt (fun b => s.heap.get? b = none) h (.ref f) n p) : Q (.ref f) { s with heap := h, toks := tk } :=
  hR _ _ _ (fun b o e _ => mem_keep0 D b o e) (let ⟨qs, e, r⟩ := T; ⟨qs, mem_keep0 D _ _ e, r⟩) P
section
local macro_rules | `(tactic| x_close) => `(tactic| first
  | (refine placeA_end (by assumption) (by assumption) (place_end (Mem.nw (by assumption) _ (.head _)).1 (Mem.nw (by assumption) _ (.tail _ (.head _))).1 rfl rfl rfl rfl rfl rfl rfl rfl ?_ (Mem.nw (by assumption) _ (.tail _ (.head _))).2 (Mem.nw (by assumption) _ (.head _)).2); first | assumption | exact rfl | exact ⟨_, rfl⟩)
  | (refine placeB_end (by assumption) (by assumption) (by assumption) (place_end (Mem.nw (by assumption) _ (.head _)).1 (Mem.nw (by assumption) _ (.tail _ (.head _))).1 rfl rfl rfl rfl rfl rfl rfl rfl ?_ (Mem.nw (by assumption) _ (.tail _ (.head _))).2 (Mem.nw (by assumption) _ (.head _)).2); first | assumption | exact rfl | exact ⟨_, rfl⟩))
set_option maxRecDepth 100000 in
set_option maxHeartbeats 0 in
theorem placeA {w : World} (s : Shared) (X : (KT w.params).In s.heap) (T : Tab80 s.heap) (n : Int) (p : Pl) (t1 t2 t3 : Tok) (tv : Value) (htv : TagV p.tag tv)
   (sl : Array (Option Value)) (hm : s.heap.get? (nat_lit 4) = some ⟨.type "module", some 0, .plain, sl⟩) 
   (Q : Value → Shared → Prop) (hR : PlaceEnd s n p Q)
    : wpAny (model PySem.Challenge.rw_pg0106_01.row.prog w) (AB 600 2000) (call (.ref 85) [.int n t1, .int p.over t2, .str p.path t3, tv]) Q (fun _ _ => False) s := by
   revert X
   k_fill
   intro X
   x_run
set_option maxRecDepth 100000 in
set_option maxHeartbeats 0 in
theorem placeB {w : World} (s : Shared) (X : (TP.heap_39 w.params).In s.heap) (T : Tab80 s.heap) (n : Int) (p : Pl) (t1 t2 t3 : Tok) (tv : Value) (htv : TagV p.tag tv)
   (sl : Array (Option Value)) (hm : s.heap.get? (nat_lit 4) = some ⟨.type "module", some 0, .plain, sl⟩) (c : Addr) (ht : s.heap.get? (nat_lit 80) = some ⟨.none, none, .fields #[.int 68 0, .int 12 0, .ref c], #[]⟩)
   (Q : Value → Shared → Prop) (hR : PlaceEnd s n p Q)
    : wpAny (model PySem.Challenge.rw_pg0106_01.row.prog w) (AB 600 2000) (call (.ref 85) [.int n t1, .int p.over t2, .str p.path t3, tv]) Q (fun _ _ => False) s := by
   revert X
   k_fill
   intro X
   x_run
end
theorem place {w : World} {A : Around} {s : Shared} (f : Fit A 600 2000) (X : (KK w).In s.heap) (B : Bm s.heap) (T : Tab80 s.heap) {n : Int} {p : Pl} {t1 t2 t3 : Tok} {tv : Value}
    {Q E : Value → Shared → Prop} (ht : TagV p.tag tv) (hR : PlaceEnd s n p Q) :
    wpAny (model prog w) A (call (.ref 85) [.int n t1, .int p.over t2, .str p.path t3, tv]) Q E s := by
  refine wpAny_mono (E := fun _ _ => False) (f.wp ?_) (fun _ _ x => x) (fun _ _ x => False.elim x)
  obtain ⟨sl, hm⟩ := B
  obtain ⟨qs, e, hq⟩ := id T
  rcases hq with rfl | ⟨c, rfl⟩
  · exact placeA s (KT_of X e) T n p t1 t2 t3 tv ht sl hm Q hR
  · exact placeB s X T n p t1 t2 t3 tv ht sl hm c e Q hR
end Mine
end

section
open PySem PySem.W PyProof.Rows PySem.Calls PySem.Spec
open Builtin Builtin.ObjectAttr
namespace Mine
theorem lk_fn_ga : typeLookup (.type "function") "__getattribute__" = pure (some (.builtin "object.__getattribute__")) := by rw [typeLookup_type, builtinLookup_eq_fast]; kernel_rfl
theorem sub_fn_obj : isSubtype (.type "function") (.type "object") = pure true := by kernel_rfl
theorem slot_fn_ga : Slot "function" "__getattribute__" "object.__getattribute__" := .of (owner := "object") (n := "__getattribute__") lk_fn_ga (by decide +kernel) (by decide +kernel) (by decide +kernel) (by decide +kernel) sub_fn_obj
theorem entry_obj_ga : entryFor table "object.__getattribute__" = some Builtin.«object.__getattribute__» := entryFor_of_tree (by kernel_rfl)
theorem lk_fn_number : typeLookup (.type "function") sNumber = pure none := by rw [typeLookup_type, builtinLookup_eq_fast]; kernel_rfl
theorem lk_fn_over : typeLookup (.type "function") sOver = pure none := by rw [typeLookup_type, builtinLookup_eq_fast]; kernel_rfl
theorem lk_fn_path : typeLookup (.type "function") sPath = pure none := by rw [typeLookup_type, builtinLookup_eq_fast]; kernel_rfl
theorem lk_fn_tag : typeLookup (.type "function") sTag = pure none := by rw [typeLookup_type, builtinLookup_eq_fast]; kernel_rfl
section
variable {prog : Program} {w : World} {A : Around} {E : Value → Shared → Prop} {h : Heap} {g : Array GenState} {d : Drawn} {t : Nat} {os : OsState}
theorem fn_entry {a dd : Addr} {fd : FuncData} {sl : Array (Option Value)} {m : Str → Option Value} {name : Str} {v : Value} {tk : Tok} {Q : Fin → Shared → Prop}
    (hx : h.get? a = some ⟨.type "function", some dd, .func fd, sl⟩) (hn : h.Ns dd m) (hv : m name = some v) (hB : typeLookup (.type "function") name = pure none) (hq : Q (.done (.ret v)) ⟨h, g, d, t, os⟩) :
    wpAny (model prog w) A (Builtin.«object.__getattribute__» ⟨[.ref a, .str name tk], []⟩) Q E ⟨h, g, d, t, os⟩ := by
  unfold Builtin.«object.__getattribute__»
  repeat (first | (with_reducible refine wpAny_loadPart_at hx ?_) | (with_reducible refine wpAny_bind (wpAny_of_eq hB ?_)) | (with_reducible refine wpAny_nsGet hn ?_; rw [hv]) | wp_step)
  exact hq

theorem fn_attr {expr : Bool} {a dd : Addr} {fd : FuncData} {sl : Array (Option Value)} {m : Str → Option Value} {name : Str} {v : Value} {Q : Value → Shared → Prop}
    (hx : h.get? a = some ⟨.type "function", some dd, .func fd, sl⟩) (hn : h.Ns dd m) (hv : m name = some v) (hB : typeLookup (.type "function") name = pure none) (hh : handedOut v = pure v) (hq : Q v ⟨h, g, d, t + 1, os⟩) :
    wpAny (model prog w) A (getAttr (.ref a) name expr) Q E ⟨h, g, d, t, os⟩ := by
  have hT : ∀ t', (⟨h, g, d, t', os⟩ : Shared).TypeIs (.ref a) "function" := fun _ => ⟨_, hx, rfl⟩
  unfold getAttr getAttrBy
  refine wpAny_bind (wpAny_mkText (wpAny_holding (wpAny_bind (wpAny_typeOf (hT _) (wpAny_bind (wpAny_of_eq lk_fn_ga ?_))))))
  show wpAny _ _ (getAttrByItsOwn (.ref a) (.str name t) (.type "function") (.builtin "object.__getattribute__") true expr) _ _ _
  unfold getAttrByItsOwn hookBefore callGetattribute boundAndCalled
  refine wpAny_bind (wpAny_of_eq (show (if onTheHeap (.type "function") then typeLookup (.type "function") "__getattr__" else pure none) = pure none from rfl) ?_)
  refine wpAny_bind (wpAny_attempt (wpAny_holding ?_))
  rw [if_neg (by cases expr <;> decide)]
  refine wpAny_bind (wpAny_of_eq (slot_fn_ga.bind _) ?_)
  refine wpAny_call_entry slot_fn_ga (hT _) entry_obj_ga (fn_entry hx hn hv hB ⟨_, rfl, ?_⟩) rfl
  show wpAny _ _ (handedOut v) _ _ _
  rw [hh]
  exact wpAny_pure hq
end
section
variable {w : World} {A : Around} {E : Value → Shared → Prop} {s : Shared} {v : Value} {i : Int} {p : Pl} {expr : Bool} {av : Addr → Prop} {Q : Value → Shared → Prop}
theorem at_number (P : PlaceAt av s.heap v i p) (h : ∀ tk, Q (.int i tk) { s with toks := s.toks + 1 }) : wpAny (model prog w) A (getAttr v sNumber expr) Q E s := by
  obtain ⟨a, d, fd, m, t1, t2, t3, tv, _, rfl, e1, e2, e3, e4, e5, e6, e7⟩ := P
  exact fn_attr e1 e2 e3 lk_fn_number rfl (h _)
theorem at_over (P : PlaceAt av s.heap v i p) (h : ∀ tk, Q (.int p.over tk) { s with toks := s.toks + 1 }) : wpAny (model prog w) A (getAttr v sOver expr) Q E s := by
  obtain ⟨a, d, fd, m, t1, t2, t3, tv, _, rfl, e1, e2, e3, e4, e5, e6, e7⟩ := P
  exact fn_attr e1 e2 e4 lk_fn_over rfl (h _)
theorem at_path (P : PlaceAt av s.heap v i p) (h : ∀ tk, Q (.str p.path tk) { s with toks := s.toks + 1 }) : wpAny (model prog w) A (getAttr v sPath expr) Q E s := by
  obtain ⟨a, d, fd, m, t1, t2, t3, tv, _, rfl, e1, e2, e3, e4, e5, e6, e7⟩ := P
  exact fn_attr e1 e2 e5 lk_fn_path rfl (h _)
theorem at_tag (P : PlaceAt av s.heap v i p) (h : ∀ tv, TagV p.tag tv → Q tv { s with toks := s.toks + 1 }) : wpAny (model prog w) A (getAttr v sTag expr) Q E s := by
  obtain ⟨a, d, fd, m, t1, t2, t3, tv, _, rfl, e1, e2, e3, e4, e5, e6, e7⟩ := P
  refine fn_attr e1 e2 e6 lk_fn_tag ?_ (h _ e7)
  cases hp : p.tag with
  | none => rw [hp] at e7; cases e7; rfl
  | some t => rw [hp] at e7; obtain ⟨k, rfl⟩ := e7; rfl
end
end Mine
end

section
open PySem PySem.W PyProof.Rows PySem.Calls PySem.Spec
namespace Mine

/-- a run that leaves all that stood: heap grown, a few tokens drawn -/
theorem keeps_refl (s : Shared) : Keeps s s := ⟨s.heap, s.toks, rfl, fun _ _ e => e⟩
theorem keeps_trans {s s' s'' : Shared} (a : Keeps s s') (b : Keeps s' s'') : Keeps s s'' := by
  obtain ⟨h, t, rfl, k⟩ := a
  obtain ⟨h', t', rfl, k'⟩ := b
  exact ⟨h', t', rfl, fun b o e => k' b o (k b o e)⟩
theorem Keeps.ext {s s' : Shared} (a : Keeps s s') : Ext s.heap s'.heap := by
  obtain ⟨h, t, rfl, k⟩ := a; exact k

/-- an iterator, abstractly: a step leaves what Pr protects; what the client does (at Cl alone) leaves it as it is -/
structure Itr (w : World) (A : Around) (itv : Value) (Pr Cl : Addr → Prop) (G : Array GenState → Array GenState → Prop) (Dn : Array GenState → Prop) (N : Nat) (item : Nat → Value) (It : Nat → Shared → Prop) : Prop where
  grefl : ∀ a, G a a
  gtrans : ∀ a b c, G a b → G b c → G a c
  next : ∀ j s (Q : Option Value → Shared → Prop) E, j < N → It j s →
    (∀ h' tk gs, It (j + 1) { s with heap := h', toks := tk, gens := gs } → (∀ b o, Pr b → s.heap.get? b = some o → h'.get? b = some o) → G s.gens gs → Q (some (item j)) { s with heap := h', toks := tk, gens := gs }) →
    wpAny (model prog w) A (pyNext itv) Q E s
  done : ∀ s (Q : Option Value → Shared → Prop) E, It N s →
    (∀ h' tk gs, (∀ b o, Pr b → s.heap.get? b = some o → h'.get? b = some o) → G s.gens gs → Dn gs → Q none { s with heap := h', toks := tk, gens := gs }) →
    wpAny (model prog w) A (pyNext itv) Q E s
  stable : ∀ j s h' tk, It j s → (∀ b o, ¬ Cl b → s.heap.get? b = some o → h'.get? b = some o) → (∀ b, Cl b → (s.heap.get? b).isSome = true → (h'.get? b).isSome = true) → It j { s with heap := h', toks := tk }

theorem Itr.list {w : World} {A : Around} {I ax : Addr} {items : Array Value} {Cl : Addr → Prop} (hh : A.handled = none) (hI : ¬ Cl I) (ha : ¬ Cl ax) (hne : ax ≠ I) :
    Itr w A (.ref I) (fun b => b ≠ I) Cl Eq (fun _ => True) items.size (fun j => items.getD j .none) (fun j s => s.heap.IsListIter I ax j ∧ s.heap.IsList ax items) where
  grefl := fun _ => rfl
  gtrans := fun _ _ _ a b => a.trans b
  next := fun j s Q E hj st h => by
    have hv : items[j]? = some (items.getD j .none) := by rw [Array.getD_eq_getD_getElem?, Array.getElem?_eq_getElem hj]; rfl
    refine wpAny_pyNext_list_item st.1 st.2 hv fun h₁ hit hs => ?_
    exact h h₁ s.toks s.gens ⟨hit, st.2.extBut hs.extBut hne⟩ (fun b o hb e => hs.extBut b o hb e) rfl
  done := fun s Q E st h => by
    refine wpAny_pyNext_list_end hh st.1 st.2 (by simp) fun h₁ he => ?_
    exact h h₁ s.toks s.gens (fun b o hb e => he b o hb e) rfl trivial
  stable := fun j s h' tk st k _ => ⟨let ⟨o, e, r⟩ := st.1; ⟨o, k _ _ hI e, r⟩, let ⟨o, e, r⟩ := st.2; ⟨o, k _ _ ha e, r⟩⟩

abbrev testsOf (ifs : List PySem.Expr) (cenv : Env) : Sem Bool :=
  forIn ifs true fun c r => if r = true then do let ok ← isTrue c cenv (eval c cenv); pure (ForInStep.yield ok) else pure (ForInStep.yield r)

theorem range_filter_succ (p : Nat → Bool) (j : Nat) : (List.range (j + 1)).filter p = (List.range j).filter p ++ (if p j then [j] else []) := by
  rw [List.range_succ, List.filter_append]
  congr 1
  simp only [List.filter_cons, List.filter_nil]
theorem Paired.imp {α β : Type} {F G : α → β → Prop} (h : ∀ a b, F a b → G a b) : ∀ {l₁ : List α} {l₂ : List β}, Paired F l₁ l₂ → Paired G l₁ l₂
  | _, _, .nil => .nil
  | _, _, .cons a r => .cons (h _ _ a) (Paired.imp h r)

/-- the loop of a comprehension over an abstract iterator -/
theorem comp_loop {w : World} {A : Around} {elt iter : PySem.Expr} {x : Str} {px : Pos} {ifs : List PySem.Expr} {scope : Scope} {pos : Pos} {itv : Value} {D : Addr} {cenv : Env} {R : Result → Shared → Prop}
    {Pr Cl own : Addr → Prop} {G : Array GenState → Array GenState → Prop} {Dn : Array GenState → Prop} {N : Nat} {item : Nat → Value} {It : Nat → Shared → Prop} {Var : Value → Heap → Prop} {Var0 : Heap → Prop} (pz : Nat → Bool) (Y : Nat → Value → Heap → Prop)
    (I : Itr w A itv Pr Cl G Dn N item It) (s₀ : Shared) (hop : ∀ b, own b → Pr b) (hoc : ∀ b, own b → Cl b) (hDp : Pr D) (hDc : Cl D) (hDo : ¬ own D)
    (hCl : ∀ b, Cl b → own b ∨ b = D) (hOwn : ∀ b h, own b → Var0 h → (h.get? b).isSome = true)
    (hVar : ∀ v h, Var v h → Var0 h) (hV0 : ∀ h h', Var0 h → (∀ b o, own b → h.get? b = some o → h'.get? b = some o) → Var0 h')
    (hV1 : ∀ v h h', Var v h → (∀ b o, own b → h.get? b = some o → h'.get? b = some o) → Var v h')
    (hassign : ∀ v s (Q : Unit → Shared → Prop) E, Var0 s.heap → (∀ h' tk, Var v h' → (∀ b o, ¬ own b → s.heap.get? b = some o → h'.get? b = some o) → Q () { s with heap := h', toks := tk }) → wpAny (model prog w) A (assign (.Name x px) cenv v) Q E s)
    (hY : ∀ j y h h', Y j y h → (∀ b o, ¬ own b → b ≠ D → Pr b → h.get? b = some o → h'.get? b = some o) → Y j y h')
    (turn : ∀ j s, j < N → (∀ b o, Pr b → ¬ Cl b → s₀.heap.get? b = some o → s.heap.get? b = some o) → Var (item j) s.heap → (∃ its, s.heap.IsList D its) →
      wpAny (model prog w) A (testsOf ifs cenv) (fun ok s₃ => ok = pz j ∧ Keeps s s₃ ∧ (ok = true → wpAny (model prog w) A (eval elt cenv) (fun y s₄ => Y j y s₄.heap ∧ Keeps s₃ s₄) (fun _ _ => False) s₃)) (fun _ _ => False) s)
    (hN : N ≤ sizeLine)
    (h0 : It 0 s₀) (hv0 : Var0 s₀.heap) (hD0 : s₀.heap.IsList D #[])
    (hR : ∀ h' tk gs ys, Var0 h' → h'.IsList D ys → Paired (fun j y => Y j y h') ((List.range N).filter pz) ys.toList →
      (∀ b o, Pr b → ¬ Cl b → s₀.heap.get? b = some o → h'.get? b = some o) → G s₀.gens gs → Dn gs → R (.ok .next) { s₀ with heap := h', toks := tk, gens := gs }) :
    codeAny (model prog w) A (.compLoop (.ListComp elt [⟨.Name x px, iter, ifs, 0⟩] scope pos) 0 itv (.ref D) cenv) R s₀ := by
  have ownD : ∀ b, own b → b ≠ D := fun b hb e => hDo (e ▸ hb)
  refine codeAny_compLoop_tests
    (fun k s' => ∃ h' tk gs ys j, s' = { s₀ with heap := h', toks := tk, gens := gs } ∧ It j s' ∧ h'.IsList D ys ∧ Var0 h' ∧ Paired (fun j y => Y j y h') ((List.range j).filter pz) ys.toList ∧ j ≤ N ∧ k = N + 1 - j ∧
      (∀ b o, Pr b → ¬ Cl b → s₀.heap.get? b = some o → h'.get? b = some o) ∧ G s₀.gens gs) ?_ (N + 1)
    ⟨s₀.heap, s₀.toks, s₀.gens, #[], 0, rfl, h0, hD0, hv0, .nil, Nat.zero_le _, rfl, fun _ _ _ _ e => e, I.grefl _⟩
  rintro k s' ⟨H, tk, gs, ys, j, rfl, hit, hacc, hvar, hF, hj, rfl, hk, hg⟩
  by_cases hlt : j < N
  · refine I.next j _ _ _ hlt hit fun h₁ tk₁ gs₁ hit₁ hk₁ hg₁ => ?_
    have hacc₁ : h₁.IsList D ys := let ⟨o, e, r⟩ := hacc; ⟨o, hk₁ _ _ hDp e, r⟩
    have hvar₁ : Var0 h₁ := hV0 _ _ hvar fun b o hb e => hk₁ b o (hop b hb) e
    refine hassign _ _ _ _ hvar₁ fun h₂ tk₂ hvar₂ hk₂ => ?_
    have hacc₂ : h₂.IsList D ys := let ⟨o, e, r⟩ := hacc₁; ⟨o, hk₂ _ _ hDo e, r⟩
    have hit₂ : It (j + 1) { s₀ with heap := h₂, toks := tk₂, gens := gs₁ } := I.stable _ _ _ _ hit₁ (fun b o hb e => hk₂ b o (fun hb' => hb (hoc b hb')) e)
      fun b hb _ => (hCl b hb).elim (fun ho => hOwn b _ ho (hVar _ _ hvar₂)) (fun q => by subst q; obtain ⟨o, e, _⟩ := hacc₂; rw [e]; rfl)
    have up₂ : ∀ b o, Pr b → ¬ Cl b → s₀.heap.get? b = some o → h₂.get? b = some o := fun b o hb hf e => hk₂ b o (fun hb' => hf (hoc b hb')) (hk₁ b o hb (hk b o hb hf e))
    have hF₂ : Paired (fun j y => Y j y h₂) ((List.range j).filter pz) ys.toList := Paired.imp (fun _ _ z => hY _ _ _ _ z fun b o h1 h2 h3 e => hk₂ b o h1 (hk₁ b o h3 e)) hF
    refine wpAny_mono (turn j { s₀ with heap := h₂, toks := tk₂, gens := gs₁ } hlt up₂ hvar₂ ⟨ys, hacc₂⟩) (fun ok s₃ h₃ => ?_) fun _ _ z => False.elim z
    obtain ⟨rfl, ⟨h₃, tk₃, rfl, hk₃⟩, helt⟩ := h₃
    have hit₃ : It (j + 1) { s₀ with heap := h₃, toks := tk₃, gens := gs₁ } := I.stable _ _ _ _ hit₂ (fun b o _ e => hk₃ b o e) fun b _ z => by obtain ⟨o, e⟩ := Option.isSome_iff_exists.mp z; rw [hk₃ b o e]; rfl
    have hacc₃ : h₃.IsList D ys := let ⟨o, e, r⟩ := hacc₂; ⟨o, hk₃ _ _ e, r⟩
    have hvar₃ : Var (item j) h₃ := hV1 _ _ _ hvar₂ fun b o _ e => hk₃ b o e
    have hF₃ : Paired (fun j y => Y j y h₃) ((List.range j).filter pz) ys.toList := Paired.imp (fun _ _ z => hY _ _ _ _ z fun b o _ _ _ e => hk₃ b o e) hF₂
    have up₃ : ∀ b o, Pr b → ¬ Cl b → s₀.heap.get? b = some o → h₃.get? b = some o := fun b o hb hf e => hk₃ b o (up₂ b o hb hf e)
    have hgg : G s₀.gens gs₁ := I.gtrans _ _ _ hg hg₁
    cases hpz : pz j with
    | false =>
      simp only [Bool.false_eq_true, if_false]
      refine ⟨N + 1 - (j + 1), by omega, h₃, tk₃, gs₁, ys, j + 1, rfl, hit₃, hacc₃, hVar _ _ hvar₃, ?_, hlt, rfl, up₃, hgg⟩
      rw [range_filter_succ, hpz]; simpa using hF₃
    | true =>
      simp only [if_true]
      refine wpAny_mono (helt hpz) (fun y s₄ h₄ => ?_) fun _ _ z => False.elim z
      obtain ⟨hy, h₄, tk₄, rfl, hk₄⟩ := h₄
      have hys : ys.size ≤ sizeLine := by
        have e1 := hF.length
        have e2 : ((List.range j).filter pz).length ≤ (List.range j).length := List.length_filter_le _ _
        rw [List.length_range] at e2
        have e4 : ys.toList.length = ys.size := by simp
        omega
      have hacc₄ : h₄.IsList D ys := let ⟨o, e, r⟩ := hacc₃; ⟨o, hk₄ _ _ e, r⟩
      refine wpAny_list_append (hsz := hys) hacc₄ fun h₅ hl₅ hs₅ => ?_
      refine ⟨N + 1 - (j + 1), by omega, h₅, tk₄, gs₁, ys.push y, j + 1, rfl, ?_, hl₅, ?_, ?_, hlt, rfl, ?_, hgg⟩
      · exact I.stable _ { s₀ with heap := h₃, toks := tk₃, gens := gs₁ } _ _ hit₃ (fun b o hb e => hs₅.extBut b o (fun q => hb (q ▸ hDc)) (hk₄ b o e))
          fun b _ z => by
            by_cases q : b = D
            · subst q; obtain ⟨o, e, _⟩ := hl₅; rw [e]; rfl
            · obtain ⟨o, e⟩ := Option.isSome_iff_exists.mp z; rw [hs₅.extBut b o q (hk₄ b o e)]; rfl
      · exact hV0 _ _ (hVar _ _ hvar₃) fun b o hb e => hs₅.extBut b o (ownD b hb) (hk₄ b o e)
      · rw [range_filter_succ, hpz]
        have z : Paired (fun j y => Y j y h₅) ((List.range j).filter pz) ys.toList := Paired.imp (fun _ _ z => hY _ _ _ _ z fun b o _ h2 _ e => hs₅.extBut b o h2 (hk₄ b o e)) hF₃
        have z2 : Y j y h₅ := hY _ _ _ _ hy fun b o _ h2 _ e => hs₅.extBut b o h2 e
        simpa using Paired.snoc z z2
      · exact fun b o hb hf e => hs₅.extBut b o (fun q => hf (q ▸ hDc)) (hk₄ b o (up₃ b o hb hf e))
  · have hjN : j = N := by omega
    subst hjN
    refine I.done _ _ _ hit fun h₁ tk₁ gs₁ hk₁ hg₁ hd₁ => ?_
    refine hR h₁ tk₁ gs₁ ys (hV0 _ _ hvar fun b o hb e => hk₁ b o (hop b hb) e) (let ⟨o, e, r⟩ := hacc; ⟨o, hk₁ _ _ hDp e, r⟩) (Paired.imp (fun _ _ z => hY _ _ _ _ z fun b o _ _ h3 e => hk₁ b o h3 e) hF)
      (fun b o hb hf e => hk₁ b o hb (hk b o hb hf e)) (I.gtrans _ _ _ hg hg₁) hd₁

theorem ifs_nil {w : World} {A : Around} {E : Value → Shared → Prop} {s : Shared} {cenv : Env} {Q : Bool → Shared → Prop} (h : Q true s) : wpAny (model prog w) A (testsOf [] cenv) Q E s := wpAny_tests_nil h
theorem ifs_one {w : World} {A : Around} {E : Value → Shared → Prop} {s : Shared} {cenv : Env} {c : PySem.Expr} {Q : Bool → Shared → Prop} (h : wpAny (model prog w) A (isTrue c cenv (eval c cenv)) Q E s) : wpAny (model prog w) A (testsOf [c] cenv) Q E s := wpAny_tests_one h

theorem fresh_of_size {h : Heap} {a : Addr} (ha : h.objs.size ≤ a) : h.get? a = none := by
  cases e : h.get? a with
  | none => rfl
  | some o => exact absurd (Heap.lt_size e) (Nat.not_lt.mpr ha)

/-- a comprehension over a list, its target a local name of the block -/
theorem comp_list2 {w : World} {A : Around} {E : Value → Shared → Prop} {env : Env} {elt iter : PySem.Expr} {x : Str} {px : Pos} {ifs : List PySem.Expr} {scope : Scope} {cl : List (Str × Addr)} {pos : Pos} {s : Shared} {Q : Value → Shared → Prop}
    (hh : A.handled = none) (hclos : closureFor scope env = pure cl) (hkind : scope.kind = .function) (hnames : ∀ y ∈ scope.names, y.2 = .local → scope.names.lookup y.1 = some .local)
    (hcell : ∀ y ∈ scope.names, y.2 ≠ .cell) (hx : scope.names.lookup x = some .local)
    (h : wpAny (model prog w) A (eval iter env) (fun xv s₁ => ∃ ax items pz Y, xv = .ref ax ∧ s₁.heap.IsList ax items ∧ items.size ≤ sizeLine ∧
      (∀ C j s₂ m, j < items.size → Ext s₁.heap s₂.heap → s₁.heap.objs.size ≤ C → s₂.heap.Ns C m → m x = some (items.getD j .none) →
        wpAny (model prog w) A (testsOf ifs (compEnvC scope cl C env)) (fun ok s₃ => ok = pz j ∧ Keeps s₂ s₃ ∧ (ok = true → wpAny (model prog w) A (eval elt (compEnvC scope cl C env)) (fun y s₄ => Y j y ∧ Keeps s₃ s₄) (fun _ _ => False) s₃)) (fun _ _ => False) s₂) ∧
      (∀ D h' tk ys, s₁.heap.objs.size ≤ D → h'.IsList D ys → Paired Y ((List.range items.size).filter pz) ys.toList → Ext s₁.heap h' → Q (.ref D) { s₁ with heap := h', toks := tk })) E s)
    (hs : ∀ x, foldedSetIterable iter env x = pure x := by intro _; rfl) :
    wpAny (model prog w) A (eval (.ListComp elt [⟨.Name x px, iter, ifs, 0⟩] scope pos) env) Q E s := by
  rw [eval_ListComp]
  refine wpAny_comprehension_free rfl hs hclos hkind hnames (wpAny_mono h (fun xv s₁ h₁ => ?_) fun _ _ e => e)
  obtain ⟨ax, items, pz, Y, rfl, hl, hsz, turn, hQ⟩ := h₁
  refine wpAny_pyIter_list hl (wpAny_newObj_type (hd := by size_fits) (wpAny_newFunctionEnv hcell (by intro y hy; simp at hy) (fun h₁ hns₁ hsb₁ => ?_) hkind))
  dsimp only at hns₁ hsb₁ ⊢
  obtain ⟨ol, hol, hol'⟩ := id hl
  have hax : ax < s₁.heap.objs.size := Heap.lt_size hol
  generalize hH1 : s₁.heap.push { cls := .type "list_iterator", data := .fields #[.ref ax, .int 0 0] } = H1 at hns₁ hsb₁ ⊢
  have hD : H1.objs.size = s₁.heap.objs.size + 1 := by rw [← hH1, Heap.size_push]
  generalize hH2 : H1.push { cls := .type "list", dict := none, data := .seq ([] : List Value).toArray } = H2 at hns₁ hsb₁ ⊢
  have hC : H2.objs.size = s₁.heap.objs.size + 2 := by rw [← hH2, Heap.size_push, hD]
  have hDC : H1.objs.size ≠ H2.objs.size := by rw [hD, hC]; exact Nat.ne_of_lt (Nat.lt_succ_self _)
  have hIC : s₁.heap.objs.size ≠ H2.objs.size := by rw [hC]; exact Nat.ne_of_lt (Nat.lt_succ_of_lt (Nat.lt_succ_self _))
  have old : ∀ b o, s₁.heap.get? b = some o → h₁.get? b = some o := fun b o e => by
    have hb := Heap.lt_size e
    exact hsb₁.extBut b o (by rw [hC]; exact Nat.ne_of_lt (Nat.lt_succ_of_lt (Nat.lt_succ_of_lt hb))) (Heap.get?_push_of_some _ (hH2 ▸ Heap.get?_push_of_some _ (hH1 ▸ Heap.get?_push_of_some _ e)))
  have hit : h₁.IsListIter s₁.heap.objs.size ax 0 :=
    ⟨_, hsb₁.extBut _ _ hIC (Heap.get?_push_of_some _ (hH2 ▸ Heap.get?_push_of_some _ (hH1 ▸ Heap.get?_push_size _ rfl))), rfl, rfl⟩
  have hacc : h₁.IsList H1.objs.size #[] := ⟨_, hsb₁.extBut _ _ hDC (Heap.get?_push_of_some _ (hH2 ▸ Heap.get?_push_size _ rfl)), rfl, _, rfl⟩
  have hl₁ : h₁.IsList ax items := ⟨ol, old _ _ hol, hol'⟩
  have ncl : ∀ b, b < s₁.heap.objs.size → ¬ (b = H2.objs.size ∨ b = H1.objs.size) := fun b hb q => by
    rw [hC, hD] at q
    exact q.elim (Nat.ne_of_lt (Nat.lt_succ_of_lt (Nat.lt_succ_of_lt hb))) (Nat.ne_of_lt (Nat.lt_succ_of_lt hb))
  have loop : codeAny (model prog w) A (.compLoop (.ListComp elt [⟨.Name x px, iter, ifs, 0⟩] scope pos) 0 (.ref s₁.heap.objs.size) (.ref H1.objs.size) (compEnvC scope cl H2.objs.size env))
        (compPost (model prog w) A E none Q (.ref H1.objs.size) H2.objs.size) { s₁ with heap := h₁, toks := s₁.toks + ([] : List (Str × Value)).length } := by
    refine comp_loop (Cl := fun b => b = H2.objs.size ∨ b = H1.objs.size) (own := fun b => b = H2.objs.size) (Var := fun v h => ∃ m, h.Ns H2.objs.size m ∧ m x = some v) (Var0 := fun h => ∃ m, h.Ns H2.objs.size m) pz (fun j y _ => Y j y)
      (Itr.list hh (fun q => q.elim hIC (fun q => by rw [hD] at q; exact absurd q (Nat.ne_of_lt (Nat.lt_succ_self _)))) (fun q => q.elim (fun q => by rw [hC] at q; exact absurd q (Nat.ne_of_lt (Nat.lt_succ_of_lt (Nat.lt_succ_of_lt hax)))) (fun q => by rw [hD] at q; exact absurd q (Nat.ne_of_lt (Nat.lt_succ_of_lt hax)))) (Nat.ne_of_lt hax)) _
      (fun b e => by subst e; exact Ne.symm hIC) (fun b e => .inl e) (by rw [hD]; exact Nat.succ_ne_self _) (.inr rfl) (by exact hDC)
      (fun b e => e) (fun b h e hv => by subst e; obtain ⟨m, o, es, ep, e2, _⟩ := hv; rw [e2]; rfl)
      (fun v h ⟨m, a, _⟩ => ⟨m, a⟩) (fun h h' ⟨m, o, es, ep, e, r⟩ k => ⟨m, o, es, ep, k _ _ rfl e, r⟩) (fun v h h' ⟨m, ⟨o, es, ep, e, r⟩, z⟩ k => ⟨m, ⟨o, es, ep, k _ _ rfl e, r⟩, z⟩)
      ?asg (fun _ _ _ _ z _ => z) ?turn hsz ⟨hit, hl₁⟩ ⟨_, hns₁⟩ hacc ?fin
    case asg =>
      rintro v s Q E ⟨m, hm⟩ k
      refine wpAny_assign_Name (wpAny_storeName_local (env := compEnvC scope cl H2.objs.size env) (lookup_relabel_local hx) hm (fun h₂ hn₂ hs₂ => ?_) (by simp [compEnvC, relabel, hkind]))
      exact k _ _ ⟨_, hn₂, by simp⟩ (fun b o hb e => hs₂.extBut b o hb e)
    case turn =>
      rintro j s hj hk ⟨m, hm, hv⟩ _
      exact turn _ j s m hj (fun b o e => hk b o (Nat.ne_of_lt (Heap.lt_size e)) (ncl b (Heap.lt_size e)) (old b o e)) (by rw [hC]; exact Nat.le_succ_of_le (Nat.le_succ _)) hm hv
    case fin =>
      intro h' tk gs ys hv ha hF hk hg _
      obtain ⟨m, hm⟩ := hv
      refine ⟨m, hm, fun h'' hs'' => ?_⟩
      have hg' : s₁.gens = gs := hg
      subst hg'
      exact hQ _ h'' tk ys (by rw [hD]; exact Nat.le_succ _) (ha.extBut hs''.extBut hDC) hF fun b o e =>
        hs''.extBut b o (by rw [hC]; exact Nat.ne_of_lt (Nat.lt_succ_of_lt (Nat.lt_succ_of_lt (Heap.lt_size e)))) (hk b o (Nat.ne_of_lt (Heap.lt_size e)) (ncl b (Heap.lt_size e)) (old b o e))
  exact codeAny_compStart_list loop (wpAny_pyIter_listiter hit loop)
/-- a comprehension over a list, its target a local name of the block -/
theorem comp_list {w : World} {A : Around} {E : Value → Shared → Prop} {env : Env} {elt iter : PySem.Expr} {x : Str} {px : Pos} {ifs : List PySem.Expr} {scope : Scope} {cl : List (Str × Addr)} {pos : Pos} {s : Shared} {Q : Value → Shared → Prop}
    (hh : A.handled = none) (hclos : closureFor scope env = pure cl) (hkind : scope.kind = .function) (hnames : ∀ y ∈ scope.names, y.2 = .local → scope.names.lookup y.1 = some .local)
    (hcell : ∀ y ∈ scope.names, y.2 ≠ .cell) (hx : scope.names.lookup x = some .local)
    (h : wpAny (model prog w) A (eval iter env) (fun xv s₁ => ∃ ax items pz Y, xv = .ref ax ∧ s₁.heap.IsList ax items ∧ items.size ≤ sizeLine ∧
      (∀ C j s₂ m, j < items.size → Ext s₁.heap s₂.heap → s₁.heap.objs.size ≤ C → s₂.heap.Ns C m → m x = some (items.getD j .none) →
        wpAny (model prog w) A (testsOf ifs (compEnvC scope cl C env)) (fun ok s₃ => ok = pz j ∧ Keeps s₂ s₃ ∧ (ok = true → wpAny (model prog w) A (eval elt (compEnvC scope cl C env)) (fun y s₄ => Y j y ∧ Keeps s₃ s₄) (fun _ _ => False) s₃)) (fun _ _ => False) s₂) ∧
      (∀ D h' tk ys, s₁.heap.get? D = none → h'.IsList D ys → Paired Y ((List.range items.size).filter pz) ys.toList → Ext s₁.heap h' → Q (.ref D) { s₁ with heap := h', toks := tk })) E s)
    (hs : ∀ x, foldedSetIterable iter env x = pure x := by intro _; rfl) :
    wpAny (model prog w) A (eval (.ListComp elt [⟨.Name x px, iter, ifs, 0⟩] scope pos) env) Q E s :=
  comp_list2 hh hclos hkind hnames hcell hx (wpAny_mono h (fun _ _ ⟨ax, items, pz, Y, a, b, c, d, hQ⟩ => ⟨ax, items, pz, Y, a, b, c, d, fun D h' tk ys hD => hQ D h' tk ys (fresh_of_size hD)⟩) fun _ _ e => e) hs
end Mine
end

section
open PySem
namespace Mine
def nms : List Str := [Str.ofString "a", Str.ofString "ab", Str.ofString "b", Str.ofString "*", Str.ofString "..", Str.ofString "a{"]
def p0 : Pl := ⟨-1, Str.ofString "", none⟩
def newPl (ps : List Pl) (n : Int) : Pl :=
  let k := n.fmod ps.length
  let ov := ps.getD k.toNat p0
  let nm := nms.getD ((n.fdiv ps.length).fmod 6).toNat (Str.ofString "")
  ⟨k, ov.path ++ Str.ofString "/" ++ nm, some (if ov.path.length = 0 then nm else Str.ofString "{" ++ ov.path ++ Str.ofString "}" ++ nm)⟩
def stepP (ps : List Pl) (n : Int) : List Pl := if (ps.map (·.path)).contains (newPl ps n).path then ps else ps ++ [newPl ps n]
def buildP (ns : List Int) : List Pl := ([0, 2, 7, 2] ++ ns).foldl stepP [p0]
def PlacesAt (av : Addr → Prop) (h : Heap) (vs : List Value) (ps : List Pl) : Prop := vs.length = ps.length ∧ ∀ i, i < ps.length → PlaceAt av h (vs.getD i .none) i (ps.getD i p0)
theorem PlacesAt.move {av : Addr → Prop} {h h' : Heap} (k : ∀ b o, av b → h.get? b = some o → h'.get? b = some o) {vs : List Value} {ps : List Pl} (q : PlacesAt av h vs ps) : PlacesAt av h' vs ps :=
  ⟨q.1, fun i hi => (q.2 i hi).move k⟩
theorem PlacesAt.mono {av av' : Addr → Prop} (k : ∀ b, av b → av' b) {h : Heap} {vs : List Value} {ps : List Pl} (q : PlacesAt av h vs ps) : PlacesAt av' h vs ps :=
  ⟨q.1, fun i hi => (q.2 i hi).mono k⟩
theorem Keep.places {av : Addr → Prop} {h h' : Heap} (x : Keep h h') {vs : List Value} {ps : List Pl} (q : PlacesAt av h vs ps) : PlacesAt av h' vs ps :=
  ⟨q.1, fun i hi => x.place (q.2 i hi)⟩
theorem PlacesAt.snoc {av : Addr → Prop} {h : Heap} {vs : List Value} {ps : List Pl} (q : PlacesAt av h vs ps) {v : Value} {p : Pl} (P : PlaceAt av h v ps.length p) : PlacesAt av h (vs ++ [v]) (ps ++ [p]) := by
  refine ⟨by simp [q.1], fun i hi => ?_⟩
  rw [List.length_append, List.length_singleton] at hi
  by_cases h1 : i < ps.length
  · have := q.2 i h1
    rw [List.getD_eq_getElem?_getD, List.getElem?_append_left (by rw [q.1]; exact h1), List.getD_eq_getElem?_getD, List.getElem?_append_left h1, ← List.getD_eq_getElem?_getD, ← List.getD_eq_getElem?_getD]
    exact this
  · have e : i = ps.length := by omega
    subst e
    rw [List.getD_eq_getElem?_getD, List.getD_eq_getElem?_getD, List.getElem?_append_right (by rw [q.1]; exact Nat.le_refl _), List.getElem?_append_right (Nat.le_refl _), q.1, Nat.sub_self]
    exact P
/-- texts that the model bears, with room -/
def TxtOk (n : Nat) (x : Str) : Prop := PyData.strOk x = true ∧ x.length ≤ n
theorem strOk_append {x y : Str} (hx : PyData.strOk x = true) (hy : PyData.strOk y = true) : PyData.strOk (x ++ y) = true := by
  show ((x.cps ++ y.cps).all _) = true
  rw [Array.all_append]
  exact Bool.and_eq_true_iff.mpr ⟨hx, hy⟩
theorem TxtOk.append {n k : Nat} {x y : Str} (a : TxtOk n x) (b : TxtOk k y) : TxtOk (n + k) (x ++ y) :=
  ⟨strOk_append a.1 b.1, by
    have e : (x ++ y).length = x.length + y.length := by show (x.cps ++ y.cps).size = _; rw [Array.size_append]; rfl
    rw [e]; exact Nat.add_le_add a.2 b.2⟩
theorem TxtOk.mono {n k : Nat} {x : Str} (a : TxtOk n x) (h : n ≤ k) : TxtOk k x := ⟨a.1, Nat.le_trans a.2 h⟩
theorem nms_ok : ∀ i, TxtOk 2 (nms.getD i (Str.ofString "")) := by
  intro i
  by_cases h : i < 6
  · have : i = 0 ∨ i = 1 ∨ i = 2 ∨ i = 3 ∨ i = 4 ∨ i = 5 := by omega
    rcases this with rfl | rfl | rfl | rfl | rfl | rfl <;> exact ⟨by decide +kernel, by decide +kernel⟩
  · have e : nms.getD i (Str.ofString "") = Str.ofString "" := by
      rw [List.getD_eq_getElem?_getD, List.getElem?_eq_none (by show 6 ≤ i; omega)]; rfl
    rw [e]; exact ⟨by decide +kernel, by decide +kernel⟩
theorem getD_ok {ps : List Pl} {k : Nat} (h : ∀ p ∈ ps, TxtOk k p.path) (i : Nat) : TxtOk k (ps.getD i p0).path := by
  by_cases hi : i < ps.length
  · rw [List.getD_eq_getElem?_getD, List.getElem?_eq_getElem hi]
    exact h _ (List.getElem_mem hi)
  · rw [List.getD_eq_getElem?_getD, List.getElem?_eq_none (Nat.le_of_not_lt hi)]
    exact ⟨by decide +kernel, by show (0 : Nat) ≤ k; omega⟩
theorem newPl_ok {ps : List Pl} {k : Nat} (h : ∀ p ∈ ps, TxtOk k p.path) (n : Int) : TxtOk (k + 3) (newPl ps n).path := by
  have a := getD_ok h (n.fmod ps.length).toNat
  have b := nms_ok ((n.fdiv ps.length).fmod 6).toNat
  have c : TxtOk 1 (Str.ofString "/") := ⟨by decide +kernel, by decide +kernel⟩
  exact (a.append c).append b
theorem stepP_cases (ps : List Pl) (n : Int) : stepP ps n = ps ∨ stepP ps n = ps ++ [newPl ps n] := by
  unfold stepP; split
  · exact .inl rfl
  · exact .inr rfl
theorem step_ok {ps : List Pl} {k : Nat} (h : ∀ p ∈ ps, TxtOk k p.path) (n : Int) : (∀ p ∈ stepP ps n, TxtOk (k + 3) p.path) ∧ ps.length ≤ (stepP ps n).length ∧ (stepP ps n).length ≤ ps.length + 1 := by
  rcases stepP_cases ps n with e | e <;> rw [e]
  · exact ⟨fun p hp => (h p hp).mono (by omega), Nat.le_refl _, Nat.le_succ _⟩
  · refine ⟨fun p hp => ?_, by simp, by simp⟩
    rcases List.mem_append.mp hp with hp | hp
    · exact (h p hp).mono (by omega)
    · rw [List.mem_singleton.mp hp]; exact newPl_ok h n
theorem fold_ok : ∀ (l : List Int) (ps : List Pl) (k : Nat), (∀ p ∈ ps, TxtOk k p.path) → (∀ p ∈ l.foldl stepP ps, TxtOk (k + 3 * l.length) p.path) ∧ ps.length ≤ (l.foldl stepP ps).length ∧ (l.foldl stepP ps).length ≤ ps.length + l.length
  | [], ps, k, h => ⟨h, Nat.le_refl _, Nat.le_refl _⟩
  | n :: l, ps, k, h => by
    obtain ⟨a, b, c⟩ := step_ok h n
    obtain ⟨a', b', c'⟩ := fold_ok l (stepP ps n) (k + 3) a
    rw [List.foldl_cons, List.length_cons]
    exact ⟨fun p hp => (a' p hp).mono (by omega), by omega, by omega⟩
theorem p0_ok : ∀ p ∈ [p0], TxtOk 0 p.path := fun p hp => by rw [List.mem_singleton.mp hp]; exact ⟨by decide +kernel, by decide +kernel⟩
theorem ints_get : ∀ {vs : List Value} {ns : List Int}, PyProof.Rows.IntsAre vs ns → ∀ j, j < ns.length → ∃ t, vs[j]? = some (.int (ns.getD j 0) t)
  | _, _, .nil, j, h => absurd h (Nat.not_lt_zero _)
  | _, _, .cons _ t r, 0, _ => ⟨t, rfl⟩
  | _, _, .cons _ _ r, j + 1, h => by
    obtain ⟨t, e⟩ := ints_get r j (Nat.lt_of_succ_lt_succ h)
    exact ⟨t, by simpa using e⟩
end Mine
end

section
open PySem PySem.W PyProof.Rows PySem.Calls PySem.Spec
namespace Mine
theorem item_at {w : World} {A : Around} {E : Value → Shared → Prop} {s : Shared} {value slice : PySem.Expr} {l : Addr} {vs : Array Value} {k : Int} {u : Tok} {v : Value} {Q : Value → Shared → Prop}
    (hl : s.heap.IsList l vs) (h0 : 0 ≤ k) (hhi : k < 2 ^ 63) (hx : vs[k.toNat]? = some v) (h : Q v s)
    (hs : subscripted slice false (.ref l) (.int k u) = operate [.ref l, .int k u] (getItem (.ref l) (.int k u)) := by with_unfolding_all rfl) :
    wpAny (model prog w) A (subscriptTail value slice (.ref l) (.int k u)) Q E s :=
  tail_any hl.typeIs slot_list_getitem.lookup (wpAny_getItem_list hl h0 hhi hx h) hs
theorem nms_item (t1 t2 t3 t4 t5 t6 : Tok) (q : Int) (h : 0 ≤ q ∧ q < 6) : ∃ t, (#[.str (Str.ofString "a") t1, .str (Str.ofString "ab") t2, .str (Str.ofString "b") t3, .str (Str.ofString "*") t4, .str (Str.ofString "..") t5, .str (Str.ofString "a{") t6] : Array Value)[q.toNat]? = some (.str (nms.getD q.toNat (Str.ofString "")) t) := by
  have : q = 0 ∨ q = 1 ∨ q = 2 ∨ q = 3 ∨ q = 4 ∨ q = 5 := by omega
  rcases this with rfl | rfl | rfl | rfl | rfl | rfl <;> exact ⟨_, rfl⟩
theorem filter_all {α : Type} (l : List α) : l.filter (fun _ => true) = l := by induction l with | nil => rfl | cons a l ih => simp
theorem paired_strs {h : Heap} {f : Nat → Str} : ∀ {l : List Nat} {ys : List Value}, Paired (fun j y => ∃ t, y = Value.str (f j) t) l ys → ∃ as, ReadsAll h ys (l.map fun j => PyData.str (f j)) as
  | _, _, .nil => ⟨_, .nil⟩
  | _, _, .cons ⟨t, e⟩ r => by
    subst e
    obtain ⟨as, z⟩ := paired_strs r
    exact ⟨_, .cons (.str _ _) z⟩
theorem canLay_strs {f : Nat → Str} (hf : ∀ j, PyData.strOk (f j) = true) : ∀ l : List Nat, PyData.canLayAll0 (l.map fun j => PyData.str (f j)) = true
  | [] => rfl
  | j :: l => by simp [PyData.canLayAll0, PyData.canLay0, hf j, canLay_strs hf l]
theorem depth_strs {f : Nat → Str} : ∀ l : List Nat, PyData.depthAll (l.map fun j => PyData.str (f j)) = 0
  | [] => rfl
  | j :: l => by simp [PyData.depthAll, PyData.depth, depth_strs l]
theorem any_strs {ps : List Pl} {x : Str} : (((List.range ps.length).map fun j => PyData.str (ps.getD j p0).path).any fun y => PyData.eqv y (.str x)) = (ps.map (·.path)).contains x := by
  have e : (List.range ps.length).map (fun j => PyData.str (ps.getD j p0).path) = (ps.map (·.path)).map PyData.str := by
    refine List.ext_getElem (by simp) fun i h1 h2 => ?_
    simp at h1
    simp [h1]
  rw [e, List.any_map]
  simp only [Function.comp_def, PyData.eqv]
  rw [List.contains_eq_any_beq]
  congr 1
  funext y
  exact Bool.eq_iff_iff.mpr ⟨fun z => by simpa using (beq_iff_eq.mp z).symm, fun z => by simpa using (beq_iff_eq.mp z).symm⟩
def StrPost (s : Shared) (h : Heap) (x : Str) (v : Value) (s' : Shared) : Prop := ∃ t tk', v = Value.str x t ∧ s' = { s with heap := h, toks := tk' }
/-- a list of the call's own -/
def IsPl (h : Heap) (a : Addr) (vs : List Value) : Prop := ∃ n, h.get? a = some ⟨.type "list", none, .seq vs.toArray n, #[]⟩
theorem IsPl.list {h : Heap} {a : Addr} {vs : List Value} (x : IsPl h a vs) : h.IsList a vs.toArray := let ⟨n, e⟩ := x; ⟨_, e, rfl, n, rfl⟩
theorem IsPl.move {h h' : Heap} {a : Addr} {vs : List Value} (x : IsPl h a vs) (k : ∀ o, h.get? a = some o → h'.get? a = some o) : IsPl h' a vs := let ⟨n, e⟩ := x; ⟨n, k _ e⟩
theorem append_pl {w : World} {A : Around} {E : Value → Shared → Prop} {s : Shared} {l : Addr} {vs : List Value} {x : Value} {Q : Value → Shared → Prop} (hl : IsPl s.heap l vs)
    (hQ : ∀ h', IsPl h' l (vs ++ [x]) → Heap.SameBut l s.heap h' → Q .none { s with heap := h' }) (hsz : vs.length ≤ sizeLine) :
    wpAny (model prog w) A (call (.builtin "list.append") [.ref l, x]) Q E s := by
  obtain ⟨n, ho⟩ := id hl
  refine wpAny_call_entry slot_list_append hl.list.typeIs entry_list_append ?_ (args_list_append _ _)
  show wpAny _ _ (updateSeq l (·.push x) >>= fun _ => ret .none) _ _ s
  refine wpAny_bind ?_
  refine wpAny_updateSeq (hz := by simpa using hsz) ho rfl (wpAny_pure ⟨.none, rfl, hQ _ ?_ (Heap.SameBut.update ..)⟩)
  have e : (vs ++ [x]).toArray = vs.toArray.push x := by simp
  unfold IsPl
  rw [e]
  exact ⟨_, Heap.get?_update_self (Obj.mapSeq fun xs => xs.push x) ho rfl⟩
theorem TabOk.but {h h' : Heap} {l : Addr} (T : TabOk h) (hx : ∃ o, h.get? l = some o ∧ ∀ fs, o.data ≠ .fields fs) (k : ∀ b o, b ≠ l → h.get? b = some o → h'.get? b = some o) : TabOk h' := by
  obtain ⟨ox, ex, dx⟩ := hx
  have ne : ∀ b o fs, h.get? b = some o → o.data = .fields fs → b ≠ l := fun b o fs e d q => by
    subst q; rw [ex] at e; cases e; exact dx _ d
  refine ⟨?_, ?_⟩
  · obtain ⟨ps, e, o, r⟩ := T.a
    refine ⟨ps, k _ _ (ne _ _ _ e rfl) e, o, fun pos v q => ?_⟩
    obtain ⟨c, a, b, z⟩ := r pos v q
    obtain ⟨c₂, o₂, vs₂, t₂, e₂, g₂, d₂, r₂⟩ := z
    cases e₂
    exact ⟨c, a, b, ⟨_, o₂, vs₂, t₂, rfl, k _ _ (ne _ _ _ g₂ d₂) g₂, d₂, r₂⟩⟩
  · obtain ⟨qs, e, r⟩ := T.b
    exact ⟨qs, k _ _ (ne _ _ _ e rfl) e, r⟩
theorem PlaceAt.butList {av : Addr → Prop} {h h' : Heap} {l : Addr} {vs : Array Value} {v : Value} {i : Int} {p : Pl} (q : PlaceAt av h v i p) (hl : h.IsList l vs) (k : ∀ b o, b ≠ l → h.get? b = some o → h'.get? b = some o) : PlaceAt av h' v i p := by
  obtain ⟨a, d, fd, m, t1, t2, t3, tv, e0, e1, e2, ⟨o, es, ep, e, de, rr⟩, r⟩ := q
  obtain ⟨ol, el, cl, n, dl⟩ := hl
  refine ⟨a, d, fd, m, t1, t2, t3, tv, e0, e1, k _ _ (fun z => ?_) e2, ⟨o, es, ep, k _ _ (fun z => ?_) e, de, rr⟩, r⟩
  · subst z; rw [el] at e2; cases e2; cases dl
  · subst z; rw [el] at e; cases e; rw [de] at dl; cases dl
theorem PlaceAt.but {av : Addr → Prop} {h h' : Heap} {l : Addr} {v : Value} {i : Int} {p : Pl} (q : PlaceAt av h v i p) (hl : ∃ o, h.get? l = some o ∧ (∀ f, o.data ≠ .func f) ∧ ∀ es n, o.data ≠ .dict es n) (k : ∀ b o, b ≠ l → h.get? b = some o → h'.get? b = some o) : PlaceAt av h' v i p := by
  obtain ⟨a, d, fd, m, t1, t2, t3, tv, e0, e1, e2, ⟨o, es, ep, e, de, rr⟩, r⟩ := q
  obtain ⟨ol, el, c1, c2⟩ := hl
  refine ⟨a, d, fd, m, t1, t2, t3, tv, e0, e1, k _ _ (fun z => ?_) e2, ⟨o, es, ep, k _ _ (fun z => ?_) e, de, rr⟩, r⟩
  · subst z; rw [el] at e2; cases e2; exact c1 _ rfl
  · subst z; rw [el] at e; cases e; exact c2 _ _ de
theorem PlacesAt.but {av : Addr → Prop} {h h' : Heap} {l : Addr} {vs : List Value} {ps : List Pl} (q : PlacesAt av h vs ps) (hl : ∃ o, h.get? l = some o ∧ (∀ f, o.data ≠ .func f) ∧ ∀ es n, o.data ≠ .dict es n) (k : ∀ b o, b ≠ l → h.get? b = some o → h'.get? b = some o) : PlacesAt av h' vs ps :=
  ⟨q.1, fun i hi => (q.2 i hi).but hl k⟩
theorem PlacesAt.butList {av : Addr → Prop} {h h' : Heap} {l : Addr} {us : Array Value} {vs : List Value} {ps : List Pl} (q : PlacesAt av h vs ps) (hl : h.IsList l us) (k : ∀ b o, b ≠ l → h.get? b = some o → h'.get? b = some o) : PlacesAt av h' vs ps :=
  ⟨q.1, fun i hi => (q.2 i hi).butList hl k⟩
theorem take_fold {al : List Int} {j : Nat} (h : j < al.length) : (al.take (j + 1)).foldl stepP [p0] = stepP ((al.take j).foldl stepP [p0]) (al.getD j 0) := by
  rw [List.take_succ, List.foldl_append, List.getElem?_eq_getElem h, List.getD_eq_getElem?_getD, List.getElem?_eq_getElem h]
  rfl
/-- all that stands in h beside the base h₀ and the frame L -/
def allN (h₀ : Heap) (L : Addr) (h : Heap) : List (Addr × Obj) :=
  (List.range h.objs.size).filterMap fun a => if a = L ∨ (h₀.get? a).isSome = true then none else (h.get? a).map fun o => (a, o)
theorem mem_allN {h₀ h : Heap} {L a : Addr} {o : Obj} (e : h.get? a = some o) (hL : a ≠ L) (h0 : h₀.get? a = none) : (a, o) ∈ allN h₀ L h := by
  refine List.mem_filterMap.mpr ⟨a, List.mem_range.mpr (Heap.lt_size e), ?_⟩
  rw [if_neg (by rw [h0]; simp [hL]), e]
  rfl
theorem N_all {h₀ h : Heap} {L : Addr} : News h₀ L h (allN h₀ L h) := by
  intro p hp
  obtain ⟨a, _, e⟩ := List.mem_filterMap.mp hp
  split at e
  · cases e
  · rename_i hn
    obtain ⟨o, ho, rfl⟩ := Option.map_eq_some_iff.mp e
    refine ⟨ho, fun q => hn (.inl q), ?_⟩
    cases q : h₀.get? a with
    | none => rfl
    | some x => exact (hn (.inr (by rw [q]; rfl))).elim
/-- all but the frame L stays -/
def Ln (L : Addr) (h h' : Heap) : Prop := ∀ b o, b ≠ L → h.get? b = some o → h'.get? b = some o
theorem Ln.refl (L : Addr) (h : Heap) : Ln L h h := fun _ _ _ e => e
theorem Ln.trans {L : Addr} {h h' h'' : Heap} (x : Ln L h h') (y : Ln L h' h'') : Ln L h h'' := fun b o n e => y b o n (x b o n e)
theorem Ext.ln {L : Addr} {h h' : Heap} (x : Ext h h') : Ln L h h' := fun b o _ e => x b o e
theorem Ln_of {h₀ h h' : Heap} {L : Addr} {m' : Str → Option Value} {news : List (Addr × Obj)} (F : Ext h₀ h) (F' : Fr h₀ L h' m') (N' : News h₀ L h' news) (hs : ∀ p ∈ allN h₀ L h, p ∈ news) : Ln L h h' := fun b o n e => by
  cases q : h₀.get? b with
  | none => exact (N' _ (hs _ (mem_allN e n q))).1
  | some x =>
    have z := F b x q
    rw [e] at z
    cases z
    exact F'.keep b o q
theorem TabOk.ln {h h' : Heap} {L : Addr} {m : Str → Option Value} (T : TabOk h) (n : h.Ns L m) (x : Ln L h h') : TabOk h' :=
  T.but (let ⟨o, es, ep, e, d, _⟩ := n; ⟨o, e, fun fs q => by rw [d] at q; cases q⟩) x
theorem Ln.list {L : Addr} {h h' : Heap} (x : Ln L h h') {a : Addr} {vs : Array Value} (n : h.IsList a vs) (hL : a ≠ L) : h'.IsList a vs :=
  let ⟨o, e, r⟩ := n; ⟨o, x a o hL e, r⟩

end Mine
end

section
open PySem PySem.W PyProof.Rows PySem.Calls PySem.Spec
namespace Mine
abbrev g8 (h : Heap) : Heap := hideAll h [80]
theorem g8_get {h : Heap} {b : Addr} {o : Obj} (e : (g8 h).get? b = some o) : h.get? b = some o ∧ b ≠ 80 := by
  refine ⟨of_hideAll _ e, fun q => ?_⟩
  subst q; rw [hideAll_none [80] (.head _)] at e; cases e
theorem g8_in {h : Heap} {b : Addr} {o : Obj} (e : h.get? b = some o) (h2 : b ≠ 80) : (g8 h).get? b = some o :=
  hideAll_get _ e (by simp [h2])
theorem Tab80.ne {h : Heap} (T : Tab80 h) {b : Addr} {o : Obj} (e : h.get? b = some o) (p : plainO o = true) : b ≠ 80 := by
  obtain ⟨qs, e2, _⟩ := T
  intro q
  subst q; rw [e2] at e; cases e; cases p
theorem g8_plain {h : Heap} (T : Tab80 h) {b : Addr} {o : Obj} (e : h.get? b = some o) (p : plainO o = true) : (g8 h).get? b = some o := g8_in e (T.ne e p)
theorem k80_of_g8 {h h' : Heap} (x : Ext (g8 h) h') : K80 h h' := fun b o e n => x b o (g8_in e n)
theorem g8_inK {w : World} {h : Heap} (T : Tab80 h) (X : (KK w).In h) : (KK w).In (g8 h) := fun a o e => g8_plain T (X a o e) (KK_plain w a o e)
theorem frG8 {h h₁ : Heap} {L : Addr} {m : Str → Option Value} (F : Fr h L h₁ m) : Fr (g8 h) L h₁ m :=
  ⟨F.ns, fun b o e => F.keep b o (g8_get e).1, by rw [hideAll_size]; exact F.above⟩
theorem frK8 {h₀ h h' : Heap} {L : Addr} {m : Str → Option Value} (F : Fr (g8 h₀) L h m) (hL : L ≠ 80) (k : K80 h h') : Fr (g8 h₀) L h' m :=
  ⟨let ⟨o, es, ep, e, r⟩ := F.ns; ⟨o, es, ep, k _ _ e hL, r⟩, fun b o e => k b o (F.keep b o e) (g8_get e).2, F.above⟩
theorem names_item {w : World} {A : Around} {E : Value → Shared → Prop} {s : Shared} {value slice : PySem.Expr} {D : Addr} {q : Int} {u t1 t2 t3 t4 t5 t6 : Tok} {n : Nat} {Q : Value → Shared → Prop}
    (hD : s.heap.get? D = some ⟨.type "list", none, .seq #[.str (Str.ofString "a") t1, .str (Str.ofString "ab") t2, .str (Str.ofString "b") t3, .str (Str.ofString "*") t4, .str (Str.ofString "..") t5, .str (Str.ofString "a{") t6] n, #[]⟩) (hq : 0 ≤ q ∧ q < 6)
    (h : ∀ t, Q (.str (nms.getD q.toNat (Str.ofString "")) t) s)
    (hs : subscripted slice false (.ref D) (.int q u) = operate [.ref D, .int q u] (getItem (.ref D) (.int q u)) := by with_unfolding_all rfl) :
    wpAny (model prog w) A (subscriptTail value slice (.ref D) (.int q u)) Q E s := by
  obtain ⟨t8, hx8⟩ := nms_item t1 t2 t3 t4 t5 t6 q hq
  exact item_at ⟨_, hD, rfl, _, rfl⟩ hq.1 (by omega) hx8 (h t8) hs
theorem Tab80.mv {h h' : Heap} (T : Tab80 h) (k : ∀ o, h.get? 80 = some o → h'.get? 80 = some o) : Tab80 h' := let ⟨qs, e, r⟩ := T; ⟨qs, k _ e, r⟩
set_option maxHeartbeats 0 in
theorem places0 {w : World} {mean : ExcName → Option Value} {mg mb : Str → Option Value} {lo : List Str} (s : Shared) (X : (KK w).In s.heap) (B : Bm s.heap) (T : Tab80 s.heap) (TT : Top topProg lo mean mg mb (g8 s.heap)) (nl : Addr) (vs : List Value) (ns : List Int)
   (R : Result → Shared → Prop) (hl : s.heap.IsList nl vs.toArray) (hi : IntsAre vs ns) (hn : ns.length ≤ 4)
   (hR : ∀ pl pvs h' tk', K80 s.heap h' → Tab80 h' → IsPl h' pl pvs → s.heap.get? pl = none → PlacesAt (fun b => s.heap.get? b = none) h' pvs (buildP ns) → R (.ok (.ret (.ref pl))) { s with heap := h', toks := tk' })
    : codeAny (model prog w) (AB 500 1500) (.call (.ref 90) ⟨[.ref nl], []⟩) R s := by
   have hlim := noLimit X
   have X0 := X
   have XG := g8_inK T X
   revert X XG
   dsimp only [prog, KK]
   k_fill
   intro X XG
   refine' enter (K := TP.heap_39 w.params) [(Str.ofString "numbers", .ref nl)] X hlim ?ho ?hcd (by decide) ?hbind ?hloc ?h ?c2 ?c3 ?c4 ?c5
   case ho => k_is
   case hcd => k_is
   case hbind => exact BindsTo.of_eq rfl
   case hloc => exact locs rfl
   case c2 => exact rfl
   case c3 => exact rfl
   case c4 => exact rfl
   case c5 => decide
   intro L h' tk hL F
   have hL80 : L ≠ 80 := by obtain ⟨qs, e, _⟩ := T; rw [hL]; exact Nat.ne_of_gt (Heap.lt_size e)
   have F := frG8 F
   have hlG : (g8 s.heap).IsList nl vs.toArray := let ⟨o, e, c, r⟩ := hl; ⟨o, g8_plain T e (by unfold plainO; rw [c]), c, r⟩
   have BG : Bm (g8 s.heap) := let ⟨sl, e⟩ := B; ⟨sl, g8_plain T e rfl⟩
   have N : News (g8 s.heap) L h' [] := News.nil
   have E1 : Ext s.heap h' := by rename Fr s.heap _ _ _ => F0; exact F0.keep
   repeat' walk1
   have X1 : (KK w).In h' := E1.keep.inK X0
   have T1 : Tab80 h' := T.mv (E1 _)
   have B1 : Bm h' := E1.keep.bm B
   refine' place (p := ⟨-1, Str.ofString "", none⟩) ?f X1 B1 T1 rfl ?_
   case f => exact ⟨rfl, Nat.le_of_ble_eq_true rfl, Nat.le_of_ble_eq_true rfl⟩
   intro v h2 tk2 K2 T2 P2
   have F2 := frK8 F hL80 K2
   have N2 : News (g8 s.heap) L h2 (allN (g8 s.heap) L h2) := N_all
   have G2 : Ext (g8 s.heap) h2 := F2.keep
   have PP2 : PlaceAt (fun b => s.heap.get? b = none ∧ b ≠ L) h2 v 0 p0 := by
     refine P2.mono fun b hb => ⟨?_, fun q => ?_⟩
     · cases z : s.heap.get? b with
       | none => rfl
       | some o =>
         have z2 := E1 b o z
         rw [hb] at z2
         cases z2
     · subst q
       obtain ⟨o, es, ep, e, _⟩ := F.ns
       rw [hb] at e
       cases e
   clear N F E1
   repeat' ((fail_if_success (with_reducible show wpAny _ _ (exec (Stmt.For _ _ _ _ _) _) _ _ _)); walk1)
   refine wpAny_For ?_
   repeat' walk1
   rename Fr (g8 s.heap) L _ _ => F3
   rename News (g8 s.heap) L _ _ => N3
   rename IntsAre _ (_ ++ _) => HI
   rename_i pl _ _ _ _ _ _ D ws h3 _
   have L3 : Ln L h2 h3 := Ln_of G2 F3 N3 (fun p hp => .tail _ (.tail _ (.tail _ hp)))
   have hD3 : h3.IsList D ws.toArray := ⟨_, (N3 _ (.head _)).1, rfl, _, rfl⟩
   have hp3 : IsPl h3 pl [v] := ⟨_, (N3 _ (.tail _ (.tail _ (.head _)))).1⟩
   have hDL : D ≠ L := (N3 _ (.head _)).2.1
   have hpL : pl ≠ L := (N3 _ (.tail _ (.tail _ (.head _)))).2.1
   have hpD : pl ≠ D := Nat.ne_of_lt (by rename _ < D ∧ pl < D ∧ _ => z; exact z.2.1)
   have hG : Ext (g8 s.heap) h3 := F3.keep
   have hplB : (g8 s.heap).get? pl = none := (N3 _ (.tail _ (.tail _ (.head _)))).2.2
   have hLlt : L < h3.objs.size := F3.ns.lt
   have T3 : Tab80 h3 := T2.mv fun o e => L3 _ _ (Ne.symm hL80) e
   have P3 : PlacesAt (fun b => s.heap.get? b = none ∧ b ≠ L) h3 [v] [p0] := ⟨rfl, fun i hi => by
     have : i = 0 := by simpa using hi
     subst this
     exact PP2.move fun b o av e => L3 b o av.2 e⟩
   refine wpAny_pyIter_list hD3 ?_
   generalize hH4 : h3.push { cls := .type "list_iterator", data := .fields #[.ref D, .int 0 0] } = h4
   have E4 : Ext h3 h4 := fun b o e => hH4 ▸ Heap.get?_push_of_some _ e
   have hit4 : h4.IsListIter h3.objs.size D 0 := ⟨_, hH4 ▸ Heap.get?_push_size _ rfl, rfl, rfl⟩
   have hIL : h3.objs.size ≠ L := Nat.ne_of_gt hLlt
   have hID : D ≠ h3.objs.size := Nat.ne_of_lt (Heap.lt_size (N3 _ (.head _)).1)
   have h80L : 80 < L := by obtain ⟨qs, e, _⟩ := T; rw [hL]; exact Heap.lt_size e
   have h80p : 80 < pl := by
     rename ∀ p, p ∈ allN _ _ _ → p.fst < pl => hA
     obtain ⟨qs, e, _⟩ := T2
     exact hA _ (mem_allN e (Ne.symm hL80) (hideAll_none [80] (.head _)))
   have h80D : 80 < D := Nat.lt_trans h80p (by rename _ < D ∧ pl < D ∧ _ => z; exact z.2.1)
   have hpl0 : s.heap.get? pl = none := by
     cases z : s.heap.get? pl with
     | none => rfl
     | some o =>
       have z2 := g8_in z (Nat.ne_of_gt h80p)
       rw [hplB] at z2
       cases z2
   have h80I : 80 < h3.objs.size := Nat.lt_trans h80L hLlt
   have hIp : pl ≠ h3.objs.size := Nat.ne_of_lt (Heap.lt_size (N3 _ (.tail _ (.tail _ (.head _)))).1)
   clear P2 PP2 T2 K2 X1 T1 B1 L3
   have F4 : Fr (g8 s.heap) L h4 (fun y => if y = Str.ofString "places" then some (Value.ref pl) else List.lookup y [(Str.ofString "numbers", Value.ref nl)].reverse) := ⟨F3.ns.keeps E4, fun b o e => E4 b o (F3.keep b o e), F3.above⟩
   have T4 := T3.mv (E4 _)
   have P4 : PlacesAt (fun b => s.heap.get? b = none ∧ b ≠ L) h4 [v] [p0] := E4.keep.places P3
   have hD4 : h4.IsList D ws.toArray := E4.keep.list hD3
   have hp4 : IsPl h4 pl [v] := hp3.move (E4 _)
   clear F3 N3 T3 P3 hD3 hp3 hG E4 hH4
   generalize hII : h3.objs.size = I at *
   generalize hall : ([0, 2, 7, 2] ++ ns : List Int) = al at HI
   dsimp only
   refine codeAny_forLoop (fun k s' => ∃ h tk m pvs j, s' = { s with heap := h, toks := tk } ∧ Fr (g8 s.heap) L h m ∧ m (Str.ofString "places") = some (.ref pl) ∧ h.IsListIter I D j ∧ h.IsList D ws.toArray ∧ IsPl h pl pvs ∧
      PlacesAt (fun b => s.heap.get? b = none ∧ b ≠ L) h pvs ((al.take j).foldl stepP [p0]) ∧ Tab80 h ∧ j ≤ al.length ∧ k = al.length + 1 - j) ?turn (al.length + 1) ?start
   case start => exact ⟨h4, _, _, [v], 0, rfl, F4, rfl, hit4, hD4, hp4, P4, T4, Nat.zero_le _, rfl⟩
   clear F4 T4 P4 hD4 hp4 hit4
   rintro k s' ⟨h, tk0, m, pvs, j, rfl, F, hm, hit, hD, hp, P, T', hj, rfl⟩
   by_cases hlt : j < al.length
   case neg =>
     have hjl : j = al.length := by omega
     subst hjl
     refine wpAny_pyNext_list_end rfl hit hD (by rw [List.getElem?_toArray]; exact List.getElem?_eq_none (by rw [HI.length]; exact Nat.le_refl _)) fun h5 he => ?_
     have em : m = fun x => if x = Str.ofString "places" then some (Value.ref pl) else m x := by
       funext x
       by_cases h1 : x = Str.ofString "places"
       · subst h1; rw [hm]; rfl
       · rw [if_neg h1]
     have ns5 := F.ns.extBut he (Ne.symm hIL)
     rw [em] at ns5
     have F5 : Fr (g8 s.heap) L h5 _ := ⟨ns5, fun b o e => he b o (Nat.ne_of_lt (Nat.lt_trans (Nat.lt_of_lt_of_le (Heap.lt_size e) F.above) hLlt)) (F.keep b o e), F.above⟩
     have N5 : News (g8 s.heap) L h5 [] := News.nil
     have hp5 : IsPl h5 pl pvs := hp.move fun o e => he _ _ hIp e
     have P5 := P.but (h' := h5) (l := I) (let ⟨o, e, c, d⟩ := hit; ⟨o, e, (fun f q => by rw [d] at q; cases q), (fun es n q => by rw [d] at q; cases q)⟩) he
     have T5 : Tab80 h5 := T'.mv fun o e => he _ _ (Nat.ne_of_lt h80I) e
     have G5 := F5.keep
     clear F em ns5
     repeat' walk1
     rw [List.take_of_length_le (Nat.le_refl _), ← hall] at P5
     exact hR _ pvs h5 _ (k80_of_g8 G5) T5 hp5 hpl0 (P5.mono fun b hb => hb.1)
   obtain ⟨t0, hv⟩ : ∃ t0, ws.toArray[j]? = some (.int (al.getD j 0) t0) := by
     obtain ⟨t, e⟩ := ints_get HI j hlt
     exact ⟨t, by rw [List.getElem?_toArray]; exact e⟩
   refine wpAny_pyNext_list_item hit hD hv fun h5 hit5 hs5 => ?_
   refine wpAny_assign_Name (wpAny_storeName_local rfl (F.ns.sameBut hs5 (Ne.symm hIL)) (fun h6 hn6 hs6 => ?_) rfl)
   have k6 : ∀ b o, b ≠ L → b ≠ I → h.get? b = some o → h6.get? b = some o := fun b o h1 h2 e => hs6.extBut b o h1 (hs5.extBut b o h2 e)
   have em : (fun x => if x = Str.ofString "n" then some (Value.int (al.getD j 0) t0) else m x) = fun x => if x = Str.ofString "n" then some (Value.int (al.getD j 0) t0) else if x = Str.ofString "places" then some (Value.ref pl) else m x := by
     funext x
     by_cases h1 : x = Str.ofString "places"
     · subst h1; rw [hm]; rfl
     · rw [if_neg h1]
   rw [em] at hn6
   have F6 : Fr (g8 s.heap) L h6 _ := ⟨hn6, fun b o e => k6 b o (Nat.ne_of_lt (Nat.lt_of_lt_of_le (Heap.lt_size e) F.above)) (Nat.ne_of_lt (Nat.lt_trans (Nat.lt_of_lt_of_le (Heap.lt_size e) F.above) hLlt)) (F.keep b o e), F.above⟩
   have hp6 : IsPl h6 pl pvs := hp.move fun o e => k6 _ o hpL hIp e
   have hD6 : h6.IsList D ws.toArray := let ⟨o, e, r⟩ := hD; ⟨o, k6 _ o hDL hID e, r⟩
   have hit6 : h6.IsListIter I D (j + 1) := hit5.extBut hs6.extBut hIL
   have P6 : PlacesAt (fun b => s.heap.get? b = none ∧ b ≠ L) h6 pvs ((al.take j).foldl stepP [p0]) :=
     (P.but (h' := h5) (l := I) (let ⟨o, e, c, d⟩ := hit; ⟨o, e, (fun f q => by rw [d] at q; cases q), (fun es n q => by rw [d] at q; cases q)⟩) hs5.extBut).move fun b o av e => hs6.extBut b o av.2 e
   have T6 : Tab80 h6 := T'.mv fun o e => k6 _ _ (Ne.symm hL80) (Nat.ne_of_lt h80I) e
   clear em hn6 k6 hs6 hs5 hit5 hp hD hit P T' F
   have N6 : News (g8 s.heap) L h6 (allN (g8 s.heap) L h6) := N_all
   have G6 : Ext (g8 s.heap) h6 := F6.keep
   have ns6 : ∃ m, h6.Ns L m := ⟨_, F6.ns⟩
   repeat' walk1
   have hlen : pvs.length = ((al.take j).foldl stepP [p0]).length := P6.1
   have hal8 : al.length ≤ 8 := by rw [← hall, List.length_append]; simp; omega
   have hfo := fold_ok (al.take j) [p0] 0 p0_ok
   have htl : (al.take j).length ≤ 8 := by rw [List.length_take]; omega
   have hfl : 1 ≤ pvs.length ∧ pvs.length ≤ 9 := by
     rw [hlen]
     exact ⟨hfo.2.1, Nat.le_trans hfo.2.2 (by show 1 + _ ≤ 9; omega)⟩
   refine len_list hp6.list (by simp; omega) ?_
   rw [List.size_toArray]
   have hne : (pvs.length : Int) ≠ 0 := by omega
   repeat' ((fail_if_success (with_reducible show wpAny _ _ (subscriptTail _ _ _ _) _ _ _)); walk1)
   rename Fr (g8 s.heap) L _ _ => F7
   rename News (g8 s.heap) L _ _ => N7
   have L7 := Ln_of G6 F7 N7 (fun p hp => hp)
   generalize hn0 : al.getD j 0 = n0 at *
   generalize hkk : n0.fmod ↑pvs.length = kk at *
   have hk0 : 0 ≤ kk ∧ kk < pvs.length := by
     rw [← hkk]; exact ⟨Int.fmod_nonneg_of_pos _ (by omega), Int.fmod_lt_of_pos _ (by omega)⟩
   have hx7 : (List.toArray pvs)[kk.toNat]? = some (pvs.getD kk.toNat .none) := by
     rw [List.getElem?_toArray, List.getD_eq_getElem?_getD, List.getElem?_eq_getElem (by omega)]; rfl
   have G7 := F7.keep
   refine item_at (L7.list hp6.list hpL) hk0.1 (by omega) hx7 ?_
   clear N7
   rename Heap => h7
   have N7 : News (g8 s.heap) L h7 (allN (g8 s.heap) L h7) := N_all
   repeat' ((fail_if_success (with_reducible show wpAny _ _ (subscriptTail _ _ _ _) _ _ _)); walk1)
   have P7 := P6.move (h' := h7) (fun b o av e => L7 b o av.2 e)
   rename Fr (g8 s.heap) L _ _ => F8
   rename News (g8 s.heap) L _ _ => N8
   have L8 := Ln_of G7 F8 N8 (fun p hp => .tail _ hp)
   have hq0 : 0 ≤ (n0.fdiv ↑pvs.length).fmod 6 ∧ (n0.fdiv ↑pvs.length).fmod 6 < 6 := ⟨Int.fmod_nonneg_of_pos _ (by omega), Int.fmod_lt_of_pos _ (by omega)⟩
   refine names_item (N8 _ (.head _)).1 hq0 fun t8 => ?_
   have G8 := F8.keep
   clear N8
   rename Heap => h8
   have P8 := P7.move (h' := h8) (fun b o av e => L8 b o av.2 e)
   have N8 : News (g8 s.heap) L h8 (allN (g8 s.heap) L h8) := N_all
   repeat' walk1
   rename Fr (g8 s.heap) L _ _ => F9
   rename News (g8 s.heap) L _ _ => N9
   have L9 := Ln_of G8 F9 N9 (fun p hp => hp)
   have G9 := F9.keep
   rename Heap => h9
   have P9 := P8.move (h' := h9) (fun b o av e => L9 b o av.2 e)
   generalize hps : (al.take j).foldl stepP [p0] = ps at *
   generalize hov : ps.getD kk.toNat p0 = ov at *
   generalize hnm : nms.getD ((n0.fdiv ↑pvs.length).fmod 6).toNat (Str.ofString "") = nm at *
   have hpsok : ∀ j, TxtOk 100 (ps.getD j p0).path := fun j => getD_ok (fun p hp => (hfo.1 p hp).mono (by omega)) j
   have hovl : ov.path.length ≤ 100 := (hov ▸ hpsok _).2
   have hnml : nm.length ≤ 2 := hnm ▸ (nms_ok _).2
   have PO := P9.2 kk.toNat (by omega)
   rw [hov] at PO
   refine at_path PO fun tp => ?_
   clear N9
   have N9 : News (g8 s.heap) L h9 (allN (g8 s.heap) L h9) := N_all
   repeat' ((fail_if_success (with_reducible show wpAny _ _ (eval (Expr.ListComp _ _ _ _) _) _ _ _)); walk1)
   rename Fr (g8 s.heap) L _ _ => F10
   rename News (g8 s.heap) L _ _ => N10
   have L10 := Ln_of G9 F10 N10 (fun p hp => hp)
   have G10 := F10.keep
   rename Heap => h10
   have P10 := P9.move (h' := h10) (fun b o av e => L10 b o av.2 e)
   have L610 : Ln L h6 h10 := ((L7.trans L8).trans L9).trans L10
   have hp10 : h10.IsList pl (List.toArray pvs) := L610.list hp6.list hpL
   refine comp_list (cl := []) rfl (closureFor_none (by decide +kernel)) rfl (by decide +kernel) (by decide +kernel) (by decide +kernel) ?_ (fun _ => rfl)
   walk1
   refine ⟨pl, List.toArray pvs, fun _ => true, fun j y => ∃ t, y = Value.str (ps.getD j p0).path t, rfl, hp10, by rw [List.size_toArray]; exact Nat.le_trans hfl.2 (by decide), ?_, ?_⟩
   · intro C jj s₂ mm hjj hext hC hns hmx
     refine ifs_nil ⟨rfl, keeps_refl _, fun _ => ?_⟩
     refine Attribute_Name_ (wpAny_Name (wpAny_loadName_local rfl rfl hns hmx ?_) (by decide)) rfl
     have PJ := P10.2 jj (by rw [List.size_toArray] at hjj; omega)
     have e : (List.toArray pvs).getD jj Value.none = pvs.getD jj .none := by simp
     rw [e]
     refine at_path (Keep.place (Ext.keep hext) PJ) fun t => ⟨⟨t, rfl⟩, _, _, rfl, fun _ _ e => e⟩
   · intro D2 h11 tk11 ys hfr hD2 hpair hext
     have F11 : Fr (g8 s.heap) L h11 _ := ⟨F10.ns.keeps hext, fun b o e => hext b o (F10.keep b o e), F10.above⟩
     have P11 := Keep.places (Ext.keep hext) P10
     have L611 : Ln L h6 h11 := L610.trans hext.ln
     have G11 := F11.keep
     have hnok : TxtOk 2 nm := hnm ▸ nms_ok _
     have hovok : TxtOk 100 ov.path := hov ▸ hpsok _
     obtain ⟨oD, eD, cD, nD, dD⟩ := hD2
     rw [List.size_toArray, P10.1, filter_all] at hpair
     obtain ⟨as, hra⟩ := paired_strs (h := h11) hpair
     have hpok : PyData.strOk (ov.path ++ Str.ofString "/" ++ nm) = true := strOk_append (strOk_append hovok.1 (by decide +kernel)) hnok.1
     refine PySem.SeqAt.notIn_list_reads (.list eD cD dD hra) (.str _ _) (canLay_strs (fun j => (hpsok j).1) _) hpok (by rw [depth_strs]; exact Nat.le_of_ble_eq_true rfl) ?_
     rw [any_strs]
     clear F10 N10 hpair hra P10 hp10
     have N11 : News (g8 s.heap) L h11 (allN (g8 s.heap) L h11) := N_all
     walk1
     refine split_bool ?_ ?_ <;> intro hin
     · walk1
       walk1
       refine wpAny_mono (Q := StrPost s h11 (if ov.path.length = 0 then nm else Str.ofString "{" ++ ov.path ++ Str.ofString "}" ++ nm)) (E := fun _ _ => False) ?ev (fun v9 s9 hv9 => ?_) (fun _ _ z => False.elim z)
       case ev =>
         have PO11 := P11.2 kk.toNat (by omega)
         rw [hov] at PO11
         repeat' walk1
         refine at_path PO11 fun tp2 => ?_
         repeat' walk1
         · rename ¬ ((ov.path.length : Int) = 0) => hz
           rw [if_neg (by omega)]
           refine at_path PO11 fun tp3 => ?_
           repeat' walk1
           exact ⟨_, _, rfl, rfl⟩
         · rename (ov.path.length : Int) = 0 => hz
           rw [if_pos (by omega)]
           exact ⟨_, _, rfl, rfl⟩
       obtain ⟨t9, tk9, rfl, rfl⟩ := hv9
       have N11 : News (g8 s.heap) L h11 (allN (g8 s.heap) L h11) := N_all
       repeat' walk1
       rename Fr (g8 s.heap) L _ _ => F12
       rename News (g8 s.heap) L _ _ => N12
       have L12 := Ln_of G11 F12 N12 (fun p hp => hp)
       have G12 := F12.keep
       rename Heap => h12
       have P12 := P11.move (h' := h12) (fun b o av e => L12 b o av.2 e)
       have L612 := L611.trans L12
       have hp12 : IsPl h12 pl pvs := hp6.move fun o e => L612 _ o hpL e
       obtain ⟨n12, ep12⟩ := id hp12
       refine getMethod_list_append ep12 rfl rfl ?_
       clear N12
       have N12 : News (g8 s.heap) L h12 (allN (g8 s.heap) L h12) := N_all
       have PO12 := P12.2 kk.toNat (by omega)
       rw [hov] at PO12
       repeat' walk1
       refine at_number PO12 fun tn => ?_
       repeat' walk1
       have T12 : Tab80 h12 := T6.mv fun o e => L612 _ _ (Ne.symm hL80) e
       have X12 : (KK w).In h12 := fun a o e => G12 a o (XG a o e)
       have B12 : Bm h12 := let ⟨sl, e⟩ := BG; ⟨sl, G12 _ _ e⟩
       refine' place (p := ⟨(kk.toNat : Int), ov.path ++ Str.ofString "/" ++ nm, some (if ov.path.length = 0 then nm else Str.ofString "{" ++ ov.path ++ Str.ofString "}" ++ nm)⟩) ?fit13 X12 B12 T12 ⟨_, rfl⟩ ?_
       case fit13 => exact ⟨rfl, Nat.le_of_ble_eq_true rfl, Nat.le_of_ble_eq_true rfl⟩
       intro v13 h13 tk13 K13 T13 P13
       have F13 := frK8 F12 hL80 K13
       have K13' : ∀ b o, 80 < b → h12.get? b = some o → h13.get? b = some o := fun b o n e => K13 b o e (Nat.ne_of_gt n)
       have hp13 : IsPl h13 pl pvs := hp12.move fun o e => K13' _ _ h80p e
       have PS13 : PlacesAt (fun b => s.heap.get? b = none ∧ b ≠ L) h13 pvs ps := P12.move fun b o av e => K13 b o e (fun q => by subst q; obtain ⟨qs, z, _⟩ := T; rw [z] at av; cases av.1)
       have hD13 : h13.IsList D ws.toArray := let ⟨o, e, r⟩ := L612.list hD6 hDL; ⟨o, K13' _ _ h80D e, r⟩
       have hit13 : h13.IsListIter I D (j + 1) := by
         obtain ⟨o, e, c, r⟩ := hit6
         exact ⟨o, K13' _ _ h80I (L612 _ _ hIL e), c, r⟩
       clear N12
       have N13 : News (g8 s.heap) L h13 (allN (g8 s.heap) L h13) := N_all
       walk1
       refine append_pl hp13 (fun h14 hp14 hs14 => ?_) (Nat.le_trans hfl.2 (by decide))
       have kp : ∀ b o, b ≠ pl → h13.get? b = some o → h14.get? b = some o := hs14.extBut
       repeat' ((fail_if_success (with_reducible show ∃ _, _)); walk1)
       have F14 : Fr (g8 s.heap) L h14 _ := ⟨F13.ns.sameBut hs14 (Ne.symm hpL), fun b o e => kp b o (fun q => by subst q; rw [hplB] at e; cases e) (F13.keep b o e), F13.above⟩
       have hnew : newPl ps n0 = ⟨(kk.toNat : Int), ov.path ++ Str.ofString "/" ++ nm, some (if ov.path.length = 0 then nm else Str.ofString "{" ++ ov.path ++ Str.ofString "}" ++ nm)⟩ := by
         unfold newPl
         simp only [← hlen, hkk, hov, hnm]
         rw [Int.toNat_of_nonneg hk0.1]
       have P14 : PlacesAt (fun b => s.heap.get? b = none ∧ b ≠ L) h14 (pvs ++ [v13]) (ps ++ [newPl ps n0]) := by
         refine (PlacesAt.snoc PS13 ?_).butList hp13.list kp
         rw [hnew, ← hlen]
         refine P13.mono fun b hb => ⟨?_, fun q => ?_⟩
         · cases z : s.heap.get? b with
           | none => rfl
           | some o =>
             exfalso
             by_cases q : b = 80
             · subst q; obtain ⟨qs, z', _⟩ := T12; rw [hb] at z'; cases z'
             · have := G12 b o (g8_in z q); rw [hb] at this; cases this
         · subst q; obtain ⟨o, es, ep, e, _⟩ := F12.ns; rw [hb] at e; cases e
       refine ⟨al.length + 1 - (j + 1), by omega, h14, _, _, pvs ++ [v13], j + 1, rfl, F14, rfl, ?_, ?_, hp14, ?_, ?_, hlt, rfl⟩
       · obtain ⟨o, e, r⟩ := hit13; exact ⟨o, kp _ _ (Ne.symm hIp) e, r⟩
       · obtain ⟨o, e, r⟩ := hD13; exact ⟨o, kp _ _ (Ne.symm hpD) e, r⟩
       · rw [take_fold hlt, hps, hn0]
         have : stepP ps n0 = ps ++ [newPl ps n0] := by
           unfold stepP
           rw [hnew]
           rw [if_neg (by simpa using hin)]
         rw [this]; exact P14
       · exact T13.mv fun o e => kp _ _ (Nat.ne_of_lt h80p) e
     · repeat' ((fail_if_success (with_reducible show ∃ _, _)); walk1)
       refine ⟨al.length + 1 - (j + 1), by omega, h11, _, _, pvs, j + 1, rfl, F11, rfl, ?_, L611.list hD6 hDL, hp6.move fun o e => L611 _ o hpL e, ?_, ?_, hlt, rfl⟩
       · obtain ⟨o, e, r⟩ := hit6; exact ⟨o, L611 _ _ hIL e, r⟩
       · rw [take_fold hlt, hps, hn0]
         have : stepP ps n0 = ps := by
           unfold stepP
           rw [if_pos]
           unfold newPl
           simp only [← hlen, hkk, hov, hnm]
           simpa using hin
         rw [this]; exact P11
       · exact T6.mv fun o e => L611 _ _ (Ne.symm hL80) e
end Mine
end

section
open PySem PySem.W PyProof.Rows PySem.Calls PySem.Spec
namespace Mine
section
variable {w : World} {A : Around} {E : Value → Shared → Prop} {s : Shared}
/-- the code of _prepare_tag as the written part has it -/
theorem code77 {w : World} {h : Heap} (X : (KK w).In h) {ps : Array Value} (e : h.get? 73 = some (tabObj ps)) (ht : TriplesOk ps.toList) : h.IsCode 77 73 ps := by
  have hx : CodeHd h 77 73 := codeHd_of_K X (by kernel_rfl)
  exact hx.code e ht
theorem tab77 {w : World} {h : Heap} (X : (KK w).In h) {ps : Array Value} (e : h.get? 73 = some (tabObj ps)) : h.TableAt 77 73 ps := by
  have hx : CodeHd h 77 73 := codeHd_of_K X (by kernel_rfl)
  exact hx.tab e
/-- a table with one more row -/
theorem codeAmong_more {pos q : Pos} {c v : Value} : ∀ (l : List Value), TriplesOk l → codeAmong q (l ++ [rawInt pos.line, rawInt pos.col, c]) = some v → codeAmong q l = some v ∨ v = c := by
  intro l h e
  fun_induction TriplesOk l with
  | case1 =>
    right
    simp only [List.nil_append, codeAmong, rawInt] at e
    split at e
    · cases e; rfl
    · cases e
  | case2 a t b u x rest ih =>
    simp only [List.cons_append, codeAmong] at e ⊢
    split at e
    · rename_i hc; rw [if_pos hc]; exact .inl e
    · rename_i hc; rw [if_neg hc]; exact ih h e
  | case3 l h1 h2 => exact h.elim
/-- the code of a nested def of _prepare_tag's -/
theorem code_sel {env : Env} {pos : Pos} {firstLine : Nat} {name : Str} {p : Arguments} {scope : Scope} {body : FuncBody} {Q : Value → Shared → Prop}
    (hc : env.code = .ref 77) (X : (KK w).In s.heap) (T : Tab73 s.heap)
    (hQ : ∀ c h' tk, 80 < c → (∀ b o, b ≠ 73 → s.heap.get? b = some o → h'.get? b = some o) → Tab73 h' → h'.CodeRec (.ref c) selQual → Q (.ref c) { s with heap := h', toks := tk }) :
    wpAny (model prog w) A (functionCode env pos firstLine name selQual p scope body) Q E s := by
  obtain ⟨ps, e, ht, hr⟩ := id T
  have hok := code77 X e ht
  cases hf : codeAmong pos ps.toList with
  | some v =>
    obtain ⟨c, rfl, hc80, hrec⟩ := hr pos v hf
    exact wpAny_functionCode_hit hc hok hf (hQ c s.heap s.toks hc80 (fun _ _ _ e => e) T hrec)
  | none =>
    refine wpAny_functionCodeX hc hok (tab77 X e) hf fun c' h' tk hx hge hlt hok' hrec htab' _ => ?_
    have h105 : 80 < c' := by
      have z : (KK w).lookup 105 = some (((KK w).lookup 105).getD default) := by kernel_rfl
      exact Nat.lt_of_lt_of_le (Nat.lt_trans (by decide : 80 < 105) (Heap.lt_size (X _ _ z))) hge
    refine hQ c' h' tk h105 (fun b o hb e => hx b o hb e) ?_ hrec
    have ea : (ps ++ #[rawInt pos.line, rawInt pos.col, Value.ref c']).toList = ps.toList ++ [rawInt pos.line, rawInt pos.col, .ref c'] := by simp
    refine ⟨_, htab'.2, by rw [ea]; exact TriplesOk_snoc _ _ _ _ ht, fun q v hq => ?_⟩
    rw [ea] at hq
    rcases codeAmong_more _ ht hq with hq | rfl
    · obtain ⟨c, rfl, hc80, hrec₀⟩ := hr q v hq
      exact ⟨c, rfl, hc80, codeRec_move hrec₀ fun o e => hx _ _ (Nat.ne_of_gt (Nat.lt_trans (by decide : 73 < 80) hc80)) e⟩
    · exact ⟨c', rfl, h105, hrec⟩
/-- a nested def of _prepare_tag's, made -/
theorem mk_sel {env : Env} {pos : Pos} {name : Str} {params : Arguments} {scope : Scope} {body : List Stmt} {cl : List (Str × Addr)} {m : Str → Option Value} {firstLine : Nat} {Q : Value → Shared → Prop}
    (hkw : params.kwonlyargs = []) (hcl : closureFor scope env = pure cl) (hne : cl.isEmpty = false) (hdoc : docOf body = none)
    (hc : env.code = .ref 77) (X : (KK w).In s.heap) (T : Tab73 s.heap) (B : Bm s.heap) (hgl : env.globals = mainGlobals) (hg : s.heap.Ns mainGlobals m) (hbm : m (Str.ofString "__builtins__") = some (.ref 4))
    (hQ : ∀ f c ct h' tk, (∀ b o, b ≠ 73 → s.heap.get? b = some o → h'.get? b = some o) → Tab73 h' → s.heap.get? f = none →
      h'.get? f = some ⟨.type "function", none, .func { name := name, qualname := selQual, params := params, body := .stmts body, scope := scope, globals := mainGlobals, closure := cl, closureTuple := ct, code := .ref c, builtins := builtinsNs, defaults := .none, kwdefaults := .none, annotations := none, pyModule := (m (Str.ofString "__name__")).getD .none, doc := .none }, #[]⟩ →
      h'.CodeRec (.ref c) selQual → Q (.ref f) { s with heap := h', toks := tk }) :
    wpAny (model prog w) A (makeFunction name selQual params (.stmts body) scope env [] [] [] pos firstLine) Q E s := by
  rw [makeFunction_eq, hkw]
  refine wpAny_bind (wpAny_pure (wpAny_bind (wpAny_pure (wpAny_bind (wpAny_pure ?_)))))
  unfold makeTail
  rw [hcl]
  dsimp only
  refine wpAny_bind (wpAny_pure ?_)
  rw [hne, if_neg Bool.false_ne_true]
  refine wpAny_bind (wpAny_newTextTuple ?_)
  generalize hH : s.heap.push _ = H
  have E1 : Ext s.heap H := fun b o e => hH ▸ Heap.get?_push_of_some _ e
  refine wpAny_bind (code_sel hc (E1.keep.inK X) (T.move fun b o e _ => E1 b o e) fun c h' tk h80 k T' hrec => ?_)
  have k' : ∀ b o, b ≠ 73 → s.heap.get? b = some o → h'.get? b = some o := fun b o n e => k b o n (E1 b o e)
  obtain ⟨sl, hB⟩ := B
  have hg' : h'.Ns mainGlobals m := let ⟨o, es, ep, e, r⟩ := hg; ⟨o, es, ep, k' _ _ (by decide) e, r⟩
  rw [hgl]
  refine wpAny_bind (wpAny_builtinsFor hg' hbm (by decide) (k' _ _ (by decide) hB) rfl rfl rfl ?_)
  refine wpAny_bind (wpAny_nsGet hg' ?_)
  rw [hdoc]
  refine wpAny_bind (wpAny_pure ?_)
  refine wpAny_newObj_type ?_ (by size_fits)
  refine hQ _ c _ _ _ (fun b o n e => Heap.get?_push_of_some _ (k' b o n e)) (T'.move fun b o e _ => Heap.get?_push_of_some _ e) ?_ (Heap.get?_push_size _ rfl) (codeRec_move hrec fun o e => Heap.get?_push_of_some _ e)
  obtain ⟨_, e73, _⟩ := T'
  cases z : s.heap.get? h'.objs.size with
  | none => rfl
  | some o => exact absurd (Heap.lt_size (k' _ _ (Nat.ne_of_gt (Heap.lt_size e73)) z)) (Nat.lt_irrefl _)
end
end Mine
end

section
open PySem PySem.W PyProof.Rows PySem.Calls PySem.Spec
open Sem (wp)
namespace Mine
theorem bind_wrap {α β gam : Type} (m : Sem α) (f : α → Sem β) (K : β → Sem gam) (H : Value → Sem gam) (gd : Bool → Bool) (lv : List Value → List Value) :
    (m >>= f).wrap K H gd lv = m.wrap (fun a => (f a).wrap K H gd lv) H gd lv := by
  rw [Sem.bind_eq_wrap', Sem.wrap_wrap]; rfl
theorem onRaise_wrap {α gam : Type} (m : Sem α) (h : Value → Sem Unit) (K : α → Sem gam) (H : Value → Sem gam) (gd : Bool → Bool) (lv : List Value → List Value) :
    (m.onRaise h).wrap K H gd lv = m.wrap K (fun e => ((h e).bind fun _ => Sem.raise e : Sem α).wrap K H gd lv) gd lv := by
  rw [Sem.onRaise_eq_wrap, Sem.wrap_wrap]; rfl
section
variable {w : World} {A : Around} {R : GenEnd} {Y : Protocol} {n : Nat} {s₀ : Shared} {c : Code} {fs : List Frame} {s : Shared} {env : Env}
  {K : Flow → Sem PySem.Fin} {H : Value → Sem PySem.Fin} {gd : Bool → Bool} {lv : List Value → List Value}

/-- a tree without a yield, run with no raise -/
theorem seg_m {α : Type} {m : Sem α} {K : α → Sem PySem.Fin} {H : Value → Sem PySem.Fin} {gd : Bool → Bool} {lv : List Value → List Value}
    (h : wpAny (model prog w) (A.over c fs) m (fun a s' => Seg (model prog w) A R Y n s₀ c (K a) fs s') (fun _ _ => False) s) :
    Seg (model prog w) A R Y n s₀ c (m.wrap K H gd lv) fs s := seg_wrap (wpAny_mono h (fun _ _ x => x) fun _ _ z => False.elim z)

theorem seg_If {test : PySem.Expr} {body orelse : List Stmt} {pos : Pos}
    (h : wpAny (model prog w) (A.over c fs) (isTrue test env (eval test env)) (fun b s' => if b = true then Seg (model prog w) A R Y n s₀ c ((execs body env).wrap K H gd lv) fs s'
      else Seg (model prog w) A R Y n s₀ c ((execs orelse env).wrap K H gd lv) fs s') (fun _ _ => False) s) :
    Seg (model prog w) A R Y n s₀ c ((exec (.If test body orelse pos) env).wrap K H gd lv) fs s := by
  rw [exec_If, bind_wrap]
  refine seg_m (wpAny_standAt ?_)
  rw [bind_wrap]
  refine seg_m (wpAny_mono h (fun b s' hb => ?_) fun _ _ z => z)
  cases b
  · rw [if_neg Bool.false_ne_true] at hb ⊢; exact hb
  · rw [if_pos rfl] at hb ⊢; exact hb

abbrev loopK (k : Result → Sem PySem.Fin) (gd : Bool → Bool) (lv : List Value → List Value) (c : Code) (p : Pos) : Frame := .ret k none (gd false) (lv []) c p []
abbrev backK (env : Env) (K : Flow → Sem PySem.Fin) (H : Value → Sem PySem.Fin) (gd : Bool → Bool) (lv : List Value → List Value) : Result → Sem PySem.Fin := fun r =>
  ((match r with | .ok f => (.pure f : Sem Flow) | .error e => .raise e).onRaise fun (x : Value) => do
    if (← field x 1) == Value.none then unsupported "frame.own-activation:exception-without-traceback"
    setFlight x env.frame).wrap K H gd lv

theorem seg_For {target iter : PySem.Expr} {body orelse : List Stmt} {pos : Pos}
    (h : wpAny (model prog w) (A.over c fs) (eval iter env) (fun x s₁ => wpAny (model prog w) (A.over c fs) (pyIter x) (fun it s₂ =>
      ∀ p, Seg (model prog w) A R Y n s₀ (.forLoop target it body orelse env) ((model prog w).den (.forLoop target it body orelse env)) (loopK (backK env K H gd lv) gd lv c p :: fs) s₂) (fun _ _ => False) s₁) (fun _ _ => False) s)
    (hs : ∀ x, foldedSetIterable iter env x = pure x := by intro _; rfl) :
    Seg (model prog w) A R Y n s₀ c ((exec (.For target iter body orelse pos) env).wrap K H gd lv) fs s := by
  rw [exec_For, bind_wrap]
  refine seg_m (wpAny_standAt ?_)
  rw [bind_wrap]
  refine seg_m (wpAny_mono h (fun x s₁ h₁ => ?_) fun _ _ z => z)
  rw [hs x, bind_wrap]
  refine seg_m (wpAny_pure ?_)
  rw [bind_wrap]
  refine seg_m (wpAny_standAt ?_)
  rw [bind_wrap]
  refine seg_m (wpAny_holding (wpAny_mono h₁ (fun it s₂ h₂ => ?_) fun _ _ z => z))
  exact seg_call h₂

theorem seg_forLoop {x : Str} {px : Pos} {it : Value} {body orelse : List Stmt}
    (h : wpAny (model prog w) (A.over (.forLoop (.Name x px) it body orelse env) fs) (pyNext it) (fun r s' => match r with
      | none => Seg (model prog w) A R Y n s₀ (.forLoop (.Name x px) it body orelse env) (.pure (.again (.block orelse env))) fs s'
      | some v => wpAny (model prog w) (A.over (.forLoop (.Name x px) it body orelse env) fs) (assign (.Name x px) env v) (fun _ s'' =>
          ∀ H, Seg (model prog w) A R Y n s₀ (.forLoop (.Name x px) it body orelse env) ((execs body env).wrap (fun f => match f with
            | .next | .cont => .pure (.again (.forLoop (.Name x px) it body orelse env))
            | .brk => .pure (.done .next)
            | .ret v => .pure (.done (.ret v))) H id id) fs s'') (fun _ _ => False) s') (fun _ _ => False) s) :
    Seg (model prog w) A R Y n s₀ (.forLoop (.Name x px) it body orelse env) ((model prog w).den (.forLoop (.Name x px) it body orelse env)) fs s := by
  show Seg _ A R Y n s₀ _ ((forTurn (.Name x px) it body orelse env).onRaise (fun x => do noteFrame x env; theTreesLotGoes x)) fs s
  unfold forTurn
  rw [Sem.onRaise_eq_wrap, bind_wrap]
  refine seg_m (wpAny_standAt ?_)
  rw [bind_wrap]
  rw [onRaise_wrap]
  refine seg_m (wpAny_mono h (fun r s' hr => ?_) fun _ _ z => z)
  cases r with
  | none => exact hr
  | some v =>
    dsimp only at hr ⊢
    show Seg _ A R Y n s₀ _ ((pure () >>= fun _ => assign (.Name x px) env v >>= fun _ => _ : Sem PySem.Fin).wrap _ _ _ _) fs s'
    rw [pure_bind, bind_wrap]
    refine seg_m (wpAny_mono hr (fun _ s'' h₂ => ?_) fun _ _ z => z)
    rw [bind_wrap]
    refine (Sem.wrap_congr _ _ _ (fun f => ?_) (fun _ => rfl)) ▸ (h₂ _)
    cases f <;> rfl
end
end Mine
end

section
open PySem PySem.W PyProof.Rows PySem.Calls PySem.Spec
open Sem (wp)
namespace Mine
theorem Fit.over0 {A : Around} {d u : Nat} (f : Fit A d u) (body : List Stmt) (env : Env) : Fit (A.over (.func body env) []) (d + 1) (u + 3) :=
  ⟨f.h, by have := f.d; show A.depth + 0 + 1 ≤ d + 1; omega, by have := f.u; show A.units + 0 + 3 ≤ u + 3; omega⟩
theorem Fit.over1 {A : Around} {d u : Nat} (f : Fit A d u) (body : List Stmt) (env : Env) (k : Result → Sem PySem.Fin) (gd : Bool → Bool) (lv : List Value → List Value) (p : Pos) (t : PySem.Expr) (it : Value) (b o : List Stmt) (env' : Env) :
    Fit (A.over (.forLoop t it b o env') [loopK k gd lv (.func body env) p]) (d + 1) (u + 3) :=
  ⟨f.h, by have := f.d; show A.depth + 1 + 0 ≤ d + 1; omega, by have := f.u; show A.units + (3 + 0) + 0 ≤ u + 3; omega⟩

/-- the places that are picked from i on -/
def ksFrom (pz : Nat → Bool) (N i : Nat) : List Nat := ((List.range N).drop i).filter pz
theorem ksFrom_step {pz : Nat → Bool} {N i : Nat} (h : i < N) : ksFrom pz N i = (if pz i then [i] else []) ++ ksFrom pz N (i + 1) := by
  unfold ksFrom
  rw [List.drop_eq_getElem_cons (by simpa using h), List.filter_cons]
  simp only [List.getElem_range]
  split <;> rfl
theorem ksFrom_end {pz : Nat → Bool} {N : Nat} : ksFrom pz N N = [] := by
  unfold ksFrom; rw [List.drop_eq_nil_of_le (by simp)]; rfl
theorem ksFrom_zero {pz : Nat → Bool} {N : Nat} : ksFrom pz N 0 = (List.range N).filter pz := rfl

/-- what is yielded with n yields to come -/
def picked (pz : Nat → Bool) (N n : Nat) : Nat := ((ksFrom pz N 0).reverse).getD n 0
theorem ks_split {pz : Nat → Bool} {N : Nat} : ∀ i, i ≤ N → ksFrom pz N 0 = (List.range i).filter pz ++ ksFrom pz N i
  | 0, _ => rfl
  | i + 1, h => by
    rw [ks_split i (by omega), ksFrom_step (by omega), range_filter_succ, List.append_assoc]
theorem picked_is {pz : Nat → Bool} {N i : Nat} (h : i < N) (hp : pz i = true) : picked pz N (ksFrom pz N (i + 1)).length = i := by
  unfold picked
  rw [ks_split i (by omega), ksFrom_step h, hp]
  simp only [if_true, List.reverse_append, List.reverse_cons, List.reverse_nil, List.nil_append, List.singleton_append, List.append_assoc]
  rw [List.getD_eq_getElem?_getD, List.getElem?_append_right (by simp)]
  simp

/-- what a run of the generator leaves: all below Z but its frame -/
def Since (Lg Z : Addr) (s₀ s : Shared) : Prop := ∃ h tk, s = { s₀ with heap := h, toks := tk } ∧ ∀ b o, b < Z → b ≠ Lg → s₀.heap.get? b = some o → h.get? b = some o
def genY (Lg Z : Addr) (Cl : Addr → Prop) (items : Array Value) (pz : Nat → Bool) : Protocol := fun n s₀ v s' kap =>
  v = items.getD (picked pz items.size n) .none ∧ Since Lg Z s₀ s' ∧ ∀ s'' : Shared, (∀ b o, ¬ Cl b → s'.heap.get? b = some o → s''.heap.get? b = some o) → kap (.send .none) s''
abbrev genR (Lg Z : Addr) : GenEnd := fun n s₀ r s₁ => r = .ok (.ret .none) ∧ n = 0 ∧ Since Lg Z s₀ s₁

/-- how a turn of the generator's loop runs up to its test -/
def TurnOk (w : World) (d u : Nat) (genv : Env) (x : Str) (pre : List Stmt) (test : PySem.Expr) (items : Array Value) (pz : Nat → Bool) (Base : Heap → Prop) : Prop :=
  ∀ (A' : Around) i (s : Shared) m, Fit A' d u → i < items.size → Base s.heap → s.heap.Ns genv.locals m → m x = some (items.getD i .none) →
    wpAny (model prog w) A' (execs pre genv) (fun f s₁ => f = .next ∧ wpAny (model prog w) A' (isTrue test genv (eval test genv)) (fun b s₂ => b = pz i ∧
      (∃ h tk m₂, s₂ = { s with heap := h, toks := tk } ∧ (∀ b o, b ≠ genv.locals → s.heap.get? b = some o → h.get? b = some o) ∧ h.Ns genv.locals m₂ ∧ m₂ x = some (items.getD i .none))) (fun _ _ => False) s₁) (fun _ _ => False) s

/-- the state between the turns -/
structure GenAtI (genv : Env) (I ax Z : Addr) (items : Array Value) (Base : Heap → Prop) (i : Nat) (s : Shared) : Prop where
  it : s.heap.IsListIter I ax i
  li : s.heap.IsList ax items
  ns : ∃ m, s.heap.Ns genv.locals m
  ba : Base s.heap
theorem Since.refl (Lg Z : Addr) (s : Shared) : Since Lg Z s s := ⟨s.heap, s.toks, rfl, fun _ _ _ _ e => e⟩
theorem Since.next {Lg Z : Addr} {s₀ s : Shared} (x : Since Lg Z s₀ s) {h : Heap} {tk : Nat} (k : ∀ b o, b < Z → b ≠ Lg → s.heap.get? b = some o → h.get? b = some o) : Since Lg Z s₀ { s with heap := h, toks := tk } := by
  obtain ⟨h₁, t₁, rfl, k₁⟩ := x
  exact ⟨h, tk, rfl, fun b o h1 h2 e => k b o h1 h2 (k₁ b o h1 h2 e)⟩

theorem execs_append_wrap {env : Env} {K : Flow → Sem PySem.Fin} {H : Value → Sem PySem.Fin} {gd : Bool → Bool} {lv : List Value → List Value} (rest : List Stmt) : ∀ pre : List Stmt,
    (execs (pre ++ rest) env).wrap K H gd lv = (execs pre env).wrap (fun f => match f with | .next => (execs rest env).wrap K H gd lv | f => K f) H gd lv
  | [] => rfl
  | st :: pre => by
    rw [List.cons_append, execs_cons_wrap, execs_cons_wrap]
    refine Sem.wrap_congr _ _ _ (fun f => ?_) (fun _ => rfl)
    cases f with
    | next => exact execs_append_wrap rest pre
    | _ => rfl
theorem seg_loop {w : World} {A : Around} {d u : Nat} {genv : Env} {x : Str} {px : Pos} {pre : List Stmt} {test : PySem.Expr} {yp ep ip : Pos} {ype : Pos} {items : Array Value} {pz : Nat → Bool} {Base : Heap → Prop} {I ax Z : Addr} {Cl : Addr → Prop}
    {bodyF : List Stmt} {KF : Flow → Sem PySem.Fin} {HF : Value → Sem PySem.Fin} {p : Pos}
    (f : Fit A d u) (hT : TurnOk w (d + 1) (u + 3) genv x pre test items pz Base)
    (hB1 : ∀ h h', Base h → (∀ b o, b ≠ genv.locals → b ≠ I → h.get? b = some o → h'.get? b = some o) → Base h')
    (hB2 : ∀ h h', Base h → (∀ b o, ¬ Cl b → h.get? b = some o → h'.get? b = some o) → Base h')
    (hIL : I ≠ genv.locals) (haL : ax ≠ genv.locals) (haI : ax ≠ I) (hIZ : Z ≤ I) (cI : ¬ Cl I) (ca : ¬ Cl ax) (cL : ¬ Cl genv.locals)
    (hx : genv.kindOf x = some .local) (hk : genv.scope.kind = .function) (hco : genv.scope.isCoroutine = false)
    (hdb : (x == ("__debug__" : Str)) = false) (hKF : KF .next = .pure (.done (.ret .none))) :
    ∀ k i s₀ s, items.size - i = k → i ≤ items.size → GenAtI genv I ax Z items Base i s → Since genv.locals Z s₀ s →
      Seg (model prog w) A (genR genv.locals Z) (genY genv.locals Z Cl items pz) (ksFrom pz items.size i).length s₀
        (.forLoop (.Name x px) (.ref I) (pre ++ [.If test [.Expr (.Yield (some (.Name x ype)) yp) ep] [] ip]) [] genv)
        ((model prog w).den (.forLoop (.Name x px) (.ref I) (pre ++ [.If test [.Expr (.Yield (some (.Name x ype)) yp) ep] [] ip]) [] genv))
        [loopK (backK genv KF HF id id) id id (.func bodyF genv) p] s := by
  intro k
  induction k with
  | zero =>
    intro i s₀ s hki hi st sc
    have hiN : i = items.size := by omega
    subst hiN
    refine seg_forLoop (wpAny_pyNext_list_end f.h st.it st.li (by simp) fun h₁ he => ?_)
    refine seg_again rfl ?_
    show Seg _ _ _ _ _ _ _ (leafOf (.ok .next)) _ _
    refine seg_leaf (.ok .next) ?_
    show Seg _ _ _ _ _ _ _ (KF .next) _ _
    rw [hKF]
    refine seg_end (.ok (.ret .none)) ⟨rfl, by rw [ksFrom_end]; rfl, ?_⟩
    exact sc.next (tk := s.toks) fun b o h1 h2 e => he b o (Nat.ne_of_lt (Nat.lt_of_lt_of_le h1 hIZ)) e
  | succ k ih =>
    intro i s₀ s hki hi st sc
    have hlt : i < items.size := by omega
    have hv : items[i]? = some (items.getD i .none) := by rw [Array.getD_eq_getD_getElem?, Array.getElem?_eq_getElem hlt]; rfl
    obtain ⟨m, hm⟩ := st.ns
    refine seg_forLoop (wpAny_pyNext_list_item st.it st.li hv fun h₁ hit₁ hs₁ => ?_)
    refine wpAny_assign_Name (wpAny_storeName_local hx (hm.sameBut hs₁ (Ne.symm hIL)) (fun h₂ hn₂ hs₂ => ?_) (by rw [hk]; rfl))
    intro H
    have k₂ : ∀ b o, b ≠ genv.locals → b ≠ I → s.heap.get? b = some o → h₂.get? b = some o := fun b o h1 h2 e => hs₂.extBut b o h1 (hs₁.extBut b o h2 e)
    have ba₂ : Base h₂ := hB1 _ _ st.ba k₂
    have hit₂ : h₂.IsListIter I ax (i + 1) := hit₁.extBut hs₂.extBut hIL
    have li₂ : h₂.IsList ax items := let ⟨o, e, r⟩ := st.li; ⟨o, k₂ _ _ haL haI e, r⟩
    have turn := hT _ i { s with heap := h₂, toks := s.toks + 1 } _ (f.over1 bodyF genv (backK genv KF HF id id) id id p (.Name x px) (.ref I) (pre ++ [.If test [.Expr (.Yield (some (.Name x ype)) yp) ep] [] ip]) [] genv) hlt ba₂ hn₂ (by simp)
    have more : ∀ (s₁ s' : Shared), GenAtI genv I ax Z items Base (i + 1) s' → Since genv.locals Z s₁ s' →
        Seg (model prog w) A (genR genv.locals Z) (genY genv.locals Z Cl items pz) (ksFrom pz items.size (i + 1)).length s₁
          (.forLoop (.Name x px) (.ref I) (pre ++ [.If test [.Expr (.Yield (some (.Name x ype)) yp) ep] [] ip]) [] genv)
          (.pure (.again (.forLoop (.Name x px) (.ref I) (pre ++ [.If test [.Expr (.Yield (some (.Name x ype)) yp) ep] [] ip]) [] genv)))
          [loopK (backK genv KF HF id id) id id (.func bodyF genv) p] s' := fun s₁ s' a b => seg_again rfl (ih (i + 1) s₁ s' (by omega) hlt a b)
    rw [execs_append_wrap]
    refine seg_m (wpAny_mono turn (fun fl s₃ h₃ => ?_) fun _ _ z => z)
    obtain ⟨rfl, h₃⟩ := h₃
    dsimp only
    refine seg_execs_cons (seg_If (wpAny_mono h₃ (fun b s₄ h₄ => ?_) fun _ _ z => z))
    obtain ⟨rfl, h, tk, m₄, rfl, k₄, hn₄, hm₄⟩ := h₄
    have sc₄ : Since genv.locals Z s₀ { s with heap := h, toks := tk } := sc.next fun b o h1 h2 e => k₄ b o h2 (k₂ b o h2 (Nat.ne_of_lt (Nat.lt_of_lt_of_le h1 hIZ)) e)
    have ba₄ : Base h := hB1 _ _ ba₂ fun b o h1 _ e => k₄ b o h1 e
    have hit₄ : h.IsListIter I ax (i + 1) := let ⟨o, e, r⟩ := hit₂; ⟨o, k₄ _ _ hIL e, r⟩
    have li₄ : h.IsList ax items := let ⟨o, e, r⟩ := li₂; ⟨o, k₄ _ _ haL e, r⟩
    cases hpz : pz i with
    | false =>
      rw [if_neg Bool.false_ne_true, ksFrom_step hlt, hpz]
      exact more s₀ _ ⟨hit₄, li₄, ⟨_, hn₄⟩, ba₄⟩ sc₄
    | true =>
      rw [if_pos rfl, ksFrom_step hlt, hpz]
      refine seg_execs_cons (seg_Expr_Yield rfl rfl rfl (wpAny_Name (wpAny_loadName_local hk hx hn₄ hm₄ ?_) hdb) hco (by unfold interactive; rw [hk]; rfl))
      intro kap hkap
      refine ⟨by show _ = items.getD (picked pz items.size (ksFrom pz items.size (i + 1)).length) _; rw [picked_is hlt hpz], sc₄, fun s'' ag => hkap .none s'' ?_⟩
      refine more s'' s'' ⟨?_, ?_, ?_, hB2 _ _ ba₄ ag⟩ (Since.refl _ _ _)
      · obtain ⟨o, e, r⟩ := hit₄; exact ⟨o, ag _ _ cI e, r⟩
      · obtain ⟨o, e, r⟩ := li₄; exact ⟨o, ag _ _ ca e, r⟩
      · obtain ⟨o, es, ep, e, r⟩ := hn₄; exact ⟨m₄, o, es, ep, ag _ _ cL e, r⟩
/-- the generator's whole run, from its first waking -/
theorem seg_start {w : World} {A : Around} {d u : Nat} {genv : Env} {x r : Str} {px pr fp : Pos} {pre : List Stmt} {test : PySem.Expr} {yp ep ip ype : Pos} {items : Array Value} {pz : Nat → Bool} {Base : Heap → Prop} {ax Z : Addr} {Cl : Addr → Prop}
    (f : Fit A d u) (hT : TurnOk w (d + 1) (u + 3) genv x pre test items pz Base)
    (hB1 : ∀ I h h', Z ≤ I → Base h → (∀ b o, b ≠ genv.locals → b ≠ I → h.get? b = some o → h'.get? b = some o) → Base h')
    (hB2 : ∀ h h', Base h → (∀ b o, ¬ Cl b → h.get? b = some o → h'.get? b = some o) → Base h')
    (haL : ax ≠ genv.locals) (ca : ¬ Cl ax) (cL : ¬ Cl genv.locals) (cZ : ∀ b, Cl b → b < Z) (haZ : ax < Z) (hLZ : genv.locals < Z)
    (hx : genv.kindOf x = some .local) (hr : genv.kindOf r = some .local) (hk : genv.scope.kind = .function) (hco : genv.scope.isCoroutine = false) (hdb : (x == ("__debug__" : Str)) = false) (hdr : (r == ("__debug__" : Str)) = false)
    (s : Shared) (m : Str → Option Value) (hm : s.heap.Ns genv.locals m) (hmr : m r = some (.ref ax)) (hli : s.heap.IsList ax items) (hba : Base s.heap) (hZ : Z ≤ s.heap.objs.size) :
    Seg (model prog w) A (genR genv.locals Z) (genY genv.locals Z Cl items pz) (ksFrom pz items.size 0).length s
      (.func [.For (.Name x px) (.Name r pr) (pre ++ [.If test [.Expr (.Yield (some (.Name x ype)) yp) ep] [] ip]) [] fp] genv)
      ((model prog w).den (.func [.For (.Name x px) (.Name r pr) (pre ++ [.If test [.Expr (.Yield (some (.Name x ype)) yp) ep] [] ip]) [] fp] genv)) [] s := by
  refine seg_func (seg_execs_cons (seg_For (wpAny_Name (wpAny_loadName_local hk hr hm hmr ?_) hdr)))
  refine wpAny_pyIter_list hli ?_
  intro p
  have E : Ext s.heap (s.heap.push { cls := .type "list_iterator", data := .fields #[.ref ax, .int 0 0] }) := fun b o e => Heap.get?_push_of_some _ e
  refine seg_loop (I := s.heap.objs.size) f hT (hB1 _ · · hZ) hB2 (Nat.ne_of_gt (Nat.lt_of_lt_of_le hLZ hZ)) haL (Nat.ne_of_lt (Nat.lt_of_lt_of_le haZ hZ)) hZ (fun q => absurd (cZ _ q) (Nat.not_lt.mpr hZ)) ca cL hx hk hco hdb rfl items.size 0 s _ (by omega) (Nat.zero_le _) ?_ ?_
  · exact ⟨⟨_, Heap.get?_push_size _ rfl, rfl, rfl⟩, hli.push _, ⟨m, hm.push _⟩, hB2 _ _ hba fun b o _ e => E b o e⟩
  · exact ⟨_, s.toks, rfl, fun b o _ _ e => E b o e⟩
theorem picked_rev {pz : Nat → Bool} {N j : Nat} (h : j < (ksFrom pz N 0).length) : picked pz N ((ksFrom pz N 0).length - j - 1) = (ksFrom pz N 0).getD j 0 := by
  unfold picked
  rw [List.getD_eq_getElem?_getD, List.getD_eq_getElem?_getD, List.getElem?_reverse (by omega)]
  congr 2
  omega

theorem Itr.gen {w : World} {A : Around} {Lg Z ga : Addr} {g : Nat} {Cl : Addr → Prop} {items : Array Value} {pz : Nat → Bool} (hh : A.handled = none) (hroom : A.depth < recursionLimit) (hga : ga < Z) (hgL : ga ≠ Lg) (hcs : cStatics < Z) (hcL : cStatics ≠ Lg)
    (cga : ¬ Cl ga) (ccs : ¬ Cl cStatics) {c0 : Addr} (hc0 : Z = c0 + 1) (hc0L : c0 ≠ Lg) (cc0 : Cl c0) :
    Itr w A (.ref ga) (fun b => b < Z ∧ b ≠ Lg) Cl (GenOnly g) (fun gs => gs[g]? = some .finished) (ksFrom pz items.size 0).length (fun j => items.getD ((ksFrom pz items.size 0).getD j 0) .none)
      (fun j s => (s.heap.get? c0).isSome = true ∧ s.heap.IsGen ga g ∧ s.heap.NoLimit ∧ ∃ gs, s.gens[g]? = some gs ∧ ∀ s'' : Shared, (∀ b o, ¬ Cl b → s.heap.get? b = some o → s''.heap.get? b = some o) → Z ≤ s''.heap.objs.size →
        gs.Goes (model prog w) A.in1 (genR Lg Z) (genY Lg Z Cl items pz) ((ksFrom pz items.size 0).length - j) (.send .none) s'') where
  grefl := fun a => ⟨rfl, fun _ _ => rfl⟩
  gtrans := fun _ _ _ x y => x.trans y
  next := fun j s Q E hj st h => by
    obtain ⟨hz, hg, hl, gs, hgs, hgo⟩ := st
    have hsz : Z ≤ s.heap.objs.size := by obtain ⟨o, e⟩ := Option.isSome_iff_exists.mp hz; rw [hc0]; exact Heap.lt_size e
    obtain ⟨n, hn⟩ : ∃ n, (ksFrom pz items.size 0).length - j = n + 1 := ⟨(ksFrom pz items.size 0).length - j - 1, by omega⟩
    have hpr := picked_rev hj
    rw [hn] at hgo hpr
    refine wpAny_pyNext_gen (P := fun n s₀ s₁ => n = 0 ∧ Since Lg Z s₀ s₁) hh hl hroom hg hgs (hgo _ (fun _ _ _ e => e) hsz) (fun v s₁ gs' hv => ?_) (fun s₁ hp h' hk => absurd hp.1 (Nat.succ_ne_zero n))
    obtain ⟨rfl, ⟨h₁, tk₁, rfl, hk₁⟩, hkap⟩ := hv
    show Q (some (items.getD (picked pz items.size n) .none)) _
    rw [show picked pz items.size n = (ksFrom pz items.size 0).getD j 0 from hpr]
    refine h h₁ tk₁ _ ⟨?_, ?_, ?_, gs', setGen_self (gs := .running) (setGen_self hgs), fun s'' ag _ => ?_⟩ (fun b o hb e => hk₁ b o hb.1 hb.2 e) ((GenOnly.setGen s g .running).trans (GenOnly.setGen _ g gs'))
    · obtain ⟨o, e⟩ := Option.isSome_iff_exists.mp hz
      rw [show h₁.get? c0 = some o from hk₁ _ _ (by rw [hc0]; exact Nat.lt_succ_self _) hc0L e]; rfl
    · obtain ⟨o, nm, qn, ho, r⟩ := hg; exact ⟨o, nm, qn, hk₁ _ _ hga hgL ho, r⟩
    · obtain ⟨mc, ⟨o, es, ep, e, r⟩, z⟩ := hl; exact ⟨mc, ⟨o, es, ep, hk₁ _ _ hcs hcL e, r⟩, z⟩
    · have e : (ksFrom pz items.size 0).length - (j + 1) = n := by omega
      rw [e]
      exact hkap s'' ag
  done := fun s Q E st h => by
    obtain ⟨hz, hg, hl, gs, hgs, hgo⟩ := st
    have hsz : Z ≤ s.heap.objs.size := by obtain ⟨o, e⟩ := Option.isSome_iff_exists.mp hz; rw [hc0]; exact Heap.lt_size e
    rw [Nat.sub_self] at hgo
    refine wpAny_pyNext_gen (P := fun n s₀ s₁ => n = 0 ∧ Since Lg Z s₀ s₁) hh hl hroom hg hgs (hgo _ (fun _ _ _ e => e) hsz) (fun v s₁ gs' hv => ?_) (fun s₁ hp h' hk => ?_)
    · obtain ⟨_, _, hkap⟩ := hv
      exact (hkap s₁ fun _ _ _ e => e).elim
    · obtain ⟨_, h₁, tk₁, rfl, hk₁⟩ := hp
      exact h h' tk₁ _ (fun b o hb e => hk b o (hk₁ b o hb.1 hb.2 e)) ((GenOnly.setGen s g .running).trans (GenOnly.setGen _ g .finished)) (setGen_self (gs := .running) (setGen_self hgs))
  stable := fun j s h' tk st k kc => by
    obtain ⟨hz, hg, hl, gs, hgs, hgo⟩ := st
    refine ⟨kc _ cc0 hz, ?_, ?_, gs, hgs, fun s'' ag z => hgo s'' (fun b o hb e => ag b o hb (k b o hb e)) z⟩
    · obtain ⟨o, nm, qn, ho, r⟩ := hg; exact ⟨o, nm, qn, k _ _ cga ho, r⟩
    · obtain ⟨mc, ⟨o, es, ep, e, r⟩, z⟩ := hl; exact ⟨mc, ⟨o, es, ep, k _ _ ccs e, r⟩, z⟩
end Mine
end

section
open PySem PySem.W PyProof.Rows PySem.Calls PySem.Spec
namespace Mine
theorem mro_slice : mroOf (.type "slice") = pure [.type "slice", .type "object"] := by rw [mroOf_type]; kernel_rfl
theorem lk_slice_new : typeLookup (.type "slice") "__new__" = pure (some (.builtin "slice.__new__")) := by rw [typeLookup_type, builtinLookup_eq_fast]; kernel_rfl
theorem lk_slice_init : typeLookup (.type "slice") "__init__" = pure (some (.builtin "object.__init__")) := by rw [typeLookup_type, builtinLookup_eq_fast]; kernel_rfl
theorem sub_slice_obj : isSubtype (.type "slice") (.type "object") = pure true := by kernel_rfl
theorem slot_slice_init : Slot "slice" "__init__" "object.__init__" := .of (owner := "object") (n := "__init__") lk_slice_init (by decide +kernel) (by decide +kernel) (by decide +kernel) (by decide +kernel) sub_slice_obj
theorem called_slice : TypeCalled "slice" "slice.__new__" "object.__init__" :=
  ⟨by decide +kernel, by decide +kernel, ⟨_, _, mro_slice⟩, madeBy_type mro_slice lk_slice_new (by decide +kernel), by decide +kernel, by rw [isSubtype_type]; kernel_rfl, slot_slice_init⟩
theorem typeCall_slice_2 (a b : Value) : checkTypeCall "slice" ⟨[a, b], []⟩ = pure () := by kernel_rfl
theorem newCall_slice_2 (a b : Value) : checkBuiltinCall "slice.__new__" ⟨[.type "slice", a, b], []⟩ = pure () := by kernel_rfl
theorem entry_slice_new : entryFor table "slice.__new__" = some Builtin.«slice.__new__» := entryFor_of_tree (by kernel_rfl)
theorem slice_new2 (a b : Value) (hsub : isSubtype (.type "slice") (.type "slice") = pure true) :
    Meets (Builtin.«slice.__new__» ⟨[.type "slice", a, b], []⟩) (fun _ R s => R (.ok (.ret (Value.ref s.heap.objs.size))) { s with heap := s.heap.push { cls := Value.type "slice", data := Data.fields #[a, b, .none] }, toks := s.toks }) :=
  .of_wp fun prog w A R s h => by obtain ⟨hp, g, d, tk, os⟩ := s; wp_walk; exact ⟨_, rfl, h⟩
section
variable {w : World} {A : Around} {E : Value → Shared → Prop} {s : Shared}
theorem call_slice_2 {a b : Value} {Q : Value → Shared → Prop}
    (h : Q (.ref s.heap.objs.size) { s with heap := s.heap.push { cls := .type "slice", data := .fields #[a, b, .none] } }) :
    wpAny (model prog w) A (call (.type "slice") [a, b]) Q E s :=
  callType_new called_slice (by decide) (typeCall_slice_2 _ _) (newCall_slice_2 _ _) (fun obj => F.initArgs_range_2 obj _ _) entry_slice_new
    (slice_new2 a b called_slice.sub) ⟨⟨_, Heap.get?_push_size _ rfl, rfl⟩, h⟩
end
end Mine
end

section
open PySem PySem.W PyProof.Rows PySem.Calls PySem.Spec
namespace Mine
abbrev g7 (h : Heap) : Heap := hideAll h [73]
theorem g7_get {h : Heap} {b : Addr} {o : Obj} (e : (g7 h).get? b = some o) : h.get? b = some o ∧ b ≠ 73 := by
  refine ⟨of_hideAll _ e, fun q => ?_⟩
  subst q; rw [hideAll_none [73] (.head _)] at e; cases e
theorem g7_in {h : Heap} {b : Addr} {o : Obj} (e : h.get? b = some o) (h2 : b ≠ 73) : (g7 h).get? b = some o := hideAll_get _ e (by simp [h2])
theorem Tab73.ne {h : Heap} (T : Tab73 h) {b : Addr} {o : Obj} (e : h.get? b = some o) (p : plainO o = true) : b ≠ 73 := by
  obtain ⟨qs, e2, _⟩ := T
  intro q
  subst q; rw [e2] at e; cases e; cases p
theorem g7_plain {h : Heap} (T : Tab73 h) {b : Addr} {o : Obj} (e : h.get? b = some o) (p : plainO o = true) : (g7 h).get? b = some o := g7_in e (T.ne e p)
theorem g7_inK {w : World} {h : Heap} (T : Tab73 h) (X : (KK w).In h) : (KK w).In (g7 h) := fun a o e => g7_plain T (X a o e) (KK_plain w a o e)
theorem frG7 {h h₁ : Heap} {L : Addr} {m : Str → Option Value} (F : Fr h L h₁ m) : Fr (g7 h) L h₁ m :=
  ⟨F.ns, fun b o e => F.keep b o (g7_get e).1, by rw [hideAll_size]; exact F.above⟩
theorem newsG7 {h h₁ : Heap} {L : Addr} {news : List (Addr × Obj)} (N : News h L h₁ news) : News (g7 h) L h₁ news := fun p hp =>
  ⟨(N p hp).1, (N p hp).2.1, by
    cases q : (g7 h).get? p.1 with
    | none => rfl
    | some o => have := (g7_get q).1; rw [(N p hp).2.2] at this; cases this⟩
/-- entering a def with cells -/
theorem enterC {w : World} {A : Around} {s : Shared} {K : Frag}
    {R : Result → Shared → Prop} {name : Str} {params : Arguments} {body : List Stmt} {scope : Scope} {doc pm cdv oc : Value} {od : Option Addr} {osl : Array (Option Value)} {f : Addr} {args : List Value} (binds : List (Str × Value))
    (X : K.In s.heap) (hlim : s.heap.NoLimit)
    (ho : K.lookup f = some ⟨oc, od, .func (docDef name params body scope pm cdv doc), osl⟩) (hcd : codeIn K cdv name = true) (hroom : A.depth < recursionLimit)
    (hbind : bindArgs (docDef name params body scope pm cdv doc) ⟨args, []⟩ = pure binds)
    (hkind : ∀ x ∈ binds, scope.names.lookup x.1 = some .local ∨ (scope.names.lookup x.1 = some .cell ∧ ((cellsFrom (s.heap.objs.size + 1) scope.names []).lookup x.1).isSome = true))
    (hnd : ((cellsFrom 0 scope.names []).map (·.1)).Nodup)
    (h : ∀ L h₁ tk cells, L = s.heap.objs.size → Fr s.heap L h₁ (bindL (envOfC name scope L f cdv).kindOf binds fun _ => none) → News s.heap L h₁ cells →
      CellsAre (bindC (envOfC name scope L f cdv).kindOf binds fun _ => none) (cellsFrom (L + 1) scope.names []) cells →
      wpAny (model prog w) (A.deeper (envOfC name scope L f cdv)) (execs body (envOfC name scope L f cdv))
        (fun f s' => R (.ok (.ret (match f with | .ret v => v | _ => .none))) s') (fun _ _ => False) { s with heap := h₁, toks := tk })
    (hco : scope.isCoroutine = false) (hgen : scope.isGenerator = false) (hk : scope.kind = .function) : codeAny (model prog w) A (.call (.ref f) ⟨args, []⟩) R s :=
  call_cellsN_ret hroom (X _ _ ho) rfl hlim (codeRec_of X hcd) hbind hkind hnd (fun h₁ tk cells F N C => h _ h₁ tk cells rfl F N C) hco hgen hk
theorem boot_slice : bootBuiltins (Str.ofString "slice") = some (.type "slice") := by decide +kernel
section
variable {w : World} {A : Around} {E : Value → Shared → Prop} {s : Shared} {h₀ : Heap} {L : Addr} {m mg mb : Str → Option Value} {mean : ExcName → Option Value} {lo : List Str} {news : List (Addr × Obj)} {Q : Value → Shared → Prop}
theorem nm_slice {env : Env} {pos : Pos} (F : Fr h₀ L s.heap m) (X : (KK w).In h₀) (T : Top topProg lo mean mg mb h₀) (h : Q (.type "slice") s)
    (hk : env.scope.kind = .function) (hx : env.kindOf (Str.ofString "slice") = some .globalImplicit) (hg : env.globals = mainGlobals) (hb : env.builtins = builtinsNs) :
    wpAny (model prog w) A (eval (.Name (Str.ofString "slice") pos) env) Q E s := by
  refine Calls.Name_function_global hk hx (Calls.loadGlobal_builtin (mg := mg) (mb := mb) (hg ▸ T.g.keeps F.keep) (mg_none_of X T.g (by kernel_rfl)) (hb ▸ T.b.keeps F.keep) ((T.builtins _ (by decide +kernel)).trans boot_slice) h) (by decide +kernel)
abbrev sliceO (a b : Value) : Obj := { cls := .type "slice", data := .fields #[a, b, .none] }
theorem slice_K {a b : Value} (F : Fr h₀ L s.heap m) (N : News h₀ L s.heap news)
    (h : ∀ D h', Fr h₀ L h' m → News h₀ L h' ((D, sliceO a b) :: news) → (∀ q ∈ news, q.1 < D) → Q (.ref D) { s with heap := h' }) :
    wpAny (model prog w) A (call (.type "slice") [a, b]) Q E s := by
  have hk : ∀ b' o, s.heap.get? b' = some o → (s.heap.push (sliceO a b)).get? b' = some o := fun b o e => Heap.get?_push_of_some _ e
  exact call_slice_2 (h _ _ (F.keeps hk) (news_pushed F N hk (Heap.get?_push_size _ rfl) rfl) fun q hq => Heap.lt_size (N q hq).1)
end
/-- what a tag must bear -/
def TagOk (p : Pl) : Prop := ∀ t, p.tag = some t → 1 ≤ t.length ∧ TxtOk 200 t
theorem newsT73 {h h₁ : Heap} {L : Addr} {m : Str → Option Value} {news : List (Addr × Obj)} {o : Obj} (F : Fr h L h₁ m) (N : News h L h₁ news) (e : h.get? 73 = some o) : News (g7 h) L h₁ (news ++ [(73, o)]) := by
  intro p hp
  rcases List.mem_append.mp hp with hp | hp
  · exact newsG7 N p hp
  · rw [List.mem_singleton.mp hp]
    exact ⟨F.keep _ _ e, Nat.ne_of_lt (Nat.lt_of_lt_of_le (Heap.lt_size e) F.above), hideAll_none [73] (.head _)⟩
end Mine
end

section
open PySem PySem.W PyProof.Rows PySem.Calls PySem.Spec
namespace Mine
section
variable {w : World} {A : Around} {E : Value → Shared → Prop} {s : Shared}
theorem def_sel {env : Env} {pos : Pos} {name : Str} {args : Arguments} {scope : Scope} {body : List Stmt} {cl : List (Str × Addr)} {m ml : Str → Option Value} {Q : Flow → Shared → Prop}
    (hkw : args.kwonlyargs = []) (hd : args.defaults = []) (hkd : args.kw_defaults = []) (hann : annTrees args none env = []) (hq : qualnameIn env name name = selQual)
    (hcl : closureFor scope env = pure cl) (hne : cl.isEmpty = false) (hdoc : docOf body = none)
    (hc : env.code = .ref 77) (X : (KK w).In s.heap) (T : Tab73 s.heap) (B : Bm s.heap) (hgl : env.globals = mainGlobals) (hg : s.heap.Ns mainGlobals m) (hbm : m (Str.ofString "__builtins__") = some (.ref 4))
    (hl : env.kindOf name = some .local) (hk : env.scope.kind = .function) (hm : s.heap.Ns env.locals ml) (hL : env.locals ≠ 73)
    (hQ : ∀ f c ct h' tk, (∀ b o, b ≠ 73 → b ≠ env.locals → s.heap.get? b = some o → h'.get? b = some o) → Tab73 h' → s.heap.get? f = none → h'.Ns env.locals (fun y => if y = name then some (.ref f) else ml y) →
      h'.get? f = some ⟨.type "function", none, .func { name := name, qualname := selQual, params := args, body := .stmts body, scope := scope, globals := mainGlobals, closure := cl, closureTuple := ct, code := .ref c, builtins := builtinsNs, defaults := .none, kwdefaults := .none, annotations := none, pyModule := (m (Str.ofString "__name__")).getD .none, doc := .none }, #[]⟩ →
      h'.CodeRec (.ref c) selQual → Q .next { s with heap := h', toks := tk }) :
    wpAny (model prog w) A (exec (.FunctionDef name args body [] none [] scope none name pos) env) Q E s := by
  rw [exec_def, defaultsOf_eq, hd, hkd, hann, hq]
  refine wpAny_bind (wpAny_standAt (wpAny_bind (wpAny_holding ?_)))
  refine wpAny_bind (wpAny_pure (wpAny_bind (wpAny_holding (wpAny_pure (wpAny_holding (wpAny_bind (wpAny_pure ?_)))))))
  refine mk_sel hkw hcl hne hdoc hc X T B hgl hg hbm fun f c ct h' tk k T' hf hof hrec => ?_
  refine wpAny_bind (wpAny_standAt (wpAny_bind (wpAny_bindName ?_)))
  have hm' : h'.Ns env.locals ml := let ⟨o, es, ep, e, r⟩ := hm; ⟨o, es, ep, k _ _ hL e, r⟩
  have hfL : f ≠ env.locals := fun q => by
    obtain ⟨o, es, ep, e, _⟩ := hm
    rw [q, e] at hf; cases hf
  refine wpAny_storeName_local hl hm' (fun h₂ hn₂ hs₂ => wpAny_pure ?_) (by rw [hk]; rfl)
  refine hQ f c ct h₂ _ (fun b o h1 h2 e => hs₂.extBut b o h2 (k b o h1 e)) ?_ hf hn₂ (hs₂.extBut _ _ hfL hof) ?_
  · obtain ⟨o, es, ep, e, de, _⟩ := hm'
    obtain ⟨ps, e1, e2, e3⟩ := T'
    refine ⟨ps, hs₂.extBut _ _ (Ne.symm hL) e1, e2, fun q v hv => ?_⟩
    obtain ⟨c, a, b, z⟩ := e3 q v hv
    refine ⟨c, a, b, codeRec_move z fun o' e' => hs₂.extBut _ _ (fun q => ?_) e'⟩
    obtain ⟨c₂, o₂, vs₂, t₂, x₂, g₂, d₂, _⟩ := z
    cases x₂
    rw [q, e] at g₂
    cases g₂
    rw [de] at d₂
    cases d₂
  · refine codeRec_move hrec fun o' e' => hs₂.extBut _ _ (fun q => ?_) e'
    obtain ⟨o, es, ep, e, de, _⟩ := hm'
    obtain ⟨c₂, o₂, vs₂, t₂, x₂, g₂, d₂, _⟩ := hrec
    cases x₂
    rw [q, e] at g₂
    cases g₂
    rw [de] at d₂
    cases d₂
end
end Mine
end

section
open PySem PySem.W PyProof.Rows PySem.Calls PySem.Spec
namespace Mine
section
variable {w : World} {A : Around} {E : Value → Shared → Prop} {s : Shared} {genv : Env} {m : Str → Option Value}
theorem nm_local {x : Str} {pos : Pos} {v : Value} {Q : Value → Shared → Prop} (hk : genv.scope.kind = .function) (hx : genv.kindOf x = some .local) (hn : s.heap.Ns genv.locals m) (hv : m x = some v)
    (h : Q v s) (hd : (x == ("__debug__" : Str)) = false := by decide) : wpAny (model prog w) A (eval (.Name x pos) genv) Q E s := wpAny_Name (wpAny_loadName_local hk hx hn hv h) hd
theorem nm_free {x : Str} {pos : Pos} {c : Addr} {v : Value} {Q : Value → Shared → Prop} (hk : genv.scope.kind = .function) (hx : genv.kindOf x = some .free) (hc : genv.cells.lookup x = some c) (hv : s.heap.IsCell c (some v))
    (h : Q v s) (hd : (x == ("__debug__" : Str)) = false := by decide) (hn : (x == ("__classdict__" : Str)) = false := by decide) : wpAny (model prog w) A (eval (.Name x pos) genv) Q E s := wpAny_Name (wpAny_loadName_free hk hx hc hv h hn) hd
theorem nm_cell {x : Str} {pos : Pos} {c : Addr} {v : Value} {Q : Value → Shared → Prop} (hk : genv.scope.kind = .function) (hx : genv.kindOf x = some .cell) (hc : genv.cells.lookup x = some c) (hv : s.heap.IsCell c (some v))
    (h : Q v s) (hd : (x == ("__debug__" : Str)) = false := by decide) : wpAny (model prog w) A (eval (.Name x pos) genv) Q E s := wpAny_Name (wpAny_loadName_cell hk hx hc hv h) hd
/-- only a few tokens are drawn -/
def Tk (s s' : Shared) : Prop := ∃ tk, s' = { s with toks := tk }
theorem Tk.refl (s : Shared) : Tk s s := ⟨s.toks, rfl⟩
theorem isi_call_tag {tag : Option Str} {v : Value} {Q : Value → Shared → Prop} (ht : TagV tag v) (h : ∀ tk, Q (.bool tag.isSome) { s with toks := tk }) :
    wpAny (model prog w) A (call (.builtin "isinstance") [v, .type "str"]) Q E s := by
  cases tag with
  | none =>
    cases ht
    exact call_isinstance (isinstance_false_none (by decide +kernel) meta_str sub_NoneType_str) (h _)
  | some t =>
    obtain ⟨k, rfl⟩ := ht
    exact call_isinstance_yes (typeIs_str s t k) meta_str sub_str_str (h s.toks)
theorem isi_test {tag : Option Str} {fi fs : Str} {p1 p3 p : Pos} {e : PySem.Expr} {c1 c2 : Addr} {Q : Bool → Shared → Prop}
    (hk : genv.scope.kind = .function) (hfi : genv.kindOf fi = some .free) (hfs : genv.kindOf fs = some .free) (hc1 : genv.cells.lookup fi = some c1) (hc2 : genv.cells.lookup fs = some c2)
    (h1 : s.heap.IsCell c1 (some (.builtin "isinstance"))) (h2 : s.heap.IsCell c2 (some (.type "str")))
    (he : ∀ (Q' : Value → Shared → Prop), (∀ v tk, TagV tag v → Q' v { s with toks := tk }) → wpAny (model prog w) A (eval e genv) Q' E s)
    (h : ∀ tk, Q tag.isSome { s with toks := tk })
    (hd1 : (fi == ("__debug__" : Str)) = false) (hn1 : (fi == ("__classdict__" : Str)) = false) (hd2 : (fs == ("__debug__" : Str)) = false) (hn2 : (fs == ("__classdict__" : Str)) = false)
    (hs : starEach [e, .Name fs p3] genv = [(false, eval e genv), (false, eval (.Name fs p3) genv)]) 
    (hev : isTrue (.Call (.Name fi p1) [e, .Name fs p3] [] p) genv (eval (.Call (.Name fi p1) [e, .Name fs p3] [] p) genv) = (do let v ← eval (.Call (.Name fi p1) [e, .Name fs p3] [] p) genv; standAt p; holding [v] (truthy v)) := by rfl) :
    wpAny (model prog w) A (isTrue (.Call (.Name fi p1) [e, .Name fs p3] [] p) genv (eval (.Call (.Name fi p1) [e, .Name fs p3] [] p) genv)) Q E s := by
  refine isTrue_plain ?_ hev
  refine Call_Name2 (nm_free hk hfi hc1 h1 ?_ hd1 hn1) hs
  refine Calls.callWith_builtin rfl (Calls.evalArgs_plain (Calls.spliced_cons (he _ fun v tk hv => Calls.spliced_cons (nm_free hk hfs hc2 h2 (Calls.spliced_nil ?_) hd2 hn2))))
  exact isi_call_tag hv fun tk2 => wpAny_truthy_bool (h _)

/-- what a turn of a select needs -/
structure GEnv (genv : Env) (c1 c2 : Addr) : Prop where
  k : genv.scope.kind = .function
  fi : genv.kindOf (Str.ofString "_isinstance") = some .free
  fs : genv.kindOf (Str.ofString "_str") = some .free
  c1 : genv.cells.lookup (Str.ofString "_isinstance") = some c1
  c2 : genv.cells.lookup (Str.ofString "_str") = some c2
  el : genv.kindOf (Str.ofString "elem") = some .local
structure GEnv2 (genv : Env) (c1 c2 : Addr) : Prop extends GEnv genv c1 c2 where
  et : genv.kindOf (Str.ofString "el_tag") = some .local
def SelBase (Lg : Addr) (cells : List (Addr × Obj)) (av : Addr → Prop) (vs : List Value) (ps : List Pl) (h : Heap) : Prop :=
  (∀ p ∈ cells, p.1 ≠ Lg ∧ h.get? p.1 = some p.2) ∧ (∀ b, av b → b ≠ Lg) ∧ PlacesAt av h vs ps
theorem SelBase.cell {Lg : Addr} {cells : List (Addr × Obj)} {av : Addr → Prop} {vs : List Value} {ps : List Pl} {h : Heap} (b : SelBase Lg cells av vs ps h) {c : Addr} {o : Obj} {v : Value} (hm : (c, o) ∈ cells) (hd : o.data = .cell (some v)) : h.IsCell c (some v) :=
  ⟨o, (b.1 _ hm).2, hd⟩
theorem SelBase.mv {Lg : Addr} {cells : List (Addr × Obj)} {av : Addr → Prop} {vs : List Value} {ps : List Pl} {h h' : Heap} (b : SelBase Lg cells av vs ps h) (k : ∀ b o, b ≠ Lg → h.get? b = some o → h'.get? b = some o) : SelBase Lg cells av vs ps h' :=
  ⟨fun p hp => ⟨(b.1 p hp).1, k _ _ (b.1 p hp).1 (b.1 p hp).2⟩, b.2.1, b.2.2.move fun x o av e => k x o (b.2.1 x av) e⟩
theorem SelBase.place {Lg : Addr} {cells : List (Addr × Obj)} {av : Addr → Prop} {vs : List Value} {ps : List Pl} {h : Heap} (b : SelBase Lg cells av vs ps h) {i : Nat} (hi : i < (List.toArray vs).size) : PlaceAt av h ((List.toArray vs).getD i .none) i (ps.getD i p0) := by
  have e : (List.toArray vs).getD i Value.none = vs.getD i .none := by simp
  rw [e]
  exact b.2.2.2 i (by rw [← b.2.2.1]; simpa using hi)
theorem SelBase.tag {Lg : Addr} {cells : List (Addr × Obj)} {av : Addr → Prop} {vs : List Value} {ps : List Pl} {h : Heap} (_ : SelBase Lg cells av vs ps h) (ht : ∀ p ∈ ps, TagOk p) (i : Nat) : TagOk (ps.getD i p0) := by
  by_cases hi : i < ps.length
  · rw [List.getD_eq_getElem?_getD, List.getElem?_eq_getElem hi]; exact ht _ (List.getElem_mem hi)
  · rw [List.getD_eq_getElem?_getD, List.getElem?_eq_none (Nat.le_of_not_lt hi)]
    intro t e; cases e
abbrev preTag (q1 q2 q3 q4 : Pos) : List Stmt := [.Assign [.Name (Str.ofString "el_tag") q1] (.Attribute (.Name (Str.ofString "elem") q2) (Str.ofString "tag") q3) q4]
abbrev isiE (e : PySem.Expr) (p1 p3 p : Pos) : PySem.Expr := .Call (.Name (Str.ofString "_isinstance") p1) [e, .Name (Str.ofString "_str") p3] [] p
/-- el_tag = elem.tag -/
theorem pre_run {c1 c2 : Addr} (G : GEnv2 genv c1 c2) {q1 q2 q3 q4 : Pos} {cells : List (Addr × Obj)} {av : Addr → Prop} {vs : List Value} {ps : List Pl} {i : Nat} {Q : Flow → Shared → Prop}
    (B : SelBase genv.locals cells av vs ps s.heap) (hi : i < (List.toArray vs).size) (hn : s.heap.Ns genv.locals m) (hm : m (Str.ofString "elem") = some ((List.toArray vs).getD i .none))
    (h : ∀ h' tk tv, TagV (ps.getD i p0).tag tv → SelBase genv.locals cells av vs ps h' → (∀ b o, b ≠ genv.locals → s.heap.get? b = some o → h'.get? b = some o) → h'.Ns genv.locals (fun y => if y = Str.ofString "el_tag" then some tv else m y) → Q .next { s with heap := h', toks := tk }) :
    wpAny (model prog w) A (execs (preTag q1 q2 q3 q4) genv) Q E s := by
  refine wpAny_execs_cons (wpAny_Assign_Name (Attribute_Name_ (nm_local G.k G.el hn hm ?_) rfl) rfl)
  refine at_tag (B.place hi) fun tv htv => ?_
  refine wpAny_storeName_local G.et hn (fun h₂ hn₂ hs₂ => wpAny_execs_nil ?_) (by rw [G.k]; rfl)
  exact h h₂ _ tv htv (B.mv fun b o h1 e => hs₂.extBut b o h1 e) (fun b o h1 e => hs₂.extBut b o h1 e) hn₂

theorem sl_ns {value slice : PySem.Expr} {x : Str} {t : Tok} {a : Addr} {j : Int} {u : Tok} {Q : Value → Shared → Prop} (hs : s.heap.IsSlice a none (some (j, u)) none) (hx : x.length ≤ sizeLine)
    (h : ∀ t' tk, Q (.str (Txt.slice x none (some j)) t') { s with toks := tk })
    (hsub : subscripted slice false (.str x t) (.ref a) = operate [.str x t, .ref a] (getItem (.str x t) (.ref a)) := by with_unfolding_all rfl)
    (ht : ∀ r, letTemporaryGo value (.str x t) r = pure () := by intro _; with_unfolding_all rfl) :
    wpAny (model prog w) A (subscriptTail value slice (.str x t) (.ref a)) Q E s :=
  tail_of_ItemOn ⟨"str", _, F.slot_str_getitem.lookup, typeIs_str _ _ _, wpAny_getItem_str_slice hs rfl (post_val_or_str ⟨Nat.le_trans (Txt.slice_le x _ _) hx, fun t' k => h t' k⟩)⟩ hsub ht
theorem sl_sn {value slice : PySem.Expr} {x : Str} {t : Tok} {a : Addr} {j : Int} {u : Tok} {Q : Value → Shared → Prop} (hs : s.heap.IsSlice a (some (j, u)) none none) (hx : x.length ≤ sizeLine)
    (h : ∀ t' tk, Q (.str (Txt.slice x (some j) none) t') { s with toks := tk })
    (hsub : subscripted slice false (.str x t) (.ref a) = operate [.str x t, .ref a] (getItem (.str x t) (.ref a)) := by with_unfolding_all rfl)
    (ht : ∀ r, letTemporaryGo value (.str x t) r = pure () := by intro _; with_unfolding_all rfl) :
    wpAny (model prog w) A (subscriptTail value slice (.str x t) (.ref a)) Q E s :=
  tail_of_ItemOn ⟨"str", _, F.slot_str_getitem.lookup, typeIs_str _ _ _, wpAny_getItem_str_slice hs rfl (post_val_or_str ⟨Nat.le_trans (Txt.slice_le x _ _) hx, fun t' k => h t' k⟩)⟩ hsub ht
end
section
variable {w : World} {d u : Nat} {genv : Env} {cells : List (Addr × Obj)} {av : Addr → Prop} {vs : List Value} {ps : List Pl} {c1 c2 : Addr} {o1 o2 : Obj}
abbrev AllTag (p : Pl) : Bool := p.tag.isSome
theorem turnA {p1 p3 pp q2 q3 : Pos} (G : GEnv genv c1 c2) (m1 : (c1, o1) ∈ cells) (d1 : o1.data = .cell (some (.builtin "isinstance"))) (m2 : (c2, o2) ∈ cells) (d2 : o2.data = .cell (some (.type "str"))) :
    TurnOk w d u genv (Str.ofString "elem") [] (isiE (.Attribute (.Name (Str.ofString "elem") q2) (Str.ofString "tag") q3) p1 p3 pp) (List.toArray vs) (fun i => AllTag (ps.getD i p0)) (SelBase genv.locals cells av vs ps) := by
  intro A' i s m f hi B hn hm
  refine wpAny_execs_nil ⟨rfl, ?_⟩
  refine isi_test (tag := (ps.getD i p0).tag) G.k G.fi G.fs G.c1 G.c2 (B.cell m1 d1) (B.cell m2 d2) (fun Q' hQ => ?_) (fun tk => ⟨rfl, s.heap, tk, m, rfl, fun _ _ _ e => e, hn, hm⟩) (by decide) (by decide) (by decide) (by decide) rfl rfl
  exact Attribute_Name_ (nm_local G.k G.el hn hm (at_tag (B.place hi) fun tv htv => hQ _ _ htv)) rfl
def NoNs (p : Pl) : Bool := match p.tag with | none => false | some t => Txt.item t 0 != Str.ofString "{"
theorem NoNs_none {p : Pl} (h : p.tag = none) : NoNs p = false := by unfold NoNs; rw [h]
theorem NoNs_some {p : Pl} {t : Str} (h : p.tag = some t) : NoNs p = (Txt.item t 0 != Str.ofString "{") := by unfold NoNs; rw [h]
theorem turnB {p1 p2 p3 pp q1 q2 q3 q4 r1 r2 r3 r4 r5 r6 : Pos} {k1 k2 : Nat} (G : GEnv2 genv c1 c2) (ht : ∀ p ∈ ps, TagOk p) (m1 : (c1, o1) ∈ cells) (d1 : o1.data = .cell (some (.builtin "isinstance"))) (m2 : (c2, o2) ∈ cells) (d2 : o2.data = .cell (some (.type "str"))) :
    TurnOk w d u genv (Str.ofString "elem") (preTag q1 q2 q3 q4)
      (.BoolOp .And [isiE (.Name (Str.ofString "el_tag") p2) p1 p3 pp, .Compare (.Subscript (.Name (Str.ofString "el_tag") r1) (.Constant (.int 0) k1 r2) r3) [.NotEq] [.Constant (.str (Str.ofString "{")) k2 r4] r5] r6)
      (List.toArray vs) (fun i => NoNs (ps.getD i p0)) (SelBase genv.locals cells av vs ps) := by
  intro A' i s m f hi B hn hm
  refine pre_run G B hi hn hm fun h' tk tv htv B' k' hn' => ⟨rfl, ?_⟩
  have hv : (fun y => if y = Str.ofString "el_tag" then some tv else m y) (Str.ofString "elem") = some ((List.toArray vs).getD i .none) := by
    show (if Str.ofString "elem" = Str.ofString "el_tag" then some tv else m (Str.ofString "elem")) = _
    rw [if_neg (by decide +kernel)]; exact hm
  refine isTrue_and ?_
  refine isi_test (tag := (ps.getD i p0).tag) G.k G.fi G.fs G.c1 G.c2 (B'.cell m1 d1) (B'.cell m2 d2) (fun Q' hQ => nm_local G.k G.et hn' (if_pos rfl) (hQ tv tk htv) (by decide)) (fun tk2 => ?_) (by decide) (by decide) (by decide) (by decide) rfl rfl
  have T := B.tag ht i
  cases hp : (ps.getD i p0).tag with
  | none => exact ⟨(NoNs_none hp).symm, h', tk2, _, rfl, k', hn', hv⟩
  | some t =>
    rw [hp] at htv
    obtain ⟨kk, rfl⟩ := htv
    obtain ⟨hl1, hl2⟩ := T t hp
    refine isTrue_and (wpAny_isTrue_Compare1 ?_ rfl)
    refine Subscript_ (nm_local G.k G.et hn' (if_pos rfl) (wpAny_Constant_int ?_) (by decide))
    refine item_str (i := 0) (by decide) (by omega) (by omega) (fun _ => Constant_str (ne_str (wpAny_truthy_bool ?_))) rfl (fun _ => rfl)
    rw [← NoNs_some hp]
    cases hz : NoNs (ps.getD i p0) with
    | false => exact ⟨hz.symm, h', _, _, rfl, k', hn', hv⟩
    | true => exact isTrue_and_nil ⟨hz.symm, h', _, _, rfl, k', hn', hv⟩
def HasNs (ns : Str) (j : Int) (p : Pl) : Bool := match p.tag with | none => false | some t => Txt.slice t none (some j) == ns
theorem HasNs_none {ns : Str} {j : Int} {p : Pl} (h : p.tag = none) : HasNs ns j p = false := by unfold HasNs; rw [h]
theorem HasNs_some {ns : Str} {j : Int} {p : Pl} {t : Str} (h : p.tag = some t) : HasNs ns j p = (Txt.slice t none (some j) == ns) := by unfold HasNs; rw [h]
theorem turnD {p1 p2 p3 pp q1 q2 q3 q4 r1 r2 r3 r4 r5 r6 : Pos} {c3 c4 sl : Addr} {o3 o4 : Obj} {ns : Str} {j : Int} {tn tj : Tok} (G : GEnv2 genv c1 c2) (ht : ∀ p ∈ ps, TagOk p) (m1 : (c1, o1) ∈ cells) (d1 : o1.data = .cell (some (.builtin "isinstance"))) (m2 : (c2, o2) ∈ cells) (d2 : o2.data = .cell (some (.type "str")))
    (f3 : genv.kindOf (Str.ofString "ns_only") = some .free) (f4 : genv.kindOf (Str.ofString "ns") = some .free) (e3 : genv.cells.lookup (Str.ofString "ns_only") = some c3) (e4 : genv.cells.lookup (Str.ofString "ns") = some c4)
    (m3 : (c3, o3) ∈ cells) (d3 : o3.data = .cell (some (.ref sl))) (m4 : (c4, o4) ∈ cells) (d4 : o4.data = .cell (some (.str ns tn))) (m5 : (sl, sliceO .none (.int j tj)) ∈ cells) :
    TurnOk w d u genv (Str.ofString "elem") (preTag q1 q2 q3 q4)
      (.BoolOp .And [isiE (.Name (Str.ofString "el_tag") p2) p1 p3 pp, .Compare (.Subscript (.Name (Str.ofString "el_tag") r1) (.Name (Str.ofString "ns_only") r2) r3) [.Eq] [.Name (Str.ofString "ns") r4] r5] r6)
      (List.toArray vs) (fun i => HasNs ns j (ps.getD i p0)) (SelBase genv.locals cells av vs ps) := by
  intro A' i s m f hi B hn hm
  refine pre_run G B hi hn hm fun h' tk tv htv B' k' hn' => ⟨rfl, ?_⟩
  have hv : (fun y => if y = Str.ofString "el_tag" then some tv else m y) (Str.ofString "elem") = some ((List.toArray vs).getD i .none) := by
    show (if Str.ofString "elem" = Str.ofString "el_tag" then some tv else m (Str.ofString "elem")) = _
    rw [if_neg (by decide +kernel)]; exact hm
  refine isTrue_and ?_
  refine isi_test (tag := (ps.getD i p0).tag) G.k G.fi G.fs G.c1 G.c2 (B'.cell m1 d1) (B'.cell m2 d2) (fun Q' hQ => nm_local G.k G.et hn' (if_pos rfl) (hQ tv tk htv) (by decide)) (fun tk2 => ?_) (by decide) (by decide) (by decide) (by decide) rfl rfl
  have T := B.tag ht i
  cases hp : (ps.getD i p0).tag with
  | none => exact ⟨(HasNs_none hp).symm, h', tk2, _, rfl, k', hn', hv⟩
  | some t =>
    rw [hp] at htv
    obtain ⟨kk, rfl⟩ := htv
    obtain ⟨hl1, hl2⟩ := T t hp
    refine isTrue_and (wpAny_isTrue_Compare1 ?_ rfl)
    refine Subscript_ (nm_local G.k G.et hn' (if_pos rfl) (nm_free G.k f3 e3 (B'.cell m3 d3) ?_ (by decide) (by decide)) (by decide))
    refine sl_ns ⟨_, (B'.1 _ m5).2, rfl, rfl⟩ (Nat.le_trans hl2.2 (by decide)) (fun t' tk3 => nm_free G.k f4 e4 (B'.cell m4 d4) (eq_str (wpAny_truthy_bool ?_)) (by decide) (by decide)) rfl (fun _ => rfl)
    rw [← HasNs_some hp]
    cases hz : HasNs ns j (ps.getD i p0) with
    | false => exact ⟨hz.symm, h', _, _, rfl, k', hn', hv⟩
    | true => exact isTrue_and_nil ⟨hz.symm, h', _, _, rfl, k', hn', hv⟩
def Named (nm suf : Str) (j : Int) (p : Pl) : Bool := match p.tag with | none => false | some t => t == nm || Txt.slice t (some j) none == suf
theorem Named_none {nm suf : Str} {j : Int} {p : Pl} (h : p.tag = none) : Named nm suf j p = false := by unfold Named; rw [h]
theorem Named_some {nm suf : Str} {j : Int} {p : Pl} {t : Str} (h : p.tag = some t) : Named nm suf j p = (t == nm || Txt.slice t (some j) none == suf) := by unfold Named; rw [h]
theorem turnC {p1 p2 p3 pp q1 q2 q3 q4 r1 r2 r3 r4 r5 r6 r7 r8 r9 r10 : Pos} {c3 c4 c5 sl : Addr} {o3 o4 o5 : Obj} {nm suf : Str} {j : Int} {tn ts tj : Tok} (G : GEnv2 genv c1 c2) (ht : ∀ p ∈ ps, TagOk p) (m1 : (c1, o1) ∈ cells) (d1 : o1.data = .cell (some (.builtin "isinstance"))) (m2 : (c2, o2) ∈ cells) (d2 : o2.data = .cell (some (.type "str")))
    (f3 : genv.kindOf (Str.ofString "no_ns") = some .free) (f4 : genv.kindOf (Str.ofString "suffix") = some .free) (f5 : genv.kindOf (Str.ofString "tag") = some .free) (e3 : genv.cells.lookup (Str.ofString "no_ns") = some c3) (e4 : genv.cells.lookup (Str.ofString "suffix") = some c4) (e5 : genv.cells.lookup (Str.ofString "tag") = some c5)
    (m3 : (c3, o3) ∈ cells) (d3 : o3.data = .cell (some (.ref sl))) (m4 : (c4, o4) ∈ cells) (d4 : o4.data = .cell (some (.str suf ts))) (m5 : (c5, o5) ∈ cells) (d5 : o5.data = .cell (some (.str nm tn))) (m6 : (sl, sliceO (.int j tj) .none) ∈ cells) :
    TurnOk w d u genv (Str.ofString "elem") (preTag q1 q2 q3 q4)
      (.BoolOp .Or [.Compare (.Name (Str.ofString "el_tag") r7) [.Eq] [.Name (Str.ofString "tag") r8] r9, .BoolOp .And [isiE (.Name (Str.ofString "el_tag") p2) p1 p3 pp, .Compare (.Subscript (.Name (Str.ofString "el_tag") r1) (.Name (Str.ofString "no_ns") r2) r3) [.Eq] [.Name (Str.ofString "suffix") r4] r5] r6] r10)
      (List.toArray vs) (fun i => Named nm suf j (ps.getD i p0)) (SelBase genv.locals cells av vs ps) := by
  intro A' i s m f hi B hn hm
  refine pre_run G B hi hn hm fun h' tk tv htv B' k' hn' => ⟨rfl, ?_⟩
  have hv : (fun y => if y = Str.ofString "el_tag" then some tv else m y) (Str.ofString "elem") = some ((List.toArray vs).getD i .none) := by
    show (if Str.ofString "elem" = Str.ofString "el_tag" then some tv else m (Str.ofString "elem")) = _
    rw [if_neg (by decide +kernel)]; exact hm
  have T := B.tag ht i
  refine isTrue_or (wpAny_isTrue_Compare1 (nm_local G.k G.et hn' (if_pos rfl) (nm_free G.k f5 e5 (B'.cell m5 d5) ?_ (by decide) (by decide)) (by decide)) rfl)
  cases hp : (ps.getD i p0).tag with
  | none =>
    rw [hp] at htv
    cases htv
    refine EqNone.eq_none_str (wpAny_truthy_bool ?_)
    rw [if_neg Bool.false_ne_true]
    refine isTrue_or ?_
    refine isTrue_and (isi_test (tag := none) G.k G.fi G.fs G.c1 G.c2 (B'.cell m1 d1) (B'.cell m2 d2) (fun Q' hQ => nm_local G.k G.et hn' (if_pos rfl) (hQ .none tk rfl) (by decide)) (fun tk2 => ?_) (by decide) (by decide) (by decide) (by decide) rfl rfl)
    exact isTrue_or_nil ⟨(Named_none hp).symm, h', tk2, _, rfl, k', hn', hv⟩
  | some t =>
    rw [hp] at htv
    obtain ⟨kk, rfl⟩ := htv
    obtain ⟨hl1, hl2⟩ := T t hp
    refine eq_str (wpAny_truthy_bool ?_)
    cases hc : t == nm with
    | true => exact ⟨by show true = Named nm suf j (ps.getD i p0); rw [Named_some hp, hc]; rfl, h', _, _, rfl, k', hn', hv⟩
    | false =>
      rw [if_neg Bool.false_ne_true]
      refine isTrue_or ?_
      refine isTrue_and (isi_test (tag := some t) G.k G.fi G.fs G.c1 G.c2 (B'.cell m1 d1) (B'.cell m2 d2) (fun Q' hQ => nm_local G.k G.et hn' (if_pos rfl) (hQ _ tk ⟨kk, rfl⟩) (by decide)) (fun tk2 => ?_) (by decide) (by decide) (by decide) (by decide) rfl rfl)
      refine isTrue_and (wpAny_isTrue_Compare1 ?_ rfl)
      refine Subscript_ (nm_local G.k G.et hn' (if_pos rfl) (nm_free G.k f3 e3 (B'.cell m3 d3) ?_ (by decide) (by decide)) (by decide))
      refine sl_sn ⟨_, (B'.1 _ m6).2, rfl, rfl⟩ (Nat.le_trans hl2.2 (by decide)) (fun t' tk3 => nm_free G.k f4 e4 (B'.cell m4 d4) (eq_str (wpAny_truthy_bool ?_)) (by decide) (by decide)) rfl (fun _ => rfl)
      have e : Named nm suf j (ps.getD i p0) = (Txt.slice t (some j) none == suf) := by rw [Named_some hp, hc]; rfl
      rw [← e]
      cases hz : Named nm suf j (ps.getD i p0) with
      | false => exact isTrue_or_nil ⟨hz.symm, h', _, _, rfl, k', hn', hv⟩
      | true => exact isTrue_and_nil ⟨hz.symm, h', _, _, rfl, k', hn', hv⟩
end
/-- a function that is a select with a word of its own -/
def SelFn (w : World) (h : Heap) (f : Addr) (pick : Pl → Bool) : Prop :=
  ∃ (fd : FuncData) (x cx r : Str) (px pr fp : Pos) (pre : List Stmt) (test : PySem.Expr) (yp ep ip ype : Pos) (cells : List (Addr × Obj)),
    h.get? f = some ⟨.type "function", none, .func fd, #[]⟩ ∧ fd.scope.isCoroutine = false ∧ fd.scope.isGenerator = true ∧ fd.scope.kind = .function ∧
    fd.body = .stmts [.For (.Name x px) (.Name r pr) (pre ++ [.If test [.Expr (.Yield (some (.Name x ype)) yp) ep] [] ip]) [] fp] ∧
    h.CodeRec fd.code fd.qualname ∧ (∀ a b, bindArgs fd ⟨[a, b], []⟩ = pure [(cx, a), (r, b)]) ∧ (∀ y ∈ fd.scope.names, y.2 ≠ .cell) ∧
    fd.scope.names.lookup cx = some .local ∧ fd.scope.names.lookup r = some .local ∧ fd.scope.names.lookup x = some .local ∧ (x == ("__debug__" : Str)) = false ∧ (r == ("__debug__" : Str)) = false ∧
    (∀ p ∈ cells, h.get? p.1 = some p.2) ∧
    ∀ d u Lg av vs ps, (∀ p ∈ ps, TagOk p) → TurnOk w d u (newEnv fd.scope Lg fd.globals fd.closure (fd.qualname ++ ".<locals>.") (some f) fd.code none fd.builtins) x pre test (List.toArray vs) (fun i => pick (ps.getD i p0))
      (SelBase Lg cells av vs ps)
theorem selCells {h₀ h₁ h₂ : Heap} {L : Addr} {news : List (Addr × Obj)} (n : Nat) (N : News h₀ L h₁ news) (K : ∀ b o, b ≠ 73 → b ≠ L → h₁.get? b = some o → h₂.get? b = some o) (h : ∀ p ∈ news.take n, p.1 ≠ 73) :
    ∀ p ∈ news.take n, h₂.get? p.1 = some p.2 := fun p hp => K _ _ (h p hp) (N p (List.mem_of_mem_take hp)).2.1 (N p (List.mem_of_mem_take hp)).1
end Mine
end

section
open PySem PySem.W PyProof.Rows PySem.Calls PySem.Spec
namespace Mine
set_option maxHeartbeats 8000000 in
theorem prepA0 {w : World} {mean : ExcName → Option Value} {mg mb : Str → Option Value} {lo : List Str} (s : Shared) (X : (KK w).In s.heap) (B : Bm s.heap) (T : Tab73 s.heap) (TT : Top topProg lo mean mg mb (g7 s.heap)) (tg : Str) (t0 : Tok) (htg : TxtOk 200 tg) (h1 : (tg == Str.ofString "{*}*") = true)
   (R : Result → Shared → Prop)
   (hR : ∀ f h' tk', (∀ b o, b ≠ 73 → s.heap.get? b = some o → h'.get? b = some o) → Tab73 h' → s.heap.get? f = none → SelFn w h' f AllTag → R (.ok (.ret (.ref f))) { s with heap := h', toks := tk' })
    : codeAny (model prog w) (AB 500 1500) (.call (.ref 78) ⟨[.str tg t0], []⟩) R s := by
   have hlim := noLimit X
   have hlt := htg.2
   have X0 := X
   have XG := g7_inK T X
   revert X XG
   dsimp only [prog, KK]
   k_fill
   intro X XG
   refine' enterC (K := TP.heap_39 w.params) [(Str.ofString "tag", .str tg t0)] X hlim ?ho ?hcd (by decide) ?hbind ?hkind ?hnd ?h ?c2 ?c3 ?c4
   case ho => k_is
   case hcd => k_is
   case hbind => exact rfl
   case hkind => exact fun x hx => by rw [List.mem_singleton.mp hx]; exact .inr ⟨rfl, rfl⟩
   case hnd => decide +kernel
   case c2 => exact rfl
   case c3 => exact rfl
   case c4 => exact rfl
   intro L h' tk cells hL F N C
   obtain ⟨qs, e73, ht73, hr73⟩ := id T
   have hL73 : 73 < L := hL ▸ Heap.lt_size e73
   have N := newsT73 F N e73
   have F := frG7 F
   cases C with | cons d1 C => ?_
   cases C with | cons d2 C => ?_
   cases C with | cons d3 C => ?_
   cases C with | cons d4 C => ?_
   cases C with | cons d5 C => ?_
   cases C with | cons d6 C => ?_
   cases C with | cons d7 C => ?_
   cases C
   simp only [List.cons_append, List.nil_append] at N
   repeat' ((fail_if_success (with_reducible show ite _ _ _)); walk1)
   rw [if_pos h1]
   repeat' ((fail_if_success (with_reducible show wpAny _ _ (exec (Stmt.FunctionDef _ _ _ _ _ _ _ _ _) _) _ _ _)); walk1)
   rename Fr (g7 s.heap) L _ _ => F1
   rename News (g7 s.heap) L _ _ => N1
   rename Heap => h1
   have X1 : (KK w).In h1 := fun a o e => F1.keep a o (XG a o e)
   have T1 : Tab73 h1 := by
     refine ⟨qs, (N1 (73, _) (by simp)).1, ht73, fun pos v q => ?_⟩
     obtain ⟨c, a, b, z⟩ := hr73 pos v q
     exact ⟨c, a, b, codeRec_move z fun o e => F1.keep _ _ (g7_in e (Nat.ne_of_gt (Nat.lt_trans (by decide : 73 < 80) b)))⟩
   have B1 : Bm h1 := let ⟨sl, e⟩ := B; ⟨sl, F1.keep _ _ (g7_plain T e rfl)⟩
   refine' def_sel (m := mg) rfl rfl rfl rfl (by kernel_rfl) ?hcl ?hne rfl rfl X1 T1 B1 rfl (TT.g.keeps F1.keep) ?hbm rfl rfl F1.ns ?hLn ?hQ
   case hcl => with_unfolding_all rfl
   case hne => rfl
   case hbm => exact mg_of (K := KK w) XG TT.g (by kernel_rfl)
   case hLn => exact Nat.ne_of_gt hL73
   case hQ =>
     intro f c ct h2 tk2 K2 T2 hf n2 o2 r2
     have KA : ∀ b o, b ≠ 73 → s.heap.get? b = some o → h2.get? b = some o := fun b o hb e =>
       K2 b o hb (fun q => absurd (Heap.lt_size e) (by rw [show b = L from q, hL]; exact Nat.lt_irrefl _)) (F1.keep b o (g7_in e hb))
     have FN : s.heap.get? f = none := by
       cases z : s.heap.get? f with
       | none => rfl
       | some o =>
         exfalso
         have z73 : f ≠ 73 := fun q => by obtain ⟨_, e, _⟩ := T1; rw [q] at hf; rw [show h1.get? 73 = none from hf] at e; cases e
         have := F1.keep f o (g7_in z z73)
         rw [show h1.get? f = none from hf] at this
         cases this
     have hc := selCells 8 N1 K2 (by intro p hp; simp only [List.take, List.mem_cons, List.not_mem_nil, or_false] at hp; rcases hp with rfl | rfl | rfl | rfl | rfl | rfl | rfl | rfl <;> exact Nat.ne_of_gt (by omega))
     have F2 : Fr (g7 s.heap) L h2 _ := ⟨n2, fun b o e => KA b o (g7_get e).2 (g7_get e).1, F1.above⟩
     have SF : SelFn w h2 f AllTag :=
       ⟨_, _, _, _, _, _, _, _, _, _, _, _, _, _, o2, rfl, rfl, rfl, rfl, r2, fun a b => rfl, by dsimp only; decide, rfl, rfl, rfl, by decide, by decide, hc, fun d u Lg av vs ps ht =>
         turnA (ps := ps) ⟨rfl, rfl, rfl, rfl, rfl, rfl⟩ (.tail _ (.tail _ (.tail _ (.tail _ (.tail _ (.tail _ (.head _))))))) (by assumption) (.tail _ (.tail _ (.tail _ (.tail _ (.tail _ (.head _)))))) (by assumption)⟩
     clear N1
     have N1 : News (g7 s.heap) L h2 [] := News.nil
     clear F1 F o2
     dsimp only
     repeat' ((fail_if_success (with_reducible show R _ _)); walk1)
     exact hR f h2 _ KA T2 FN SF
end Mine
end

section
open PySem PySem.W PyProof.Rows PySem.Calls PySem.Spec
namespace Mine
set_option maxHeartbeats 8000000 in
theorem prepB0 {w : World} {mean : ExcName → Option Value} {mg mb : Str → Option Value} {lo : List Str} (s : Shared) (X : (KK w).In s.heap) (B : Bm s.heap) (T : Tab73 s.heap) (TT : Top topProg lo mean mg mb (g7 s.heap)) (tg : Str) (t0 : Tok) (htg : TxtOk 200 tg) (h1 : (tg == Str.ofString "{*}*") = false) (h2 : (tg == Str.ofString "{}*") = true)
   (R : Result → Shared → Prop)
   (hR : ∀ f h' tk', (∀ b o, b ≠ 73 → s.heap.get? b = some o → h'.get? b = some o) → Tab73 h' → s.heap.get? f = none → SelFn w h' f NoNs → R (.ok (.ret (.ref f))) { s with heap := h', toks := tk' })
    : codeAny (model prog w) (AB 500 1500) (.call (.ref 78) ⟨[.str tg t0], []⟩) R s := by
   have hlim := noLimit X
   have hlt := htg.2
   have X0 := X
   have XG := g7_inK T X
   revert X XG
   dsimp only [prog, KK]
   k_fill
   intro X XG
   refine' enterC (K := TP.heap_39 w.params) [(Str.ofString "tag", .str tg t0)] X hlim ?ho ?hcd (by decide) ?hbind ?hkind ?hnd ?h ?c2 ?c3 ?c4
   case ho => k_is
   case hcd => k_is
   case hbind => exact rfl
   case hkind => exact fun x hx => by rw [List.mem_singleton.mp hx]; exact .inr ⟨rfl, rfl⟩
   case hnd => decide +kernel
   case c2 => exact rfl
   case c3 => exact rfl
   case c4 => exact rfl
   intro L h' tk cells hL F N C
   obtain ⟨qs, e73, ht73, hr73⟩ := id T
   have hL73 : 73 < L := hL ▸ Heap.lt_size e73
   have N := newsT73 F N e73
   have F := frG7 F
   cases C with | cons d1 C => ?_
   cases C with | cons d2 C => ?_
   cases C with | cons d3 C => ?_
   cases C with | cons d4 C => ?_
   cases C with | cons d5 C => ?_
   cases C with | cons d6 C => ?_
   cases C with | cons d7 C => ?_
   cases C
   simp only [List.cons_append, List.nil_append] at N
   repeat' ((fail_if_success (with_reducible show ite _ _ _)); walk1)
   rw [if_neg (by rw [h1]; exact Bool.false_ne_true)]
   repeat' ((fail_if_success (with_reducible show ite _ _ _)); walk1)
   rw [if_pos h2]
   repeat' ((fail_if_success (with_reducible show wpAny _ _ (exec (Stmt.FunctionDef _ _ _ _ _ _ _ _ _) _) _ _ _)); walk1)
   rename Fr (g7 s.heap) L _ _ => F1
   rename News (g7 s.heap) L _ _ => N1
   rename Heap => h1
   have X1 : (KK w).In h1 := fun a o e => F1.keep a o (XG a o e)
   have T1 : Tab73 h1 := by
     refine ⟨qs, (N1 (73, _) (by simp)).1, ht73, fun pos v q => ?_⟩
     obtain ⟨c, a, b, z⟩ := hr73 pos v q
     exact ⟨c, a, b, codeRec_move z fun o e => F1.keep _ _ (g7_in e (Nat.ne_of_gt (Nat.lt_trans (by decide : 73 < 80) b)))⟩
   have B1 : Bm h1 := let ⟨sl, e⟩ := B; ⟨sl, F1.keep _ _ (g7_plain T e rfl)⟩
   refine' def_sel (m := mg) rfl rfl rfl rfl (by kernel_rfl) ?hcl ?hne rfl rfl X1 T1 B1 rfl (TT.g.keeps F1.keep) ?hbm rfl rfl F1.ns ?hLn ?hQ
   case hcl => with_unfolding_all rfl
   case hne => rfl
   case hbm => exact mg_of (K := KK w) XG TT.g (by kernel_rfl)
   case hLn => exact Nat.ne_of_gt hL73
   case hQ =>
     intro f c ct h2 tk2 K2 T2 hf n2 o2 r2
     have KA : ∀ b o, b ≠ 73 → s.heap.get? b = some o → h2.get? b = some o := fun b o hb e =>
       K2 b o hb (fun q => absurd (Heap.lt_size e) (by rw [show b = L from q, hL]; exact Nat.lt_irrefl _)) (F1.keep b o (g7_in e hb))
     have FN : s.heap.get? f = none := by
       cases z : s.heap.get? f with
       | none => rfl
       | some o =>
         exfalso
         have z73 : f ≠ 73 := fun q => by obtain ⟨_, e, _⟩ := T1; rw [q] at hf; rw [show h1.get? 73 = none from hf] at e; cases e
         have := F1.keep f o (g7_in z z73)
         rw [show h1.get? f = none from hf] at this
         cases this
     have hc := selCells 8 N1 K2 (by intro p hp; simp only [List.take, List.mem_cons, List.not_mem_nil, or_false] at hp; rcases hp with rfl | rfl | rfl | rfl | rfl | rfl | rfl | rfl <;> exact Nat.ne_of_gt (by omega))
     have F2 : Fr (g7 s.heap) L h2 _ := ⟨n2, fun b o e => KA b o (g7_get e).2 (g7_get e).1, F1.above⟩
     have SF : SelFn w h2 f NoNs :=
       ⟨_, _, _, _, _, _, _, _, _, _, _, _, _, _, o2, rfl, rfl, rfl, rfl, r2, fun a b => rfl, by dsimp only; decide, rfl, rfl, rfl, by decide, by decide, hc, fun d u Lg av vs ps ht =>
         turnB (ps := ps) ⟨⟨rfl, rfl, rfl, rfl, rfl, rfl⟩, rfl⟩ ht (.tail _ (.tail _ (.tail _ (.tail _ (.tail _ (.tail _ (.head _))))))) (by assumption) (.tail _ (.tail _ (.tail _ (.tail _ (.tail _ (.head _)))))) (by assumption)⟩
     clear N1
     have N1 : News (g7 s.heap) L h2 [] := News.nil
     clear F1 F o2
     dsimp only
     repeat' ((fail_if_success (with_reducible show R _ _)); walk1)
     exact hR f h2 _ KA T2 FN SF
end Mine
end

section
open PySem PySem.W PyProof.Rows PySem.Calls PySem.Spec
namespace Mine
set_option maxHeartbeats 8000000 in
theorem prepC0 {w : World} {mean : ExcName → Option Value} {mg mb : Str → Option Value} {lo : List Str} (s : Shared) (X : (KK w).In s.heap) (B : Bm s.heap) (T : Tab73 s.heap) (TT : Top topProg lo mean mg mb (g7 s.heap)) (tg : Str) (t0 : Tok) (htg : TxtOk 200 tg) (h1 : (tg == Str.ofString "{*}*") = false) (h2 : (tg == Str.ofString "{}*") = false) (h3 : (Txt.slice tg none (some 3) == Str.ofString "{*}") = true)
   (R : Result → Shared → Prop)
   (hR : ∀ f h' tk', (∀ b o, b ≠ 73 → s.heap.get? b = some o → h'.get? b = some o) → Tab73 h' → s.heap.get? f = none → SelFn w h' f (Named (Txt.slice tg (some 3) none) (Txt.slice tg (some 2) none) (-(Txt.slice tg (some 2) none).length)) → R (.ok (.ret (.ref f))) { s with heap := h', toks := tk' })
    : codeAny (model prog w) (AB 500 1500) (.call (.ref 78) ⟨[.str tg t0], []⟩) R s := by
   have hlim := noLimit X
   have hlt := htg.2
   have X0 := X
   have XG := g7_inK T X
   revert X XG
   dsimp only [prog, KK]
   k_fill
   intro X XG
   refine' enterC (K := TP.heap_39 w.params) [(Str.ofString "tag", .str tg t0)] X hlim ?ho ?hcd (by decide) ?hbind ?hkind ?hnd ?h ?c2 ?c3 ?c4
   case ho => k_is
   case hcd => k_is
   case hbind => exact rfl
   case hkind => exact fun x hx => by rw [List.mem_singleton.mp hx]; exact .inr ⟨rfl, rfl⟩
   case hnd => decide +kernel
   case c2 => exact rfl
   case c3 => exact rfl
   case c4 => exact rfl
   intro L h' tk cells hL F N C
   obtain ⟨qs, e73, ht73, hr73⟩ := id T
   have hL73 : 73 < L := hL ▸ Heap.lt_size e73
   have N := newsT73 F N e73
   have F := frG7 F
   cases C with | cons d1 C => ?_
   cases C with | cons d2 C => ?_
   cases C with | cons d3 C => ?_
   cases C with | cons d4 C => ?_
   cases C with | cons d5 C => ?_
   cases C with | cons d6 C => ?_
   cases C with | cons d7 C => ?_
   cases C
   simp only [List.cons_append, List.nil_append] at N
   repeat' ((fail_if_success (with_reducible show ite _ _ _)); walk1)
   rw [if_neg (by rw [h1]; exact Bool.false_ne_true)]
   repeat' ((fail_if_success (with_reducible show ite _ _ _)); walk1)
   rw [if_neg (by rw [h2]; exact Bool.false_ne_true)]
   repeat' ((fail_if_success (with_reducible show ite _ _ _)); walk1)
   rw [if_pos h3]
   repeat' walk1
   refine nm_slice (by assumption) XG TT ?_ rfl rfl rfl rfl
   repeat' walk1
   refine slice_K (by assumption) (by assumption) ?_
   intro D' h' F' N' l1
   try k_lt l1
   try k_sweep
   repeat' ((fail_if_success (with_reducible show wpAny _ _ (exec (Stmt.FunctionDef _ _ _ _ _ _ _ _ _) _) _ _ _)); walk1)
   rename Fr (g7 s.heap) L _ _ => F1
   rename News (g7 s.heap) L _ _ => N1
   rename Heap => h1
   have X1 : (KK w).In h1 := fun a o e => F1.keep a o (XG a o e)
   have T1 : Tab73 h1 := by
     refine ⟨qs, (N1 (73, _) (by simp)).1, ht73, fun pos v q => ?_⟩
     obtain ⟨c, a, b, z⟩ := hr73 pos v q
     exact ⟨c, a, b, codeRec_move z fun o e => F1.keep _ _ (g7_in e (Nat.ne_of_gt (Nat.lt_trans (by decide : 73 < 80) b)))⟩
   have B1 : Bm h1 := let ⟨sl, e⟩ := B; ⟨sl, F1.keep _ _ (g7_plain T e rfl)⟩
   refine' def_sel (m := mg) rfl rfl rfl rfl (by kernel_rfl) ?hcl ?hne rfl rfl X1 T1 B1 rfl (TT.g.keeps F1.keep) ?hbm rfl rfl F1.ns ?hLn ?hQ
   case hcl => with_unfolding_all rfl
   case hne => rfl
   case hbm => exact mg_of (K := KK w) XG TT.g (by kernel_rfl)
   case hLn => exact Nat.ne_of_gt hL73
   case hQ =>
     intro f c ct h2 tk2 K2 T2 hf n2 o2 r2
     have KA : ∀ b o, b ≠ 73 → s.heap.get? b = some o → h2.get? b = some o := fun b o hb e =>
       K2 b o hb (fun q => absurd (Heap.lt_size e) (by rw [show b = L from q, hL]; exact Nat.lt_irrefl _)) (F1.keep b o (g7_in e hb))
     have FN : s.heap.get? f = none := by
       cases z : s.heap.get? f with
       | none => rfl
       | some o =>
         exfalso
         have z73 : f ≠ 73 := fun q => by obtain ⟨_, e, _⟩ := T1; rw [q] at hf; rw [show h1.get? 73 = none from hf] at e; cases e
         have := F1.keep f o (g7_in z z73)
         rw [show h1.get? f = none from hf] at this
         cases this
     have hc := selCells 9 N1 K2 (by intro p hp; simp only [List.take, List.mem_cons, List.not_mem_nil, or_false] at hp; rcases hp with rfl | rfl | rfl | rfl | rfl | rfl | rfl | rfl | rfl <;> exact Nat.ne_of_gt (by omega))
     have F2 : Fr (g7 s.heap) L h2 _ := ⟨n2, fun b o e => KA b o (g7_get e).2 (g7_get e).1, F1.above⟩
     have SF : SelFn w h2 f (Named (Txt.slice tg (some 3) none) (Txt.slice tg (some 2) none) (-(Txt.slice tg (some 2) none).length)) :=
       ⟨_, _, _, _, _, _, _, _, _, _, _, _, _, _, o2, rfl, rfl, rfl, rfl, r2, fun a b => rfl, by dsimp only; decide, rfl, rfl, rfl, by decide, by decide, hc, fun d u Lg av vs ps ht =>
         turnC (ps := ps) (tj := _) (tn := _) (ts := _) ⟨⟨rfl, rfl, rfl, rfl, rfl, rfl⟩, rfl⟩ ht (.tail _ (.tail _ (.tail _ (.tail _ (.tail _ (.tail _ (.tail _ (.head _)))))))) (by assumption) (.tail _ (.tail _ (.tail _ (.tail _ (.tail _ (.tail _ (.head _))))))) (by assumption) rfl rfl rfl rfl rfl rfl
           (.tail _ (.tail _ (.tail _ (.tail _ (.tail _ (.head _)))))) (by assumption) (.tail _ (.tail _ (.head _))) (by assumption) (.tail _ (.tail _ (.tail _ (.tail _ (.tail _ (.tail _ (.tail _ (.tail _ (.head _))))))))) (by assumption) (.head _)⟩
     clear N1
     have N1 : News (g7 s.heap) L h2 [] := News.nil
     clear F1 F o2
     dsimp only
     repeat' ((fail_if_success (with_reducible show R _ _)); walk1)
     exact hR f h2 _ KA T2 FN SF
end Mine
end

section
open PySem PySem.W PyProof.Rows PySem.Calls PySem.Spec
namespace Mine
set_option maxHeartbeats 8000000 in
theorem prepD0 {w : World} {mean : ExcName → Option Value} {mg mb : Str → Option Value} {lo : List Str} (s : Shared) (X : (KK w).In s.heap) (B : Bm s.heap) (T : Tab73 s.heap) (TT : Top topProg lo mean mg mb (g7 s.heap)) (tg : Str) (t0 : Tok) (htg : TxtOk 200 tg) (h1 : (tg == Str.ofString "{*}*") = false) (h2 : (tg == Str.ofString "{}*") = false) (h3 : (Txt.slice tg none (some 3) == Str.ofString "{*}") = false) (h4 : (Txt.slice tg (some (-2)) none == Str.ofString "}*") = true)
   (R : Result → Shared → Prop)
   (hR : ∀ f h' tk', (∀ b o, b ≠ 73 → s.heap.get? b = some o → h'.get? b = some o) → Tab73 h' → s.heap.get? f = none → SelFn w h' f (HasNs (Txt.slice tg none (some (-1))) (Txt.slice tg none (some (-1))).length) → R (.ok (.ret (.ref f))) { s with heap := h', toks := tk' })
    : codeAny (model prog w) (AB 500 1500) (.call (.ref 78) ⟨[.str tg t0], []⟩) R s := by
   have hlim := noLimit X
   have hlt := htg.2
   have X0 := X
   have XG := g7_inK T X
   revert X XG
   dsimp only [prog, KK]
   k_fill
   intro X XG
   refine' enterC (K := TP.heap_39 w.params) [(Str.ofString "tag", .str tg t0)] X hlim ?ho ?hcd (by decide) ?hbind ?hkind ?hnd ?h ?c2 ?c3 ?c4
   case ho => k_is
   case hcd => k_is
   case hbind => exact rfl
   case hkind => exact fun x hx => by rw [List.mem_singleton.mp hx]; exact .inr ⟨rfl, rfl⟩
   case hnd => decide +kernel
   case c2 => exact rfl
   case c3 => exact rfl
   case c4 => exact rfl
   intro L h' tk cells hL F N C
   obtain ⟨qs, e73, ht73, hr73⟩ := id T
   have hL73 : 73 < L := hL ▸ Heap.lt_size e73
   have N := newsT73 F N e73
   have F := frG7 F
   cases C with | cons d1 C => ?_
   cases C with | cons d2 C => ?_
   cases C with | cons d3 C => ?_
   cases C with | cons d4 C => ?_
   cases C with | cons d5 C => ?_
   cases C with | cons d6 C => ?_
   cases C with | cons d7 C => ?_
   cases C
   simp only [List.cons_append, List.nil_append] at N
   repeat' ((fail_if_success (with_reducible show ite _ _ _)); walk1)
   rw [if_neg (by rw [h1]; exact Bool.false_ne_true)]
   repeat' ((fail_if_success (with_reducible show ite _ _ _)); walk1)
   rw [if_neg (by rw [h2]; exact Bool.false_ne_true)]
   repeat' ((fail_if_success (with_reducible show ite _ _ _)); walk1)
   rw [if_neg (by rw [h3]; exact Bool.false_ne_true)]
   repeat' ((fail_if_success (with_reducible show ite _ _ _)); walk1)
   rw [if_pos h4]
   repeat' walk1
   refine nm_slice (by assumption) XG TT ?_ rfl rfl rfl rfl
   repeat' walk1
   refine slice_K (by assumption) (by assumption) ?_
   intro D' h' F' N' l1
   try k_lt l1
   try k_sweep
   repeat' ((fail_if_success (with_reducible show wpAny _ _ (exec (Stmt.FunctionDef _ _ _ _ _ _ _ _ _) _) _ _ _)); walk1)
   rename Fr (g7 s.heap) L _ _ => F1
   rename News (g7 s.heap) L _ _ => N1
   rename Heap => h1
   have X1 : (KK w).In h1 := fun a o e => F1.keep a o (XG a o e)
   have T1 : Tab73 h1 := by
     refine ⟨qs, (N1 (73, _) (by simp)).1, ht73, fun pos v q => ?_⟩
     obtain ⟨c, a, b, z⟩ := hr73 pos v q
     exact ⟨c, a, b, codeRec_move z fun o e => F1.keep _ _ (g7_in e (Nat.ne_of_gt (Nat.lt_trans (by decide : 73 < 80) b)))⟩
   have B1 : Bm h1 := let ⟨sl, e⟩ := B; ⟨sl, F1.keep _ _ (g7_plain T e rfl)⟩
   refine' def_sel (m := mg) rfl rfl rfl rfl (by kernel_rfl) ?hcl ?hne rfl rfl X1 T1 B1 rfl (TT.g.keeps F1.keep) ?hbm rfl rfl F1.ns ?hLn ?hQ
   case hcl => with_unfolding_all rfl
   case hne => rfl
   case hbm => exact mg_of (K := KK w) XG TT.g (by kernel_rfl)
   case hLn => exact Nat.ne_of_gt hL73
   case hQ =>
     intro f c ct h2 tk2 K2 T2 hf n2 o2 r2
     have KA : ∀ b o, b ≠ 73 → s.heap.get? b = some o → h2.get? b = some o := fun b o hb e =>
       K2 b o hb (fun q => absurd (Heap.lt_size e) (by rw [show b = L from q, hL]; exact Nat.lt_irrefl _)) (F1.keep b o (g7_in e hb))
     have FN : s.heap.get? f = none := by
       cases z : s.heap.get? f with
       | none => rfl
       | some o =>
         exfalso
         have z73 : f ≠ 73 := fun q => by obtain ⟨_, e, _⟩ := T1; rw [q] at hf; rw [show h1.get? 73 = none from hf] at e; cases e
         have := F1.keep f o (g7_in z z73)
         rw [show h1.get? f = none from hf] at this
         cases this
     have hc := selCells 9 N1 K2 (by intro p hp; simp only [List.take, List.mem_cons, List.not_mem_nil, or_false] at hp; rcases hp with rfl | rfl | rfl | rfl | rfl | rfl | rfl | rfl | rfl <;> exact Nat.ne_of_gt (by omega))
     have F2 : Fr (g7 s.heap) L h2 _ := ⟨n2, fun b o e => KA b o (g7_get e).2 (g7_get e).1, F1.above⟩
     have SF : SelFn w h2 f (HasNs (Txt.slice tg none (some (-1))) (Txt.slice tg none (some (-1))).length) :=
       ⟨_, _, _, _, _, _, _, _, _, _, _, _, _, _, o2, rfl, rfl, rfl, rfl, r2, fun a b => rfl, by dsimp only; decide, rfl, rfl, rfl, by decide, by decide, hc, fun d u Lg av vs ps ht =>
         turnD (ps := ps) (tj := _) (tn := _) ⟨⟨rfl, rfl, rfl, rfl, rfl, rfl⟩, rfl⟩ ht (.tail _ (.tail _ (.tail _ (.tail _ (.tail _ (.tail _ (.tail _ (.head _)))))))) (by assumption) (.tail _ (.tail _ (.tail _ (.tail _ (.tail _ (.tail _ (.head _))))))) (by assumption) rfl rfl rfl rfl
           (.tail _ (.tail _ (.tail _ (.head _)))) (by assumption) (.tail _ (.tail _ (.tail _ (.tail _ (.head _))))) (by assumption) (.head _)⟩
     clear N1
     have N1 : News (g7 s.heap) L h2 [] := News.nil
     clear F1 F o2
     dsimp only
     repeat' ((fail_if_success (with_reducible show R _ _)); walk1)
     exact hR f h2 _ KA T2 FN SF
end Mine
end

section
open PySem PySem.W PyProof.Rows PySem.Calls PySem.Spec
open Sem (wp)
namespace Mine
/-- a generator of a select's, not yet woken -/
def GenReady (w : World) (av : Addr → Prop) (vs : List Value) (ps : List Pl) (pick : Pl → Bool) (lo ga : Addr) (g : Nat) (s : Shared) : Prop :=
  ∃ (genv : Env) (x r : Str) (px pr fp : Pos) (pre : List Stmt) (test : PySem.Expr) (yp ep ip ype : Pos) (cells : List (Addr × Obj)) (ax : Addr) (m : Str → Option Value),
    lo ≤ genv.locals ∧ s.heap.IsGen ga g ∧ s.heap.NoLimit ∧ s.gens[g]? = some (.fresh (.func [.For (.Name x px) (.Name r pr) (pre ++ [.If test [.Expr (.Yield (some (.Name x ype)) yp) ep] [] ip]) [] fp] genv)) ∧
    genv.locals < ga ∧ ga + 1 = s.heap.objs.size ∧ s.heap.Ns genv.locals m ∧ m r = some (.ref ax) ∧ s.heap.IsList ax (List.toArray vs) ∧ ax < genv.locals ∧ cStatics < genv.locals ∧
    SelBase genv.locals cells av vs ps s.heap ∧ (∀ p ∈ cells, p.1 < genv.locals) ∧ (∀ b, av b → b < genv.locals) ∧
    (∀ d u, TurnOk w d u genv x pre test (List.toArray vs) (fun i => pick (ps.getD i p0)) (SelBase genv.locals cells av vs ps)) ∧
    genv.kindOf x = some .local ∧ genv.kindOf r = some .local ∧ genv.scope.kind = .function ∧ genv.scope.isCoroutine = false ∧ (x == ("__debug__" : Str)) = false ∧ (r == ("__debug__" : Str)) = false
section
variable {w : World} {A : Around} {E : Value → Shared → Prop} {s : Shared}
theorem call_sel {f : Addr} {pick : Pl → Bool} {ax : Addr} {vs : List Value} {ps : List Pl} {av : Addr → Prop} {R : Result → Shared → Prop} (hroom : A.depth < recursionLimit) (S : SelFn w s.heap f pick) (hlim : s.heap.NoLimit)
    (hli : s.heap.IsList ax (List.toArray vs)) (hps : PlacesAt av s.heap vs ps) (hav : ∀ b, av b → b < s.heap.objs.size) (ht : ∀ p ∈ ps, TagOk p)
    (hR : ∀ ga h' tk gs, Ext s.heap h' → GenReady w av vs ps pick s.heap.objs.size ga s.gens.size { s with heap := h', toks := tk, gens := gs } → (AllBare s.gens → AllBare gs) → R (.ok (.ret (.ref ga))) { s with heap := h', toks := tk, gens := gs }) :
    codeAny (model prog w) A (.call (.ref f) ⟨[.none, .ref ax], []⟩) R s := by
  obtain ⟨fd, x, cx, r, px, pr, fp, pre, test, yp, ep, ip, ype, cells, ho, hco, hgen, hk, hbody, hcd, hbind, hcell, lcx, lr, lx, dx, dr, hcs, hT⟩ := S
  refine codeAny_call_generator hroom ho rfl hco hgen hbody hcd ?_
  rw [hbind]
  refine wpAny_pure (wpAny_newFunctionEnv hcell (fun y hy => ?_) (fun h₁ hns hsb => ?_) hk)
  · simp at hy
    rcases hy with rfl | rfl
    · exact lcx
    · exact lr
  have k₁ : ∀ b o, s.heap.get? b = some o → h₁.get? b = some o := fun b o e => hsb.extBut b o (Nat.ne_of_lt (Heap.lt_size e)) (Heap.get?_push_of_some _ e)
  have lim₁ : h₁.NoLimit := hlim.keeps k₁
  refine ⟨lim₁, ?_⟩
  have E2 : Ext s.heap (h₁.push { cls := .type "generator", data := .fields #[.int s.gens.size 0, .str fd.name (s.toks + 2), .str fd.qualname (s.toks + 2 + 1)] }) := fun b o e => Heap.get?_push_of_some _ (k₁ b o e)
  have hLlt : s.heap.objs.size < h₁.objs.size := hns.lt
  refine hR _ _ _ _ E2 ⟨newEnv fd.scope s.heap.objs.size fd.globals fd.closure (fd.qualname ++ ".<locals>.") (some f) fd.code none fd.builtins, x, r, px, pr, fp, pre, test, yp, ep, ip, ype, cells, ax, _, Nat.le_refl _, ?_, ?_, ?_, hLlt, ?_, hns.push _, ?_, ?_, ?_, ?_, ?_, ?_, hav, fun d u => hT d u _ av vs ps ht, lx, lr, hk, hco, dx, dr⟩ ?_
  · exact ⟨_, _, _, Heap.get?_push_size _ rfl, rfl, rfl, rfl⟩
  · exact lim₁.keeps fun b o e => Heap.get?_push_of_some _ e
  · simp
  · show h₁.objs.size + 1 = (h₁.push _).objs.size; rw [Heap.size_push]
  · show List.lookup r [(r, Value.ref ax), (cx, Value.none)] = _
    simp
  · exact Keep.list (Ext.keep E2) hli
  · obtain ⟨o, e, _⟩ := hli; exact Heap.lt_size e
  · obtain ⟨mc, ⟨o, _, _, e, _⟩, _⟩ := hlim; exact Heap.lt_size e
  · exact ⟨fun p hp => ⟨Nat.ne_of_lt (Heap.lt_size (hcs p hp)), E2 _ _ (hcs p hp)⟩, fun b hb => Nat.ne_of_lt (hav b hb), hps.move fun b o _ e => E2 b o e⟩
  · exact fun p hp => Heap.lt_size (hcs p hp)
  · exact fun G => G.push rfl

theorem paired_ints {f : Nat → Nat} : ∀ {l : List Nat} {ys : List Value}, Paired (fun j y => ∃ t, y = Value.int (f j) t) l ys → IntsAre ys (l.map fun j => (f j : Int))
  | _, _, .nil => .nil
  | _, _, .cons ⟨t, e⟩ r => by subst e; exact .cons _ _ (paired_ints r)
theorem map_getD_range {l : List Nat} : ((List.range l.length).map fun j => ((l.getD j 0 : Nat) : Int)) = l.map fun (k : Nat) => (k : Int) := by
  refine List.ext_getElem (by simp) fun i h1 h2 => ?_
  simp at h1
  simp [h1]
theorem ksFrom_len (pz : Nat → Bool) (N : Nat) : (ksFrom pz N 0).length ≤ N := by
  rw [ksFrom_zero]
  exact Nat.le_trans (List.length_filter_le _ _) (by rw [List.length_range]; exact Nat.le_refl _)
theorem mem_ksFrom {pz : Nat → Bool} {N k : Nat} (h : k ∈ ksFrom pz N 0) : k < N := by
  rw [ksFrom_zero] at h
  exact List.mem_range.mp (List.mem_filter.mp h).1
theorem nor_lt {b a : Addr} (h : @LT.lt Nat _ b (a + 1)) : ¬ (b = a + 2 ∨ b = a + 1) := fun q => q.elim (Nat.ne_of_lt (Nat.lt_succ_of_lt h)) (Nat.ne_of_lt h)
theorem lt_ne {a b : Addr} (h : @LT.lt Nat _ a b) : a ≠ b := Nat.ne_of_lt h
theorem gt_ne {a b : Addr} (h : @LT.lt Nat _ b a) : a ≠ b := Nat.ne_of_gt h
/-- [place.number for place in GENERATOR] -/
theorem comp_sel {d u : Nat} {env : Env} {x : Str} {px ap xp : Pos} {iter : PySem.Expr} {scope : Scope} {cl : List (Str × Addr)} {pos : Pos} {Q : Value → Shared → Prop} {pick : Pl → Bool} {vs : List Value} {ps : List Pl} {av : Addr → Prop}
    (f : Fit A d u) (hroom : A.depth < recursionLimit) (hclos : closureFor scope env = pure cl) (hkind : scope.kind = .function) (hnames : ∀ y ∈ scope.names, y.2 = .local → scope.names.lookup y.1 = some .local)
    (hcell : ∀ y ∈ scope.names, y.2 ≠ .cell) (hx : scope.names.lookup x = some .local) (hdx : (x == ("__debug__" : Str)) = false) (hn : vs.length ≤ 100)
    (h : wpAny (model prog w) A (eval iter env) (fun xv s₁ => ∃ lo ga g, xv = .ref ga ∧ GenReady w av vs ps pick lo ga g s₁ ∧
      (∀ D h' tk gs ys, s₁.heap.get? D = none → h'.IsList D ys → IntsAre ys.toList ((ksFrom (fun i => pick (ps.getD i p0)) vs.length 0).map fun (k : Nat) => (k : Int)) → (∀ b o, b < lo → s₁.heap.get? b = some o → h'.get? b = some o) → (AllBare s₁.gens → AllBare gs) →
        Q (.ref D) { s₁ with heap := h', toks := tk, gens := gs })) E s)
    (hs : ∀ x, foldedSetIterable iter env x = pure x := by intro _; rfl) :
    wpAny (model prog w) A (eval (.ListComp (.Attribute (.Name x xp) sNumber ap) [⟨.Name x px, iter, [], 0⟩] scope pos) env) Q E s := by
  have hh := f.h
  rw [eval_ListComp]
  refine wpAny_comprehension_free rfl hs hclos hkind hnames (wpAny_mono h (fun xv s₁ h₁ => ?_) fun _ _ e => e)
  obtain ⟨low, ga, g, rfl, ⟨genv, xg, r, pxg, pr, fp, pre, test, yp, ep, ip, ype, cells, ax, m, hlow, hg, hlim, hgs, hLga, hgaS, hns, hmr, hli, haxL, hcsL, hba, hcs, hav, hT, kx, kr, kk, kco, dxg, dr⟩, hQ⟩ := h₁
  refine wpAny_pyIter_gen hg (wpAny_newObj_type (hd := by size_fits) (wpAny_newFunctionEnv hcell (by intro y hy; simp at hy) (fun h₁ hns₁ hsb₁ => ?_) hkind))
  dsimp only at hns₁ hsb₁ ⊢
  generalize hH2 : s₁.heap.push { cls := .type "list", dict := none, data := .seq ([] : List Value).toArray } = H2 at hns₁ hsb₁ ⊢
  have hD : s₁.heap.objs.size = ga + 1 := hgaS.symm
  have hC : H2.objs.size = ga + 2 := by rw [← hH2, Heap.size_push, hD]
  rw [hC] at hns₁ hsb₁ ⊢
  rw [hD]
  have old : ∀ b o, s₁.heap.get? b = some o → h₁.get? b = some o := fun b o e => by
    have hb := Heap.lt_size e
    rw [hD] at hb
    exact hsb₁.extBut b o (Nat.ne_of_lt (Nat.lt_succ_of_lt hb)) (Heap.get?_push_of_some _ (hH2 ▸ Heap.get?_push_of_some _ e))
  have hacc : h₁.IsList (ga + 1) #[] := ⟨_, hsb₁.extBut _ _ (Nat.ne_of_lt (Nat.lt_succ_self _)) (Heap.get?_push_of_some _ (hH2 ▸ hD ▸ Heap.get?_push_size _ rfl)), rfl, _, rfl⟩
  have hli₁ : h₁.IsList ax (List.toArray vs) := Keep.list (Ext.keep old) hli
  have hg₁ : h₁.IsGen ga g := hg.keeps old
  have hlim₁ : h₁.NoLimit := hlim.keeps old
  have hba₁ : SelBase genv.locals cells av vs ps h₁ := hba.mv fun b o _ e => old b o e
  have hns' : h₁.Ns genv.locals m := hns.keeps old
  have hLga : @LT.lt Nat _ genv.locals ga := hLga
  have haxL : @LT.lt Nat _ ax genv.locals := haxL
  have hcsL : @LT.lt Nat _ cStatics genv.locals := hcsL
  have hav : ∀ b, av b → @LT.lt Nat _ b genv.locals := hav
  have hcs : ∀ p, p ∈ cells → @LT.lt Nat _ p.1 genv.locals := hcs
  have lo : ∀ b, @LT.lt Nat _ b genv.locals → @LT.lt Nat _ b (ga + 3) ∧ b ≠ genv.locals ∧ ¬ (b = ga + 2 ∨ b = ga + 1) := fun b hb => ⟨by omega, lt_ne hb, nor_lt (by omega)⟩
  have loop : codeAny (model prog w) A (.compLoop (.ListComp (.Attribute (.Name x xp) sNumber ap) [⟨.Name x px, iter, [], 0⟩] scope pos) 0 (.ref ga) (.ref (ga + 1)) (compEnvC scope cl (ga + 2) env))
        (compPost (model prog w) A E none Q (.ref (ga + 1)) (ga + 2)) { s₁ with heap := h₁, toks := s₁.toks + ([] : List (Str × Value)).length } := by
    refine comp_loop (Cl := fun b => b = ga + 2 ∨ b = ga + 1) (own := fun b => b = ga + 2) (Var := fun v h => ∃ m, h.Ns (ga + 2) m ∧ m x = some v) (Var0 := fun h => ∃ m, h.Ns (ga + 2) m) (fun _ => true)
      (fun j y _ => ∃ t, y = Value.int (((ksFrom (fun i => pick (ps.getD i p0)) (List.toArray vs).size 0).getD j 0 : Nat) : Int) t)
      (Itr.gen (A := A) (Lg := genv.locals) (Z := ga + 3) (ga := ga) (g := g) (items := List.toArray vs) (pz := fun i => pick (ps.getD i p0)) hh hroom (Nat.lt_of_lt_of_le (Nat.lt_succ_self ga) (Nat.le_add_right (ga + 1) 2)) (gt_ne hLga) (lo _ hcsL).1 (lt_ne hcsL) (nor_lt (Nat.lt_succ_self _)) (lo _ hcsL).2.2 (c0 := ga + 2) rfl (gt_ne (by omega)) (.inl rfl)) _
      (fun b e => by subst e; exact ⟨Nat.lt_succ_self _, gt_ne (by omega)⟩) (fun b e => .inl e) ⟨Nat.lt_succ_of_lt (Nat.lt_succ_self _), gt_ne (by omega)⟩ (.inr rfl) (lt_ne (Nat.lt_succ_self _))
      (fun b e => e) (fun b h e hv => by subst e; obtain ⟨m, o, es, ep, e2, _⟩ := hv; rw [e2]; rfl)
      (fun v h ⟨m, a, _⟩ => ⟨m, a⟩) (fun h h' ⟨m, o, es, ep, e, r⟩ k => ⟨m, o, es, ep, k _ _ rfl e, r⟩) (fun v h h' ⟨m, ⟨o, es, ep, e, r⟩, z⟩ k => ⟨m, ⟨o, es, ep, k _ _ rfl e, r⟩, z⟩)
      ?asg (fun _ _ _ _ z _ => z) ?turn (Nat.le_trans (ksFrom_len _ _) (by rw [List.size_toArray]; exact Nat.le_trans hn (by decide))) ⟨?i1, hg₁, hlim₁, _, hgs, ?i2⟩ ⟨_, hns₁⟩ hacc ?fin
    case i1 => obtain ⟨o, es, ep, e, _⟩ := hns₁; show (h₁.get? _).isSome = true; rw [e]; rfl
    case i2 =>
      intro s'' ag hz
      have ag' : ∀ b o, b < genv.locals → h₁.get? b = some o → s''.heap.get? b = some o := fun b o hb e => ag b o (lo b hb).2.2 e
      refine ⟨rfl, ?_⟩
      refine seg_start (A := A.in1) (f.in1) (hT _ _) ?_ ?_ (Nat.ne_of_lt haxL) (lo ax haxL).2.2 (nor_lt (by omega)) (by rintro b (rfl | rfl); exact Nat.lt_succ_self _; exact Nat.lt_succ_of_lt (Nat.lt_succ_self _)) (lo _ haxL).1 (Nat.lt_of_lt_of_le hLga (Nat.le_add_right ga 3)) kx kr kk kco dxg dr s'' m ?_ hmr ?_ ?_ hz
      · intro I h h' hI hb k
        exact ⟨fun p hp => ⟨(hb.1 p hp).1, k _ _ (hb.1 p hp).1 (lt_ne (Nat.lt_of_lt_of_le (lo _ (hcs p hp)).1 hI)) (hb.1 p hp).2⟩, hb.2.1, hb.2.2.move fun b o z e => k b o (hb.2.1 b z) (lt_ne (Nat.lt_of_lt_of_le (lo _ (hav b z)).1 hI)) e⟩
      · intro h h' hb k
        exact ⟨fun p hp => ⟨(hb.1 p hp).1, k _ _ (lo _ (hcs p hp)).2.2 (hb.1 p hp).2⟩, hb.2.1, hb.2.2.move fun b o z e => k b o (lo _ (hav b z)).2.2 e⟩
      · obtain ⟨o, es, ep, e, z⟩ := hns'; exact ⟨o, es, ep, ag _ _ (nor_lt (Nat.lt_succ_of_lt hLga)) e, z⟩
      · obtain ⟨o, e, z⟩ := hli₁; exact ⟨o, ag' _ _ haxL e, z⟩
      · exact ⟨fun p hp => ⟨(hba₁.1 p hp).1, ag' _ _ (hcs p hp) (hba₁.1 p hp).2⟩, hba₁.2.1, hba₁.2.2.move fun b o z e => ag' b o (hav b z) e⟩
    case asg =>
      rintro v s Q E ⟨m, hm⟩ k
      refine wpAny_assign_Name (wpAny_storeName_local (env := compEnvC scope cl (ga + 2) env) (lookup_relabel_local hx) hm (fun h₂ hn₂ hs₂ => ?_) (by simp [compEnvC, relabel, hkind]))
      exact k _ _ ⟨_, hn₂, by simp⟩ (fun b o hb e => hs₂.extBut b o hb e)
    case turn =>
      rintro j s hj hk ⟨m, hm, hv⟩ _
      refine ifs_nil ⟨rfl, keeps_refl _, fun _ => ?_⟩
      refine Attribute_Name_ (nm_local (genv := compEnvC scope cl (ga + 2) env) hkind (lookup_relabel_local hx) hm hv ?_ hdx) rfl
      have hkk : (ksFrom (fun i => pick (ps.getD i p0)) (List.toArray vs).size 0).getD j 0 < vs.length := by
        have hj' : j < (ksFrom (fun i => pick (ps.getD i p0)) (List.toArray vs).size 0).length := hj
        rw [List.getD_eq_getElem?_getD, List.getElem?_eq_getElem hj']
        exact Nat.lt_of_lt_of_eq (mem_ksFrom (List.getElem_mem hj')) (by simp)
      have P : PlacesAt av s.heap vs ps := hba₁.2.2.move fun b o z e => hk b o ⟨(lo _ (hav b z)).1, (lo _ (hav b z)).2.1⟩ (lo _ (hav b z)).2.2 e
      have e : ∀ k, (List.toArray vs).getD k Value.none = vs.getD k .none := fun k => by simp
      rw [e]
      exact at_number (P.2 _ (by rw [← P.1]; exact hkk)) fun tk => ⟨⟨tk, rfl⟩, _, _, rfl, fun _ _ e => e⟩
    case fin =>
      intro h' tk gs ys hv ha hF hk hg' hd'
      obtain ⟨m', hm'⟩ := hv
      refine ⟨m', hm', fun h'' hs'' => ?_⟩
      refine hQ _ h'' tk gs ys (fresh_of_size (by rw [hD]; exact Nat.le_refl _)) (ha.extBut hs''.extBut (lt_ne (Nat.lt_succ_self _))) ?_ ?_ ?_
      · rw [filter_all] at hF
        have := paired_ints hF
        rw [map_getD_range] at this
        rw [List.size_toArray] at this
        exact this
      · intro b o hb e
        have hbL : b ≠ genv.locals := Nat.ne_of_lt (Nat.lt_of_lt_of_le hb hlow)
        have hb' : @LT.lt Nat _ b ga := Nat.lt_trans (Nat.lt_of_lt_of_le hb hlow) hLga
        exact hs''.extBut b o (lt_ne (by omega)) (hk b o ⟨by exact Nat.lt_of_lt_of_le hb' (Nat.le_add_right ga 3), hbL⟩ (nor_lt (by omega)) (old b o e))
      · intro G
        exact (GenOnlyQ.of (show GenOnly g s₁.gens gs from hg') hd' rfl).bare G
  exact codeAny_compStart_list loop (wpAny_pyIter_gen hg₁ loop)
end
end Mine
end

section
open PySem PySem.W PyProof.Rows PySem.Calls PySem.Spec
namespace Mine
/-- what _prepare_tag(tg) does -/
def PrepSel (w : World) (tg : Str) (pick : Pl → Bool) : Prop := ∀ (mean : ExcName → Option Value) (mg mb : Str → Option Value) (lo : List Str) (s : Shared) (_ : (KK w).In s.heap) (_ : Bm s.heap) (_ : Tab73 s.heap) (_ : Top topProg lo mean mg mb (g7 s.heap)) (t0 : Tok)
   (R : Result → Shared → Prop)
   (_ : ∀ f h' tk', (∀ b o, b ≠ 73 → s.heap.get? b = some o → h'.get? b = some o) → Tab73 h' → s.heap.get? f = none → SelFn w h' f pick → R (.ok (.ret (.ref f))) { s with heap := h', toks := tk' }),
    codeAny (model prog w) (AB 500 1500) (.call (.ref 78) ⟨[.str tg t0], []⟩) R s
theorem Tab73.mv {h h' : Heap} (t : Tab73 h) {N : Nat} (hN : h.objs.size ≤ N) (k : ∀ b o, b < N → h.get? b = some o → h'.get? b = some o) : Tab73 h' :=
  let ⟨ps, e, o, r⟩ := t; ⟨ps, k _ _ (Nat.lt_of_lt_of_le (Heap.lt_size e) hN) e, o, fun pos v q => let ⟨c, a, b, z⟩ := r pos v q; ⟨c, a, b, codeRec_move z fun o e => k _ o (Nat.lt_of_lt_of_le (Heap.lt_size e) hN) e⟩⟩
theorem g7_mono {h h' : Heap} (k : ∀ b o, b ≠ 73 → h.get? b = some o → h'.get? b = some o) : Ext (g7 h) (g7 h') := fun b o e => let ⟨e1, n⟩ := g7_get e; g7_in (k b o n e1) n
set_option maxHeartbeats 8000000 in
theorem picked0 {w : World} {mean : ExcName → Option Value} {mg mb : Str → Option Value} {lo : List Str} {av : Addr → Prop} (s : Shared) (X : (KK w).In s.heap) (B : Bm s.heap) (T : Tab73 s.heap) (TT : Top topProg lo mean mg mb (g7 s.heap)) (tg : Str) (t0 : Tok) (pick : Pl → Bool)
   (hprep : PrepSel w tg pick) (pl : Addr) (pvs : List Value) (ps : List Pl) (hpl : s.heap.IsList pl (List.toArray pvs)) (hps : PlacesAt av s.heap pvs ps) (hav : ∀ b, av b → b < s.heap.objs.size ∧ b ≠ 73) (htag : ∀ p ∈ ps, TagOk p) (hn : pvs.length ≤ 100)
   (R : Result → Shared → Prop)
   (hR : ∀ D h' tk gs ys, s.heap.get? D = none → h'.IsList D ys → IntsAre ys.toList ((ksFrom (fun i => pick (ps.getD i p0)) pvs.length 0).map fun (k : Nat) => (k : Int)) → (∀ b o, b ≠ 73 → s.heap.get? b = some o → h'.get? b = some o) → Tab73 h' → (AllBare s.gens → AllBare gs) →
     R (.ok (.ret (.ref D))) { s with heap := h', toks := tk, gens := gs })
    : codeAny (model prog w) (AB 400 1200) (.call (.ref 95) ⟨[.str tg t0, .ref pl], []⟩) R s := by
   have hlim := noLimit X
   have X0 := X
   have hpl73 : pl ≠ 73 := let ⟨o, e, c, _⟩ := hpl; T.ne e (by unfold plainO; rw [c])
   revert X
   dsimp only [prog, KK]
   k_fill
   intro X
   refine' enter (K := TP.heap_39 w.params) [(Str.ofString "wildcard", .str tg t0), (Str.ofString "places", .ref pl)] X hlim ?ho ?hcd (by decide) ?hbind ?hloc ?h ?c2 ?c3 ?c4 ?c5
   case ho => k_is
   case hcd => k_is
   case hbind => exact BindsTo.of_eq rfl
   case hloc => exact locs rfl
   case c2 => exact rfl
   case c3 => exact rfl
   case c4 => exact rfl
   case c5 => decide
   intro L h1 tk1 hL F
   have N : News s.heap L h1 [] := News.nil
   have TB : Top topProg lo mean mg mb s.heap := TT.keeps fun b o e => (g7_get e).1
   try dsimp only
   repeat' ((fail_if_success (with_reducible show wpAny _ _ (eval (Expr.ListComp _ _ _ _) _) _ _ _)); walk1)
   refine comp_sel (pick := pick) (vs := pvs) (ps := ps) (av := av) (cl := []) (⟨rfl, Nat.le_refl _, Nat.le_refl _⟩ : Fit _ _ _) (show 401 < recursionLimit by decide) (closureFor_none (by decide +kernel)) rfl (by decide +kernel) (by decide +kernel) (by decide +kernel) (by decide) hn ?_ (fun _ => rfl)
   refine Call_ ?_ rfl
   repeat' ((fail_if_success (with_reducible show wpAny _ _ (call (Value.ref _) _) _ _ _)); walk1)
   have X1 : (KK w).In h1 := (Ext.keep F.keep).inK X0
   have T1 : Tab73 h1 := T.move fun b o e _ => F.keep b o e
   refine wpAny_call (Fit.code (d := 500) (u := 1500) ⟨rfl, by show 401 ≤ 500; decide, by show 1203 ≤ 1500; decide⟩ (hprep mean mg mb lo _ X1 ((Ext.keep F.keep).bm B) T1 (TT.keeps (g7_mono fun b o _ e => F.keep b o e)) t0 _ ?_))
   intro f h2 tk2 K2 T2 hf SF
   have up2 : ∀ b o, b ≠ 73 → s.heap.get? b = some o → h2.get? b = some o := fun b o hb e => K2 b o hb (F.keep b o e)
   obtain ⟨fd, _, _, _, _, _, _, _, _, _, _, _, _, _, ho, _⟩ := id SF
   have hL73 : L ≠ 73 := by obtain ⟨_, e, _⟩ := T; rw [hL]; exact Nat.ne_of_gt (Heap.lt_size e)
   have n2 : h2.Ns L _ := let ⟨o, es, ep, e, r⟩ := F.ns; ⟨o, es, ep, K2 _ _ hL73 e, r⟩
   have X2 : (KK w).In h2 := fun a o e => up2 a o (T.ne (X0 a o e) (KK_plain w a o e)) (X0 a o e)
   have li2 : h2.IsList pl (List.toArray pvs) := let ⟨o, e, z⟩ := hpl; ⟨o, up2 _ _ hpl73 e, z⟩
   have ps2 : PlacesAt av h2 pvs ps := hps.move fun b o z e => up2 b o (hav b z).2 e
   have hLh2 : @LT.lt Nat _ L h2.objs.size := n2.lt
   have hsz : ∀ b, @LT.lt Nat _ b s.heap.objs.size → @LT.lt Nat _ b h2.objs.size := fun b hb => Nat.lt_trans (hL ▸ hb) hLh2
   dsimp only
   refine callWith_def (o := ⟨.type "function", none, .func fd, #[]⟩) (fd := fd) rfl (args_cons (Constant_none (args_cons (nm_local rfl rfl n2 rfl (args_nil ⟨ho, wpAny_call (call_sel (av := av) (show 401 < recursionLimit by decide) SF (noLimit X2) li2 ps2 (fun b z => hsz b (hav b z).1) htag ?_)⟩) (by decide)))))
   intro ga h3 tk3 gs3 E3 G3 B3
   refine ⟨_, ga, _, rfl, G3, ?_⟩
   intro D h4 tk4 gs4 ys hD hl4 hi4 K4 B4
   have up4 : ∀ b o, @LT.lt Nat _ b h2.objs.size → h2.get? b = some o → h4.get? b = some o := fun b o hb e => K4 b o hb (E3 b o e)
   refine hR D h4 tk4 gs4 ys ?_ hl4 hi4 (fun b o hb e => up4 b o (hsz b (Heap.lt_size e)) (up2 b o hb e)) (T2.mv (Nat.le_refl _) up4) (fun G => B4 (B3 G))
   cases z : s.heap.get? D with
   | none => rfl
   | some o =>
     exfalso
     by_cases h73 : D = 73
     · subst h73
       obtain ⟨_, e, _⟩ := T2
       have := E3 _ _ e
       rw [show h3.get? 73 = none from hD] at this
       cases this
     · have := E3 _ _ (up2 _ _ h73 z)
       rw [show h3.get? D = none from hD] at this
       cases this
/-- _law_picked(tg, places) -/
theorem picked_c {w : World} {A : Around} {mean : ExcName → Option Value} {mg mb : Str → Option Value} {lo : List Str} {av : Addr → Prop} {s : Shared} (f : Fit A 400 1200) (X : (KK w).In s.heap) (B : Bm s.heap) (T : Tab73 s.heap) (TT : Top topProg lo mean mg mb (g7 s.heap)) {tg : Str} {t0 : Tok} {pick : Pl → Bool}
   (hprep : PrepSel w tg pick) {pl : Addr} {pvs : List Value} {ps : List Pl} (hpl : s.heap.IsList pl (List.toArray pvs)) (hps : PlacesAt av s.heap pvs ps) (hav : ∀ b, av b → b < s.heap.objs.size ∧ b ≠ 73) (htag : ∀ p ∈ ps, TagOk p) (hn : pvs.length ≤ 100)
   {Q E : Value → Shared → Prop}
   (hR : ∀ D h' tk gs ys, s.heap.get? D = none → h'.IsList D ys → IntsAre ys.toList ((ksFrom (fun i => pick (ps.getD i p0)) pvs.length 0).map fun (k : Nat) => (k : Int)) → (∀ b o, b ≠ 73 → s.heap.get? b = some o → h'.get? b = some o) → Tab73 h' → (AllBare s.gens → AllBare gs) →
     Q (.ref D) { s with heap := h', toks := tk, gens := gs }) :
    wpAny (model prog w) A (call (.ref 95) [.str tg t0, .ref pl]) Q E s :=
  wpAny_call (f.code (picked0 s X B T TT tg t0 pick hprep pl pvs ps hpl hps hav htag hn _ hR))
theorem prepA {w : World} {tg : Str} (htg : TxtOk 200 tg) (h1 : (tg == Str.ofString "{*}*") = true) : PrepSel w tg AllTag := fun mean mg mb lo s X B T TT t0 R hR => prepA0 s X B T TT tg t0 htg h1 R hR
theorem prepB {w : World} {tg : Str} (htg : TxtOk 200 tg) (h1 : (tg == Str.ofString "{*}*") = false) (h2 : (tg == Str.ofString "{}*") = true) : PrepSel w tg NoNs := fun mean mg mb lo s X B T TT t0 R hR => prepB0 s X B T TT tg t0 htg h1 h2 R hR
theorem prepC {w : World} {tg : Str} (htg : TxtOk 200 tg) (h1 : (tg == Str.ofString "{*}*") = false) (h2 : (tg == Str.ofString "{}*") = false) (h3 : (Txt.slice tg none (some 3) == Str.ofString "{*}") = true) :
    PrepSel w tg (Named (Txt.slice tg (some 3) none) (Txt.slice tg (some 2) none) (-(Txt.slice tg (some 2) none).length)) := fun mean mg mb lo s X B T TT t0 R hR => prepC0 s X B T TT tg t0 htg h1 h2 h3 R hR
theorem prepD {w : World} {tg : Str} (htg : TxtOk 200 tg) (h1 : (tg == Str.ofString "{*}*") = false) (h2 : (tg == Str.ofString "{}*") = false) (h3 : (Txt.slice tg none (some 3) == Str.ofString "{*}") = false) (h4 : (Txt.slice tg (some (-2)) none == Str.ofString "}*") = true) :
    PrepSel w tg (HasNs (Txt.slice tg none (some (-1))) (Txt.slice tg none (some (-1))).length) := fun mean mg mb lo s X B T TT t0 R hR => prepD0 s X B T TT tg t0 htg h1 h2 h3 h4 R hR
end Mine
end

section
open PySem PySem.W PyProof.Rows PySem.Calls PySem.Spec
namespace Mine
abbrev sSlash : Str := Str.ofString "/"
/-- the last part of a path -/
def lastSeg (x : Str) : Str := (Txt.split x sSlash).getD (-1 + ((Txt.split x sSlash).length : Int)).toNat Str.empty
theorem strsAre_sv : ∀ l : List (Str × Tok), StrsAre (strValues l) (l.map (·.1))
  | [] => .nil
  | p :: r => .cons p.1 p.2 (strsAre_sv r)
theorem parts_fit {x y : Str} (hx : x.length ≤ 1000) : (Builtin.Str.partsBetween x (Builtin.Str.occurrences x y 0 x.length (x.length + 1)) y.length).length ≤ sizeLine := by
  have e1 := StrLaws.occ_length_le x y 0 x.length (x.length + 1)
  rw [length_partsBetween]
  exact Nat.le_trans (Nat.succ_le_succ e1) (by rw [sizeLine_eq]; omega)
theorem split_ne (x : Str) : Txt.split x sSlash ≠ [] := by
  unfold Txt.split
  split
  · simp
  · split
    · simp
    · intro e
      have := congrArg List.length e
      rw [length_partsBetween] at this
      cases this
theorem keptKeeps (s : Shared) : KeptByPush (Keeps s) := fun s' ob k x => by
  obtain ⟨h, tk, rfl, hk⟩ := x
  exact ⟨h.push ob, k, rfl, fun b o e => Heap.get?_push_of_some ob (hk b o e)⟩
section
variable {w : World} {A : Around} {E : Value → Shared → Prop} {s : Shared} {genv : Env} {m : Str → Option Value}
theorem seg_test {e : PySem.Expr} {nm x : Str} {p1 p2 p3 p4 p5 p6 p7 p8 : Pos} {k1 k2 : Nat} {tn : Tok} {Q : Bool → Shared → Prop}
    (he : ∀ (Q' : Value → Shared → Prop), (∀ t tk, Q' (.str x t) { s with toks := tk }) → wpAny (model prog w) A (eval e genv) Q' E s)
    (hn : ∀ (s' : Shared) (Q' : Value → Shared → Prop), Keeps s s' → Q' (.str nm tn) s' → wpAny (model prog w) A (eval (.Name (Str.ofString "name") p7) genv) Q' E s')
    (hx : x.length ≤ 1000) (hsl : (Txt.split x sSlash) ≠ []) (hbase : attributeBase e (Str.ofString "split") genv (eval e genv) = eval e genv) (hline : (p1.endLine == p3.line) = true)
    (h : ∀ s', Keeps s s' → Q (lastSeg x == nm) s') :
    wpAny (model prog w) A (isTrue (.Compare (.Subscript (.Call (.Attribute e (Str.ofString "split") p1) [.Constant (.str sSlash) k1 p2] [] p3) (.UnaryOp .USub (.Constant (.int 1) k2 p4) p5) p6) [.Eq] [.Name (Str.ofString "name") p7] p8) genv
      (eval (.Compare (.Subscript (.Call (.Attribute e (Str.ofString "split") p1) [.Constant (.str sSlash) k1 p2] [] p3) (.UnaryOp .USub (.Constant (.int 1) k2 p4) p5) p6) [.Eq] [.Name (Str.ofString "name") p7] p8) genv)) Q E s := by
  refine wpAny_isTrue_Compare1 (Subscript_ (Call_method1 hbase rfl hline (he _ fun t tk => ?_))) rfl
  refine SBG.split1 (Fm := Keeps s) (keptKeeps s) (Constant_str ⟨_, _, rfl, by decide +kernel, ⟨s.heap, _, rfl, fun _ _ e => e⟩, parts_fit hx, fun D l s₁ hl K₁ hD => ?_⟩) (Nat.le_trans hx (by decide))
  refine UnaryOp_ (wpAny_Constant_int (neg_int ?_))
  have hlen : 0 < (Txt.split x sSlash).length := List.length_pos_iff.mpr hsl
  have K₂ : Keeps s { s₁ with toks := s₁.toks + 1 + 1 } := by obtain ⟨h, tk, rfl, hk⟩ := K₁; exact ⟨h, _, rfl, hk⟩
  have hll : l.length = (Txt.split x sSlash).length := by rw [← hl, List.length_map]
  refine item_strsTneg hD (by decide) (by omega) (by decide) (fun y t2 hy => hn _ _ K₂ (eq_str (wpAny_truthy_bool ?_))) rfl
  have e : y = lastSeg x := by
    unfold lastSeg
    rw [hl, hll] at hy
    rw [List.getD_eq_getElem?_getD, hy]
    rfl
  rw [e]
  exact h _ K₂
end
theorem getD_drop {vs : List Value} {i : Nat} : (vs.drop 1).getD i .none = vs.getD (i + 1) .none := by
  rw [List.getD_eq_getElem?_getD, List.getD_eq_getElem?_getD, List.getElem?_drop, Nat.add_comm]
set_option maxHeartbeats 8000000 in
theorem called0 {w : World} {av : Addr → Prop} (s : Shared) (X : (KK w).In s.heap) (tg : Str) (t0 : Tok)
   (pl : Addr) (pvs : List Value) (ps : List Pl) (hpl : s.heap.IsList pl (List.toArray pvs)) (hps : PlacesAt av s.heap pvs ps) (hp : ∀ p ∈ ps, p.path.length ≤ 1000) (hn : pvs.length ≤ 100) (hn1 : 1 ≤ pvs.length)
   (R : Result → Shared → Prop)
   (hR : ∀ D h' tk ys, s.heap.get? D = none → h'.IsList D ys → IntsAre ys.toList (((List.range (pvs.length - 1)).filter fun i => lastSeg (ps.getD (i + 1) p0).path == tg).map fun (k : Nat) => ((k + 1 : Nat) : Int)) → Ext s.heap h' →
     R (.ok (.ret (.ref D))) { s with heap := h', toks := tk })
    : codeAny (model prog w) (AB 400 1200) (.call (.ref 100) ⟨[.str tg t0, .ref pl], []⟩) R s := by
   have hlim := noLimit X
   have X0 := X
   revert X
   dsimp only [prog, KK]
   k_fill
   intro X
   refine' enterC (K := TP.heap_39 w.params) [(Str.ofString "name", .str tg t0), (Str.ofString "places", .ref pl)] X hlim ?ho ?hcd (by decide) ?hbind ?hkind ?hnd ?h ?c2 ?c3 ?c4
   case ho => k_is
   case hcd => k_is
   case hbind => exact rfl
   case hkind =>
     intro x hx
     simp only [List.mem_cons, List.not_mem_nil, or_false] at hx
     rcases hx with rfl | rfl
     · exact .inr ⟨rfl, rfl⟩
     · exact .inl rfl
   case hnd => decide +kernel
   case c2 => exact rfl
   case c3 => exact rfl
   case c4 => exact rfl
   intro L h1 tk1 cells hL F N C
   cases C with | cons d1 C => ?_
   cases C
   repeat' ((fail_if_success (with_reducible show wpAny _ _ (eval (Expr.ListComp _ _ _ _) _) _ _ _)); walk1)
   have hc1 : h1.IsCell (L + 1) (some (.str tg t0)) := ⟨_, (N _ (.head _)).1, d1⟩
   have hLs : @LT.lt Nat _ L h1.objs.size := F.ns.lt
   refine comp_list (cl := [(Str.ofString "name", L + 1)]) rfl (by with_unfolding_all rfl) rfl (by decide +kernel) (by decide +kernel) (by decide +kernel) ?_ (fun _ => rfl)
   refine wpAny_Subscript_list_slice (nm_local (genv := envOfC _ _ _ _ _) rfl rfl F.ns rfl ?_ (by decide)) (fun _ _ => rfl)
   refine evalPart_some_step (wpAny_Constant_int (evalPart_none_step ?_))
   refine ⟨pl, List.toArray pvs, some 1, none, rfl, (Ext.keep F.keep).list hpl, Nat.le_trans (by simpa using hn) (show 100 ≤ sizeLine by decide), .int _ _, .none, ?_⟩
   have hsl : slicePick (List.toArray pvs) (some 1) none none = (pvs.drop 1).toArray := by
     have := slicePick_from (List.toArray pvs) 1 (by simpa using hn1)
     simpa using this
   rw [hsl]
   generalize hH2 : h1.push _ = H2
   have E2 : Ext h1 H2 := fun b o e => hH2 ▸ Heap.get?_push_of_some _ e
   have hS2 : H2.objs.size = h1.objs.size + 1 := by rw [← hH2, Heap.size_push]
   generalize hH3 : H2.push _ = H3
   have E3 : Ext H2 H3 := fun b o e => hH3 ▸ Heap.get?_push_of_some _ e
   have hl3 : H3.IsList (h1.objs.size + 1) (pvs.drop 1).toArray := ⟨_, by rw [← hH3, ← hS2]; exact Heap.get?_push_size _ rfl, rfl, _, rfl⟩
   have EA : Ext s.heap H3 := fun b o e => E3 b o (E2 b o (F.keep b o e))
   have P3 : PlacesAt av H3 pvs ps := hps.move fun b o _ e => EA b o e
   refine ⟨h1.objs.size + 1, (pvs.drop 1).toArray, fun i => lastSeg (ps.getD (i + 1) p0).path == tg, fun i y => ∃ t, y = Value.int ((i + 1 : Nat) : Int) t, rfl, hl3, by simp; exact Nat.le_trans hn (by decide), ?_, ?_⟩
   · intro C j s₂ mm hj hext hC hns hmx
     have hj' : j + 1 < pvs.length := by simp at hj; omega
     have e : (List.toArray (pvs.drop 1)).getD j Value.none = pvs.getD (j + 1) .none := by rw [← getD_drop]; simp
     rw [e] at hmx
     have P : PlaceAt av s₂.heap (pvs.getD (j + 1) .none) (j + 1 : Nat) (ps.getD (j + 1) p0) := (P3.2 (j + 1) (by rw [← P3.1]; exact hj')).move fun b o _ e => hext b o e
     have hpl1 : (ps.getD (j + 1) p0).path.length ≤ 1000 := by
       have hi : j + 1 < ps.length := by rw [← hps.1]; exact hj'
       rw [List.getD_eq_getElem?_getD, List.getElem?_eq_getElem hi]; exact hp _ (List.getElem_mem hi)
     refine ifs_one (seg_test (tn := t0) (fun Q' hQ => Attribute_Name_ (nm_local (genv := compEnvC _ _ _ _) rfl rfl hns hmx (at_path P fun t => hQ t _) (by decide)) rfl)
       (fun s' Q' K hQ => ?_) hpl1 (split_ne _) rfl rfl (fun s' K => ⟨rfl, K, fun _ => ?_⟩))
     · obtain ⟨h', tk', rfl, hk'⟩ := K
       refine nm_cell (genv := compEnvC _ _ _ _) rfl rfl rfl (v := .str tg t0) ?_ hQ (by decide)
       obtain ⟨oc, ec, dc⟩ := hc1
       exact ⟨oc, hk' _ _ (hext _ _ (E3 _ _ (E2 _ _ ec))), dc⟩
     · obtain ⟨h', tk', rfl, hk'⟩ := K
       refine Attribute_Name_ (nm_local (genv := compEnvC _ _ _ _) rfl rfl (hns.keeps hk') hmx ?_ (by decide)) rfl
       exact at_number (P.move fun b o _ e => hk' b o e) fun tk => ⟨⟨tk, rfl⟩, _, _, rfl, fun _ _ e => e⟩
   · intro D h' tk ys hD hl' hF hext
     refine hR D h' tk ys ?_ hl' ?_ (fun b o e => hext b o (EA b o e))
     · cases z : s.heap.get? D with
       | none => rfl
       | some o => have := EA _ _ z; rw [show H3.get? D = none from hD] at this; cases this
     · have := paired_ints (f := fun i => i + 1) hF
       simpa using this
/-- _law_called(name, places) -/
theorem called_c {w : World} {A : Around} {av : Addr → Prop} {s : Shared} (f : Fit A 400 1200) (X : (KK w).In s.heap) {tg : Str} {t0 : Tok}
   {pl : Addr} {pvs : List Value} {ps : List Pl} (hpl : s.heap.IsList pl (List.toArray pvs)) (hps : PlacesAt av s.heap pvs ps) (hp : ∀ p ∈ ps, p.path.length ≤ 1000) (hn : pvs.length ≤ 100) (hn1 : 1 ≤ pvs.length)
   {Q E : Value → Shared → Prop}
   (hR : ∀ D h' tk ys, s.heap.get? D = none → h'.IsList D ys → IntsAre ys.toList (((List.range (pvs.length - 1)).filter fun i => lastSeg (ps.getD (i + 1) p0).path == tg).map fun (k : Nat) => ((k + 1 : Nat) : Int)) → Ext s.heap h' →
     Q (.ref D) { s with heap := h', toks := tk }) :
    wpAny (model prog w) A (call (.ref 100) [.str tg t0, .ref pl]) Q E s :=
  wpAny_call (f.code (called0 s X tg t0 pl pvs ps hpl hps hp hn hn1 _ hR))
end Mine
end

section
open PySem PySem.W PySem.W.X PyProof.Rows PySem.Calls PySem.Spec
namespace Mine
/-- the password manager, as the law makes it -/
def MgrAt (av : Addr → Prop) (h : Heap) (a : Addr) : Prop :=
  ∃ ox d od, (av a ∧ av d) ∧ h.get? a = some ox ∧ ox.cls = .ref 67 ∧ notCls ox = true ∧ ox.dict = some d ∧ h.get? d = some od ∧ shadowIn (some od) (Str.ofString "is_suburi") = some false
theorem MgrAt.move {av : Addr → Prop} {h h' : Heap} {a : Addr} (m : MgrAt av h a) (k : ∀ b o, av b → h.get? b = some o → h'.get? b = some o) : MgrAt av h' a :=
  let ⟨ox, d, od, v, e1, c, n, e2, e3, r⟩ := m; ⟨ox, d, od, v, k _ _ v.1 e1, c, n, e2, k _ _ v.2 e3, r⟩
theorem MgrAt.mono {av av' : Addr → Prop} {h : Heap} {a : Addr} (m : MgrAt av h a) (k : ∀ b, av b → av' b) : MgrAt av' h a :=
  let ⟨ox, d, od, v, r⟩ := m; ⟨ox, d, od, ⟨k _ v.1, k _ v.2⟩, r⟩
abbrev MgrEnd (s : Shared) (Q : Value → Shared → Prop) : Prop :=
  ∀ a h' tk', Ext s.heap h' → MgrAt (fun b => s.heap.get? b = none) h' a → Q (.ref a) { s with heap := h', toks := tk' }
theorem mgr_end {s : Shared} {Q : Value → Shared → Prop} {h : Heap} {news : List (Addr × Obj)} {a d : Addr} {e : DictEntry} {ep tk : Nat} {k : Tok}
    (hR : MgrEnd s Q) (D : Mem s.heap h [] news) (g1 : h.get? a = some ⟨.ref 67, some d, .plain, #[]⟩) (f1 : s.heap.get? a = none) (g2 : h.get? d = some ⟨.type "dict", none, .dict ⟨[e]⟩ ep, #[]⟩) (f2 : s.heap.get? d = none)
    (hk : e.key = .str ⟨#[112, 97, 115, 115, 119, 100]⟩ k) : Q (.ref a) { s with heap := h, toks := tk } := by
  refine hR a h tk (mem_keep0 D) ⟨_, d, _, ⟨f1, f2⟩, g1, rfl, rfl, rfl, g2, ?_⟩
  have s1 : Str.ofString "is_suburi" = ⟨#[105, 115, 95, 115, 117, 98, 117, 114, 105]⟩ := by decide +kernel
  rw [s1]
  simp [shadowIn, lookIn, hk, Value.isStr, DictEntry.refKey]
section
local macro_rules | `(tactic| x_close) => `(tactic| (exact mgr_end (by assumption) (by assumption) (Mem.nw (by assumption) _ (.tail _ (.tail _ (.head _)))).1 (Mem.nw (by assumption) _ (.tail _ (.tail _ (.head _)))).2 (Mem.nw (by assumption) _ (.tail _ (.tail _ (.tail _ (.head _))))).1 (Mem.nw (by assumption) _ (.tail _ (.tail _ (.tail _ (.head _))))).2 rfl))
set_option maxRecDepth 100000 in
set_option maxHeartbeats 0 in
theorem mgr0 {w : World} (s : Shared) (X : (TP.heap_39 w.params).In s.heap) 
   (sl : Array (Option Value)) (hm : s.heap.get? (nat_lit 4) = some ⟨.type "module", some 0, .plain, sl⟩) 
   (Q : Value → Shared → Prop) (hR : MgrEnd s Q)
    : wpAny (model PySem.Challenge.rw_pg0106_01.row.prog w) (AB 600 2000) (call (.ref 67) []) Q (fun _ _ => False) s := by
   revert X
   k_fill
   intro X
   x_run
end
end Mine
end

section
open PySem PySem.W PyProof.Rows PySem.Calls PySem.Spec
namespace Mine
abbrev sIsSub : Str := Str.ofString "is_suburi"
theorem keeps_tok {s s' : Shared} (x : Keeps s s') (t : Nat) : Keeps s { s' with toks := t } := by obtain ⟨h, tk, rfl, k⟩ := x; exact ⟨h, t, rfl, k⟩
theorem keeps_push {s s' : Shared} (x : Keeps s s') (o : Obj) : Keeps s { s' with heap := s'.heap.push o } := by
  obtain ⟨h, tk, rfl, k⟩ := x; exact ⟨h.push o, tk, rfl, fun b o' e => Heap.get?_push_of_some _ (k b o' e)⟩
theorem keeps_mk {s : Shared} {h : Heap} {tk : Nat} (k : Ext s.heap h) : Keeps s { s with heap := h, toks := tk } := ⟨h, tk, rfl, k⟩
section
variable {w : World} {A : Around} {E : Value → Shared → Prop} {s : Shared} {env : Env} {mg mb : Str → Option Value} {mean : ExcName → Option Value} {lo : List Str}
theorem nm_glob {x : Str} {pos : Pos} {v : Value} {Q : Value → Shared → Prop} (X : (KK w).In s.heap) (T : Top topProg lo mean mg mb s.heap) (e : nsIn (KK w) mainGlobals x = some (some v)) (h : Q v s)
    (hk : env.scope.kind = .function) (hx : env.kindOf x = some .globalImplicit) (hg : env.globals = mainGlobals) (hd : (x == ("__debug__" : Str)) = false := by decide) :
    wpAny (model prog w) A (eval (.Name x pos) env) Q E s :=
  Name_function_global hk hx (loadGlobal_global (hg ▸ T.g) (mg_of X T.g e) h) hd
theorem nm_built {x : Str} {pos : Pos} {v : Value} {Q : Value → Shared → Prop} (X : (KK w).In s.heap) (T : Top topProg lo mean mg mb s.heap) (e : nsIn (KK w) mainGlobals x = some none) (hb : bootBuiltins x = some v) (hn : x ≠ "__name__") (h : Q v s)
    (hk : env.scope.kind = .function) (hx : env.kindOf x = some .globalImplicit) (hg : env.globals = mainGlobals) (hbi : env.builtins = builtinsNs) (hd : (x == ("__debug__" : Str)) = false := by decide) :
    wpAny (model prog w) A (eval (.Name x pos) env) Q E s :=
  Name_function_global hk hx (Calls.loadGlobal_builtin (mg := mg) (mb := mb) (hg ▸ T.g) (mg_none_of X T.g e) (hbi ▸ T.b) ((T.builtins _ hn).trans hb) h) hd
theorem fnKeep64 (w : World) : keepIn (KK w) (.ref 64) = true := by kernel_rfl
theorem sub_ga (w : World) : findIn (KK w) (.ref 67) "__getattribute__" = some (some (.builtin "object.__getattribute__")) := by kernel_rfl
theorem sub_gt (w : World) : findIn (KK w) (.ref 67) "__getattr__" = some none := by kernel_rfl
theorem sub_is (w : World) : findIn (KK w) (.ref 67) sIsSub = some (some (.ref 64)) := by kernel_rfl
theorem sub_ty (w : World) : typeIn (KK w) (.ref 64) = some (.type "function") := by kernel_rfl
/-- (TEXT, e) -/
theorem tup_ev {e : PySem.Expr} {x p : Str} {k1 k2 : Nat} {p1 p2 : Pos} {Q : Value → Shared → Prop}
    (h1 : ∀ s' Q', Keeps s s' → (∀ t s'', Keeps s s'' → Q' (.str p t) s'') → wpAny (model prog w) A (eval e env) Q' E s')
    (hQ : ∀ b s' t1 t2, Keeps s s' → s'.heap.IsTuple b #[.str x t1, .str p t2] → Q (.ref b) s') (he : starEach [.Constant (.str x) k1 p1, e] env = [(false, eval (.Constant (.str x) k1 p1) env), (false, eval e env)]) (he1 : starEach [e] env = (false, eval e env) :: starEach [] env) :
    wpAny (model prog w) A (eval (.Tuple [.Constant (.str x) k1 p1, e] k2 p2) env) Q E s := by
  refine wpAny_Tuple (args_cons (Constant_str (args_cons (h1 _ _ (keeps_mk fun _ _ e => e) fun t s'' K => args_nil ⟨show 2 ≤ sizeLine by decide, ?_⟩) he1)))
  exact hQ _ _ _ _ (keeps_push K _) ⟨_, Heap.get?_push_size _ rfl, rfl, _, rfl⟩
theorem mcall {o : PySem.Expr} {name : Str} {apos pos : Pos} {args : List PySem.Expr} {Q : Value → Shared → Prop}
    (hbase : attributeBase o name env (eval o env) = eval o env) (hfew : methodCallForm (args.length + 0) (backTo pos (starEach args env)) [] = true) (hline : (apos.endLine == pos.line) = true)
    (h : wpAny (model prog w) A (eval o env) (fun ov s₁ => ∀ askd : Sem Bool, wpAny (model prog w) A (getMethod ov name askd) (fun fx s₂ => wpAny (model prog w) A (callWith pos fx.1 fx.2 (backTo pos (starEach args env)) []) Q E s₂) E s₁) E s) :
    wpAny (model prog w) A (eval (.Call (.Attribute o name apos) args [] pos) env) Q E s := by
  rw [arm_eval_Call, hbase]
  refine wpAny_bind (wpAny_mono h (fun ov s₁ h₁ => wpAny_bind (wpAny_standAt ?_)) fun _ _ x => x)
  show wpAny _ A (methodCall o name apos pos env ov (args.length + 0) (backTo pos (starEach args env)) []) _ _ _
  unfold methodCall calleeOf methodCallPos
  rw [hfew]
  simp only [hline, if_true, Bool.not_true, Bool.or_true]
  refine wpAny_bind (wpAny_holding (wpAny_mono (h₁ _) (fun fx s₂ h₂ => ?_) fun _ _ x => x))
  exact wpAny_bind (wpAny_pure h₂)
/-- manager.is_suburi((x, e1), (y, e2)) -/
theorem suburi_ev {av : Addr → Prop} {eM e1 e2 : PySem.Expr} {mgr : Addr} {x y p q : Str} {k1 k2 k3 k4 : Nat} {ap p1 p2 p3 p4 pos : Pos} {Q : Value → Shared → Prop}
    (f : Fit A 600 2000) (X : (KK w).In s.heap) (M : MgrAt av s.heap mgr)
    (hM : ∀ Q' : Value → Shared → Prop, Q' (.ref mgr) s → wpAny (model prog w) A (eval eM env) Q' E s)
    (h1 : ∀ s' Q', Keeps s s' → (∀ t s'', Keeps s' s'' → Q' (.str p t) s'') → wpAny (model prog w) A (eval e1 env) Q' E s')
    (h2 : ∀ s' Q', Keeps s s' → (∀ t s'', Keeps s' s'' → Q' (.str q t) s'') → wpAny (model prog w) A (eval e2 env) Q' E s')
    (hx : PyData.strOk x = true) (hy : PyData.strOk y = true) (hp : TxtOk 1000 p) (hq : TxtOk 1000 q) (hQ : ∀ s', Keeps s s' → Q (.bool (subV x p y q)) s')
    (s1 : starEach [.Constant (.str x) k1 p1, e1] env = [(false, eval (.Constant (.str x) k1 p1) env), (false, eval e1 env)]) (s2 : starEach [.Constant (.str y) k3 p3, e2] env = [(false, eval (.Constant (.str y) k3 p3) env), (false, eval e2 env)])
    (s3 : starEach [e1] env = (false, eval e1 env) :: starEach [] env) (s4 : starEach [e2] env = (false, eval e2 env) :: starEach [] env)
    (hbase : attributeBase eM sIsSub env (eval eM env) = eval eM env) (hline : (ap.endLine == pos.line) = true) :
    wpAny (model prog w) A (eval (.Call (.Attribute eM sIsSub ap) [.Tuple [.Constant (.str x) k1 p1, e1] k2 p2, .Tuple [.Constant (.str y) k3 p3, e2] k4 p4] [] pos) env) Q E s := by
  obtain ⟨ox, d, od, v, g1, c, n, g2, g3, sh⟩ := M
  refine mcall hbase rfl hline (hM _ fun askd => (method_fn X (C := 67) (od := some od) ⟨g1, c, n, by rw [g2]; exact g3⟩ (sub_ga w) (sub_gt w) (sub_is w) (sub_ty w) sh ?_))
  refine callWith_K X (fnKeep64 w) (args_cons (tup_ev (fun s' Q' K hq' => h1 s' Q' K fun t s'' K' => hq' t s'' (keeps_trans K K')) (fun b s₁ t1 t2 K₁ hb => ?_) s1 s3))
  refine args_cons (tup_ev (fun s' Q' K hq' => h2 s' Q' (keeps_trans K₁ K) fun t s'' K' => hq' t s'' (keeps_trans K K')) (fun b2 s₂ t3 t4 K₂ hb2 => ?_) s2 s4)
  have K02 := keeps_trans K₁ K₂
  have X2 : (KK w).In s₂.heap := (Ext.keep (Keeps.ext K02)).inK X
  have hb' : s₂.heap.IsTuple b #[.str x t1, .str p t2] := Keep.tuple (Ext.keep (Keeps.ext K₂)) hb
  refine args_nil ⟨X2, wpAny_call (suburi f X2 hx hy hp.1 hq.1 hp.2 hq.2 hb' hb2 fun h' tk' E' => ?_)⟩
  exact hQ _ (keeps_trans K02 (keeps_mk E'))
theorem sum_ints {l : Addr} {vs : Array Value} {ns : List Int} {Q : Value → Shared → Prop} (hh : A.handled = none) (hl : s.heap.IsList l vs) (hi : IntsAre vs.toList ns)
    (h : ∀ h' tk t', Ext s.heap h' → Q (.int ns.sum t') { s with heap := h', toks := tk }) : wpAny (model prog w) A (call (.builtin "sum") [.ref l]) Q E s := by
  have hall : AllInts vs := hi.allInts
  have hn : numsOf vs.toList = ns := hi.numsOf
  obtain ⟨xs, rfl⟩ := hall.items
  rw [nums_intItems] at hn
  refine sum_intListG hh hl fun h' tk t' hk => ?_
  have := h h' tk t' hk
  rw [preSum_eq, List.take_of_length_le (by simp), hn]; exact this
/-- two lists of ints compared -/
theorem ints_reads {h : Heap} {a : Addr} {vs : Array Value} {ns : List Int} (hl : h.IsList a vs) (hi : IntsAre vs.toList ns) : ∃ as, Reads h (.ref a) (.list (ns.map PyData.int)) as := by
  obtain ⟨o, e, c, n, d⟩ := hl
  have : ∀ {l : List Value} {ns : List Int}, IntsAre l ns → ∃ as, ReadsAll h l (ns.map PyData.int) as := by
    intro l ns hi
    induction hi with
    | nil => exact ⟨_, .nil⟩
    | cons n t _ ih => obtain ⟨as, r⟩ := ih; exact ⟨_, .cons (.int _ _) r⟩
  obtain ⟨as, r⟩ := this hi
  exact ⟨_, .list e c (vs := vs) (n := n) d r⟩
theorem ints_shaped (ns : List Int) : SeqAt.shaped (.list (ns.map PyData.int)) = true := by
  have h1 : ∀ ns : List Int, PyData.canLayAll0 (ns.map PyData.int) = true := by
    intro ns; induction ns with | nil => rfl | cons n r ih => simp [PyData.canLayAll0, PyData.canLay0, ih]
  have h2 : ∀ ns : List Int, PyData.depthAll (ns.map PyData.int) = 0 := by
    intro ns; induction ns with | nil => rfl | cons n r ih => simp [PyData.depthAll, PyData.depth, ih]
  simp [SeqAt.shaped, PyData.canLay0, h1, PyData.depth, h2]
theorem ints_eqv : ∀ ns ms : List Int, PyData.eqvAll (ns.map PyData.int) (ms.map PyData.int) = (ns == ms)
  | [], [] => rfl
  | [], _ :: _ => rfl
  | _ :: _, [] => rfl
  | a :: r, b :: r' => by simp [PyData.eqvAll, PyData.eqv, ints_eqv r r']
theorem eq_ints {a b : Addr} {vs us : Array Value} {ns ms : List Int} {Q : Value → Shared → Prop} (ha : s.heap.IsList a vs) (hi : IntsAre vs.toList ns) (hb : s.heap.IsList b us) (hj : IntsAre us.toList ms) (hu : A.units + 64 < cLine)
    (h : Q (.bool (ns == ms)) s) : wpAny (model prog w) A (compareOp .Eq (.ref a) (.ref b)) Q E s := by
  obtain ⟨as, ra⟩ := ints_reads ha hi
  obtain ⟨bs, rb⟩ := ints_reads hb hj
  refine eq_dataH ra rb (ints_shaped _) (ints_shaped _) hu ?_
  simp only [PyData.eqv, ints_eqv]; exact h
theorem ne_ints {a b : Addr} {vs us : Array Value} {ns ms : List Int} {Q : Value → Shared → Prop} (ha : s.heap.IsList a vs) (hi : IntsAre vs.toList ns) (hb : s.heap.IsList b us) (hj : IntsAre us.toList ms) (hu : A.units + 64 < cLine)
    (h : Q (.bool (!(ns == ms))) s) : wpAny (model prog w) A (compareOp .NotEq (.ref a) (.ref b)) Q E s := by
  obtain ⟨as, ra⟩ := ints_reads ha hi
  obtain ⟨bs, rb⟩ := ints_reads hb hj
  refine ne_dataH ra rb (ints_shaped _) (ints_shaped _) hu ?_
  simp only [PyData.eqv, ints_eqv]; exact h
end
end Mine
end

section
open PySem PySem.W PyProof.Rows PySem.Calls PySem.Spec
namespace Mine
theorem newEnvCells {M : Model} {A : Around} {E : Value → Shared → Prop} {s : Shared} {scope : Scope} {globals : Addr} {cl : List (Str × Addr)} {qual : Str} {outer : Env} {Q : Env → Shared → Prop}
    (hQ : Q (newEnv scope s.heap.objs.size globals (cellsFrom (s.heap.objs.size + 1) scope.names cl) qual none .none (some outer) builtinsNs) { s with heap := pushCells (s.heap.push { cls := .type "dict", data := .dict #[] }) scope.names }) :
    wpAny M A (newFunctionEnv scope globals cl [] qual none .none (some outer)) Q E s := by
  simp only [newFunctionEnv, Option.isSome_some, if_true]
  refine wpAny_bind (wpAny_alloc ?_)
  refine wpAny_bind (wpAny_layCells _ (fun name kind cells => by cases hkc : kind == NameKind.cell <;> simp [hkc]) _ _ _ _ ?_)
  rw [show ({ s with heap := s.heap.push { cls := .type "dict", data := .dict #[] } } : Shared).heap.objs.size = s.heap.objs.size + 1 from Heap.size_push ..]
  rw [List.forIn_nil]
  exact wpAny_bind (wpAny_pure (wpAny_pure hQ))
/-- a comprehension over a list, its target a cell of the block -/
theorem comp_listC {w : World} {A : Around} {E : Value → Shared → Prop} {env : Env} {elt iter : PySem.Expr} {x : Str} {px : Pos} {scope : Scope} {cl : List (Str × Addr)} {pos : Pos} {s : Shared} {Q : Value → Shared → Prop}
    (hh : A.handled = none) (hclos : closureFor scope env = pure cl) (hkind : scope.kind = .function) (hnames : ∀ y ∈ scope.names, y.2 = .local → scope.names.lookup y.1 = some .local)
    (hcells : ∀ n, cellsFrom n scope.names cl = (x, n) :: cl) (hpush : ∀ h : Heap, pushCells h scope.names = h.push { cls := .type "cell", data := .cell none })
    (hx : (relabel scope env).names.lookup x = some .cell) (hkr : (relabel scope env).kind = .function)
    (h : wpAny (model prog w) A (eval iter env) (fun xv s₁ => ∃ (ax : Addr) (items : Array Value) (Y : Nat → Array Value → Prop), xv = .ref ax ∧ s₁.heap.IsList ax items ∧ items.size ≤ sizeLine ∧
      (∀ C j s₂, j < items.size → (∀ b o, b < s₁.heap.objs.size → s₁.heap.get? b = some o → s₂.heap.get? b = some o) → s₁.heap.objs.size < C → C + 1 < s₂.heap.objs.size → s₂.heap.IsCell (C + 1) (some (items.getD j .none)) →
        wpAny (model prog w) A (eval elt (compEnvC scope ((x, C + 1) :: cl) C env)) (fun y s₄ => ∃ r vs, y = .ref r ∧ s₂.heap.objs.size ≤ r ∧ s₄.heap.IsList r vs ∧ Y j vs ∧ Keeps s₂ s₄) (fun _ _ => False) s₂) ∧
      (∀ D h' tk ys, s₁.heap.objs.size ≤ D → h'.IsList D ys → Paired (fun j y => ∃ r vs, y = .ref r ∧ s₁.heap.objs.size ≤ r ∧ h'.IsList r vs ∧ Y j vs) (List.range items.size) ys.toList → Ext s₁.heap h' → Q (.ref D) { s₁ with heap := h', toks := tk })) E s)
    (hs : ∀ x, foldedSetIterable iter env x = pure x := by intro _; rfl) :
    wpAny (model prog w) A (eval (.ListComp elt [⟨.Name x px, iter, [], 0⟩] scope pos) env) Q E s := by
  rw [eval_ListComp]
  refine wpAny_comprehension_free rfl hs hclos hkind hnames (wpAny_mono h (fun xv s₁ h₁ => ?_) fun _ _ e => e)
  obtain ⟨ax, items, Y, rfl, hl, hsz, turn, hQ⟩ := h₁
  refine wpAny_pyIter_list hl (wpAny_newObj_type (hd := by size_fits) (newEnvCells ?_))
  dsimp only
  obtain ⟨ol, hol, hol'⟩ := id hl
  have hax : @LT.lt Nat _ ax s₁.heap.objs.size := Heap.lt_size hol
  generalize hH1 : s₁.heap.push { cls := .type "list_iterator", data := .fields #[.ref ax, .int 0 0] } = H1
  have hD : H1.objs.size = s₁.heap.objs.size + 1 := by rw [← hH1, Heap.size_push]
  generalize hH2 : H1.push { cls := .type "list", dict := none, data := .seq ([] : List Value).toArray } = H2
  have hC : H2.objs.size = s₁.heap.objs.size + 2 := by rw [← hH2, Heap.size_push, hD]
  rw [hpush, hcells]
  generalize hH3 : H2.push { cls := .type "dict", data := .dict #[] } = H3
  have hc3 : H3.objs.size = s₁.heap.objs.size + 3 := by rw [← hH3, Heap.size_push, hC]
  generalize hH4 : H3.push { cls := .type "cell", data := .cell none } = h₁
  rw [hC, hD]
  generalize hn : s₁.heap.objs.size = n at *
  have old : ∀ b o, s₁.heap.get? b = some o → h₁.get? b = some o := fun b o e =>
    hH4 ▸ Heap.get?_push_of_some _ (hH3 ▸ Heap.get?_push_of_some _ (hH2 ▸ Heap.get?_push_of_some _ (hH1 ▸ Heap.get?_push_of_some _ e)))
  have hit : h₁.IsListIter n ax 0 := ⟨_, hH4 ▸ Heap.get?_push_of_some _ (hH3 ▸ Heap.get?_push_of_some _ (hH2 ▸ Heap.get?_push_of_some _ (hn ▸ hH1 ▸ Heap.get?_push_size _ rfl))), rfl, rfl⟩
  have hacc : h₁.IsList (n + 1) #[] := ⟨_, hH4 ▸ Heap.get?_push_of_some _ (hH3 ▸ Heap.get?_push_of_some _ (hD ▸ hH2 ▸ Heap.get?_push_size _ rfl)), rfl, _, rfl⟩
  have hfr : h₁.get? (n + 2) = some { cls := .type "dict", data := .dict #[] } := hH4 ▸ Heap.get?_push_of_some _ (hC ▸ hH3 ▸ Heap.get?_push_size _ rfl)
  have hcell : h₁.IsCell (n + 3) none := ⟨_, hc3 ▸ hH4 ▸ Heap.get?_push_size _ rfl, rfl⟩
  have hl₁ : h₁.IsList ax items := ⟨ol, old _ _ hol, hol'⟩
  have ns0 : h₁.Ns (n + 2) (fun _ => none) := ⟨_, #[], _, hfr, rfl, fun _ he => by simp at he, fun _ => rfl⟩
  have nlt : ∀ b, @LT.lt Nat _ b n → b ≠ n ∧ ¬ (b = n + 3 ∨ b = n + 1) := fun b hb => ⟨Nat.ne_of_lt hb, fun q => q.elim (fun q => absurd hb (by rw [q]; exact Nat.not_lt.mpr (Nat.le_add_right n 3))) (fun q => absurd hb (by rw [q]; exact Nat.not_lt.mpr (Nat.le_add_right n 1)))⟩
  have ne21 : n + 2 ≠ n + 1 := Nat.ne_of_gt (Nat.lt_succ_self _)
  have ne23 : n + 2 ≠ n + 3 := Nat.ne_of_lt (Nat.lt_succ_self _)
  have ne20 : n + 2 ≠ n := Nat.ne_of_gt (Nat.lt_succ_of_lt (Nat.lt_succ_self _))
  have ne10 : n + 1 ≠ n := Nat.ne_of_gt (Nat.lt_succ_self _)
  have ne30 : n + 3 ≠ n := Nat.ne_of_gt (Nat.lt_succ_of_lt (Nat.lt_succ_of_lt (Nat.lt_succ_self _)))
  have ne13 : n + 1 ≠ n + 3 := Nat.ne_of_lt (Nat.lt_succ_of_lt (Nat.lt_succ_self _))
  have loop : codeAny (model prog w) A (.compLoop (.ListComp elt [⟨.Name x px, iter, [], 0⟩] scope pos) 0 (.ref n) (.ref (n + 1)) (compEnvC scope ((x, n + 3) :: cl) (n + 2) env))
        (compPost (model prog w) A E none Q (.ref (n + 1)) (n + 2)) { s₁ with heap := h₁, toks := s₁.toks } := by
    refine comp_loop (Cl := fun b => b = n + 3 ∨ b = n + 1) (own := fun b => b = n + 3) (Var := fun v h => h.IsCell (n + 3) (some v)) (Var0 := fun h => ∃ v, h.IsCell (n + 3) v) (fun _ => true)
      (fun j y h => ∃ r vs, y = Value.ref r ∧ n + 3 < r ∧ h.IsList r vs ∧ Y j vs)
      (Itr.list hh (fun q => q.elim (Ne.symm ne30) (Ne.symm ne10)) (nlt ax hax).2 (nlt ax hax).1) _
      (fun b e => by subst e; exact ne30) (fun b e => .inl e) ne10 (.inr rfl) ne13
      (fun b e => e) (fun b h e hv => by subst e; obtain ⟨v, o, e2, _⟩ := hv; rw [e2]; rfl)
      (fun v h hv => ⟨_, hv⟩) (fun h h' ⟨v, o, e, r⟩ k => ⟨v, o, k _ _ rfl e, r⟩) (fun v h h' ⟨o, e, r⟩ k => ⟨o, k _ _ rfl e, r⟩)
      ?asg ?hY ?turn hsz ⟨hit, hl₁⟩ ⟨_, hcell⟩ hacc ?fin
    case asg =>
      rintro v s Q E ⟨v0, hv0⟩ k
      refine wpAny_assign_Name (wpAny_storeName_cell (env := compEnvC scope ((x, n + 3) :: cl) (n + 2) env) hkr hx (by show List.lookup x ((x, n + 3) :: cl) = _; simp) hv0 (fun h₂ hc₂ hs₂ => ?_))
      exact k h₂ s.toks hc₂ (fun b o hb e => hs₂.extBut b o hb e)
    case hY =>
      rintro j y h h' ⟨r, vs, e, hr, ⟨o, e1, r1⟩, hy⟩ k
      have hr' : @LT.lt Nat _ (n + 3) r := hr
      exact ⟨r, vs, e, hr, ⟨o, k _ _ (Nat.ne_of_gt hr') (Nat.ne_of_gt (Nat.lt_trans (Nat.lt_succ_of_lt (Nat.lt_succ_self _)) hr')) (Nat.ne_of_gt (Nat.lt_trans (Nat.lt_succ_of_lt (Nat.lt_succ_of_lt (Nat.lt_succ_self _))) hr')) e1, r1⟩, hy⟩
    case turn =>
      rintro j s hj hk hv _
      refine ifs_nil ⟨rfl, keeps_refl _, fun _ => ?_⟩
      have hsz2 : n + 2 + 1 < s.heap.objs.size := by obtain ⟨o, e, _⟩ := hv; exact Heap.lt_size e
      refine wpAny_mono (turn (n + 2) j s hj (fun b o hb e => hk b o (nlt b hb).1 (nlt b hb).2 (old b o e)) (Nat.lt_succ_of_lt (Nat.lt_succ_self _)) hsz2 hv) (fun y s₄ h₄ => ?_) fun _ _ z => z
      obtain ⟨r, vs, rfl, hr, hlr, hy, K⟩ := h₄
      exact ⟨⟨r, vs, rfl, Nat.lt_of_lt_of_le hsz2 hr, hlr, hy⟩, K⟩
    case fin =>
      intro h' tk gs ys hv ha hF hk hg _
      refine ⟨fun _ => none, ?_, fun h'' hs'' => ?_⟩
      · obtain ⟨o, es, ep, e, r⟩ := ns0
        exact ⟨o, es, ep, hk _ _ ne20 (fun q => q.elim ne23 ne21) e, r⟩
      · have hg' : s₁.gens = gs := hg
        subst hg'
        refine hQ _ h'' tk ys (Nat.le_succ _) (ha.extBut hs''.extBut (Ne.symm ne21)) ?_ fun b o e => hs''.extBut b o (Nat.ne_of_lt (Nat.lt_of_lt_of_le (hn ▸ Heap.lt_size e) (Nat.le_add_right n 2))) (hk b o (nlt b (hn ▸ Heap.lt_size e)).1 (nlt b (hn ▸ Heap.lt_size e)).2 (old b o e))
        have e : (List.range items.size).filter (fun _ => true) = List.range items.size := by induction (List.range items.size) with | nil => rfl | cons a l ih => simp
        rw [e] at hF
        exact Paired.imp (fun j y ⟨r, vs, e1, hr, hlr, hy⟩ => ⟨r, vs, e1, Nat.le_of_lt (Nat.lt_of_le_of_lt (Nat.le_add_right n 3) hr), hlr.extBut hs''.extBut (Nat.ne_of_gt (Nat.lt_trans (Nat.lt_succ_self _) hr)), hy⟩) hF
  exact codeAny_compStart_list loop (wpAny_pyIter_listiter hit loop)
end Mine
end

section
open PySem PySem.W PyProof.Rows PySem.Calls PySem.Spec
namespace Mine
abbrev tl (x : Str) : List Nat := x.cps.toList
theorem tl_inj {x y : Str} (h : tl x = tl y) : x = y := Str.ext' (Array.toList_inj.mp h)
theorem tl_app (x y : Str) : tl (x ++ y) = tl x ++ tl y := by show (x.cps ++ y.cps).toList = _; simp
theorem tl_len (x : Str) : (tl x).length = x.length := by show x.cps.toList.length = x.cps.size; simp
theorem str_beq (x y : Str) : (x == y) = (tl x == tl y) := by
  rw [Bool.eq_iff_iff, beq_iff_eq, beq_iff_eq]
  exact ⟨fun h => by rw [h], tl_inj⟩
theorem tl_slash : tl (Str.ofString "/") = [47] := by decide +kernel
theorem tl_open : tl (Str.ofString "{") = [123] := by decide +kernel
theorem tl_close : tl (Str.ofString "}") = [125] := by decide +kernel
theorem tl_cs : tl (Str.ofString "}*") = [125, 42] := by decide +kernel
theorem tl_star3 : tl (Str.ofString "{*}") = [123, 42, 125] := by decide +kernel
theorem tl_star4 : tl (Str.ofString "{*}*") = [123, 42, 125, 42] := by decide +kernel
theorem tl_top : tl (Str.ofString "{}*") = [123, 125, 42] := by decide +kernel
theorem tl_nil : tl (Str.ofString "") = [] := by decide +kernel
/-- slices as pieces of lists -/
theorem sr_congr {a b c d : Int} (h1 : a = c) (h2 : b = d) : sliceRange a b 1 = sliceRange c d 1 := by rw [h1, h2]
theorem slice_tl (x : Str) (l u : Option Int) (a b : Nat) (h : Builtin.Str.strSliceIndices l u 1 x.length = sliceRange a b 1) (hb : b ≤ x.length) : tl (Txt.slice x l u) = ((tl x).drop a).take (b - a) := by
  rw [sliceRange_one] at h
  unfold Txt.slice
  split
  · rename_i hc
    rw [h] at hc
    simp at hc
    have h0 : a = 0 ∧ b = x.length ∨ x.length = 0 := by omega
    rcases h0 with ⟨rfl, rfl⟩ | h0
    · rw [List.drop_zero, Nat.sub_zero, ← tl_len, List.take_length]
    · have : tl x = [] := List.length_eq_zero_iff.mp (by rw [tl_len]; exact h0)
      rw [this]; simp
  · rw [h]
    show (List.filterMap _ _).toArray.toList = _
    rw [pick_run]
theorem slice_upto (x : Str) (j : Nat) : tl (Txt.slice x none (some (j : Int))) = (tl x).take j := by
  rw [slice_tl x none (some (j : Int)) 0 (min j x.length) ?_ (Nat.min_le_right _ _)]
  · rw [List.drop_zero, Nat.sub_zero]
    by_cases h : j ≤ x.length
    · rw [Nat.min_eq_left h]
    · rw [Nat.min_eq_right (by omega), List.take_of_length_le (by rw [tl_len]; omega), List.take_of_length_le (by rw [tl_len]; omega)]
  · exact sr_congr (rfl) (show (max 0 (min (if (j : Int) < 0 then (j : Int) + (x.length : Int) else (j : Int)) (x.length : Int)) : Int) = ((min j x.length : Nat) : Int) by split <;> omega)
theorem slice_from (x : Str) (j : Nat) : tl (Txt.slice x (some (j : Int)) none) = (tl x).drop j := by
  rw [slice_tl x (some (j : Int)) none (min j x.length) x.length ?_ (Nat.le_refl _)]
  · by_cases h : j ≤ x.length
    · rw [Nat.min_eq_left h, List.take_of_length_le (by rw [List.length_drop, tl_len]; omega)]
    · rw [Nat.min_eq_right (by omega), List.drop_of_length_le (by rw [tl_len]; omega), List.drop_of_length_le (by rw [tl_len]; omega), List.take_nil]
  · exact sr_congr (show (max 0 (min (if (j : Int) < 0 then (j : Int) + (x.length : Int) else (j : Int)) (x.length : Int)) : Int) = ((min j x.length : Nat) : Int) by split <;> omega) (rfl)
theorem slice_upto_neg (x : Str) (j : Nat) (hj : 0 < j) : tl (Txt.slice x none (some (-(j : Int)))) = (tl x).take (x.length - j) := by
  rw [slice_tl x none (some (-(j : Int))) 0 (x.length - j) ?_ (Nat.sub_le _ _)]
  · simp
  · exact sr_congr (rfl) (show (max 0 (min (if (-(j : Int)) < 0 then (-(j : Int)) + (x.length : Int) else (-(j : Int))) (x.length : Int)) : Int) = ((x.length - j : Nat) : Int) by split <;> omega)
theorem slice_from_neg (x : Str) (j : Nat) (hj : 0 < j) : tl (Txt.slice x (some (-(j : Int))) none) = (tl x).drop (x.length - j) := by
  rw [slice_tl x (some (-(j : Int))) none (x.length - j) x.length ?_ (Nat.le_refl _)]
  · rw [List.take_of_length_le (by rw [List.length_drop, tl_len]; omega)]
  · exact sr_congr (show (max 0 (min (if (-(j : Int)) < 0 then (-(j : Int)) + (x.length : Int) else (-(j : Int))) (x.length : Int)) : Int) = ((x.length - j : Nat) : Int) by split <;> omega) (rfl)
theorem starts_iff (x y : Str) : Txt.startswith x y = true ↔ ∃ r, tl x = tl y ++ r := by
  unfold Txt.startswith
  rw [StrLaws.subAt_eq, List.drop_zero, Bool.and_eq_true, decide_eq_true_eq, beq_iff_eq]
  constructor
  · rintro ⟨_, h⟩
    exact ⟨(tl x).drop y.length, by show tl x = y.cps.toList ++ _; rw [← h]; exact (List.take_append_drop _ _).symm⟩
  · rintro ⟨r, h⟩
    have hl : x.length = y.length + r.length := by rw [← tl_len, h, List.length_append, tl_len]
    exact ⟨by omega, by show (tl x).take y.length = _; rw [h, ← tl_len, List.take_left]⟩
theorem item0 {x : Str} {c : Nat} {r : List Nat} (h : tl x = c :: r) : Txt.item x 0 = ⟨#[c]⟩ := by
  have hl : x.length = r.length + 1 := by rw [← tl_len, h]; rfl
  have hc : x.cps[0]? = some c := by rw [← Array.getElem?_toList]; show (tl x)[0]? = _; rw [h]; rfl
  unfold Txt.item Txt.charAt
  have : seqIndex? 0 x.length = some 0 := by
    unfold seqIndex?
    rw [hl]
    simp
  rw [this]
  simp [hc]
/-- the first sign c parts a list in one way -/
theorem first_part {c : Nat} : ∀ {A B r t : List Nat}, c ∉ A → c ∉ B → A ++ c :: r = B ++ c :: t → A = B ∧ r = t
  | [], [], _, _, _, _, h => ⟨rfl, by simpa using h⟩
  | [], b :: B, _, _, _, hB, h => by
    simp at h; exact absurd (h.1 ▸ List.mem_cons_self) hB
  | a :: A, [], _, _, hA, _, h => by
    simp at h; exact absurd (h.1 ▸ List.mem_cons_self) hA
  | a :: A, b :: B, r, t, hA, hB, h => by
    simp at h
    obtain ⟨e, h⟩ := h
    obtain ⟨e1, e2⟩ := first_part (A := A) (B := B) (fun q => hA (List.mem_cons_of_mem _ q)) (fun q => hB (List.mem_cons_of_mem _ q)) h
    exact ⟨by rw [e, e1], e2⟩
/-- the last sign c parts a list in one way -/
theorem last_part {c : Nat} {A B r t : List Nat} (hr : c ∉ r) (ht : c ∉ t) (h : A ++ c :: r = B ++ c :: t) : r = t := by
  have h2 := congrArg List.reverse h
  simp only [List.reverse_append, List.reverse_cons, List.append_assoc, List.singleton_append] at h2
  have := (first_part (c := c) (A := r.reverse) (B := t.reverse) (by simpa using hr) (by simpa using ht) h2).1
  simpa using congrArg List.reverse this
theorem join_last (ys : List Str) (h : ys ≠ []) : ∃ A, tl (Str.join sSlash ys) = A ++ tl (ys.getLast h) ∧ (A = [] ∨ ∃ A', A = A' ++ [47]) := by
  induction ys with
  | nil => exact absurd rfl h
  | cons y r ih =>
    cases r with
    | nil => exact ⟨[], rfl, .inl rfl⟩
    | cons z r' =>
      obtain ⟨A, e, hA⟩ := ih (by simp)
      refine ⟨tl y ++ [47] ++ A, ?_, .inr ?_⟩
      · show tl (y ++ sSlash ++ Str.join sSlash (z :: r')) = _
        rw [tl_app, tl_app, e, tl_slash, List.getLast_cons (List.cons_ne_nil z r')]
        simp only [List.append_assoc]
      · rcases hA with rfl | ⟨A', rfl⟩
        · exact ⟨tl y, by simp⟩
        · exact ⟨tl y ++ [47] ++ A', by simp⟩
theorem lastSeg_is {x : Str} {P n : List Nat} (h : tl x = P ++ 47 :: n) (hn : 47 ∉ n) : tl (lastSeg x) = n := by
  have hne := split_ne x
  have e : lastSeg x = (Txt.split x sSlash).getLast hne := by
    unfold lastSeg
    rw [List.getLast_eq_getElem]
    have : (-1 + ((Txt.split x sSlash).length : Int)).toNat = (Txt.split x sSlash).length - 1 := by omega
    rw [this, List.getD_eq_getElem?_getD, List.getElem?_eq_getElem (by have := List.length_pos_iff.mpr hne; omega)]
    rfl
  have hfree : 47 ∉ tl (lastSeg x) := by
    have := StrLaws.split_free x 47 (lastSeg x)
    have es : sSlash = ⟨#[47]⟩ := by decide +kernel
    rw [← es] at this
    exact this (by rw [e]; exact List.getLast_mem hne)
  obtain ⟨A, hj, hA⟩ := join_last _ hne
  rw [StrLaws.join_split, ← e, h] at hj
  rcases hA with rfl | ⟨A', rfl⟩
  · exfalso
    rw [List.nil_append] at hj
    rw [← hj] at hfree
    exact hfree (by simp)
  · exact (last_part (A := P) (B := A') hn hfree (by rw [hj]; simp)).symm
end Mine
end

section
open PySem PySem.W PyProof.Rows PySem.Calls PySem.Spec
namespace Mine
/-- the places form a tree -/
structure Tree (ps : List Pl) : Prop where
  pos : 0 < ps.length
  root : ps.getD 0 p0 = p0
  rest : ∀ i, 0 < i → i < ps.length → ∃ k nm, k < i ∧ nm ∈ nms ∧ ps.getD i p0 = ⟨(k : Int), (ps.getD k p0).path ++ Str.ofString "/" ++ nm, some (if (ps.getD k p0).path.length = 0 then nm else Str.ofString "{" ++ (ps.getD k p0).path ++ Str.ofString "}" ++ nm)⟩
  inj : ∀ i j, i < ps.length → j < ps.length → (ps.getD i p0).path = (ps.getD j p0).path → i = j
theorem getD_app_l {ps : List Pl} {p : Pl} {i : Nat} (h : i < ps.length) : (ps ++ [p]).getD i p0 = ps.getD i p0 := by
  rw [List.getD_eq_getElem?_getD, List.getD_eq_getElem?_getD, List.getElem?_append_left h]
theorem getD_app_r {ps : List Pl} {p : Pl} : (ps ++ [p]).getD ps.length p0 = p := by
  rw [List.getD_eq_getElem?_getD, List.getElem?_append_right (Nat.le_refl _)]; simp
theorem tree_step {ps : List Pl} (T : Tree ps) (n : Int) : Tree (stepP ps n) := by
  unfold stepP
  split
  · exact T
  · rename_i hc
    have hp := T.pos
    have h0 : 0 ≤ n.fmod ps.length := Int.fmod_nonneg_of_pos _ (by omega)
    have h1 : n.fmod ps.length < ps.length := Int.fmod_lt_of_pos _ (by omega)
    have g0 : 0 ≤ (n.fdiv ps.length).fmod 6 := Int.fmod_nonneg_of_pos _ (by omega)
    have g1 : (n.fdiv ps.length).fmod 6 < 6 := Int.fmod_lt_of_pos _ (by omega)
    have hfresh : ∀ i, i < ps.length → (ps.getD i p0).path ≠ (newPl ps n).path := fun i hi q => hc (by
      rw [List.contains_iff_mem]
      refine List.mem_map.mpr ⟨ps.getD i p0, ?_, q⟩
      rw [List.getD_eq_getElem?_getD, List.getElem?_eq_getElem hi]; exact List.getElem_mem hi)
    have hnm : nms.getD ((n.fdiv ps.length).fmod 6).toNat (Str.ofString "") ∈ nms := by
      have hl : ((n.fdiv ps.length).fmod 6).toNat < nms.length := by show _ < 6; omega
      rw [List.getD_eq_getElem?_getD, List.getElem?_eq_getElem hl]; exact List.getElem_mem hl
    refine ⟨by simp, by rw [getD_app_l hp]; exact T.root, fun i hi hl => ?_, fun i j hi hj e => ?_⟩
    · rw [List.length_append, List.length_singleton] at hl
      by_cases hlt : i < ps.length
      · obtain ⟨k, nm, hk, hm, e⟩ := T.rest i hi hlt
        refine ⟨k, nm, hk, hm, ?_⟩
        rw [getD_app_l hlt, getD_app_l (Nat.lt_trans hk hlt)]
        exact e
      · have : i = ps.length := by omega
        subst this
        have hk : (n.fmod ps.length).toNat < ps.length := by omega
        refine ⟨(n.fmod ps.length).toNat, _, hk, hnm, ?_⟩
        rw [getD_app_r, getD_app_l hk, Int.toNat_of_nonneg h0]
        rfl
    · rw [List.length_append, List.length_singleton] at hi hj
      by_cases a : i < ps.length <;> by_cases b : j < ps.length
      · rw [getD_app_l a, getD_app_l b] at e; exact T.inj i j a b e
      · have : j = ps.length := by omega
        subst this
        rw [getD_app_l a, getD_app_r] at e
        exact absurd e (hfresh i a)
      · have : i = ps.length := by omega
        subst this
        rw [getD_app_l b, getD_app_r] at e
        exact absurd e.symm (hfresh j b)
      · omega
theorem tree_fold : ∀ (l : List Int) (ps : List Pl), Tree ps → Tree (l.foldl stepP ps)
  | [], _, T => T
  | n :: l, ps, T => tree_fold l _ (tree_step T n)
theorem tree_build (ns : List Int) : Tree (buildP ns) := tree_fold _ _ ⟨by decide, rfl, fun i hi hl => by simp at hl; omega, fun i j hi hj _ => by simp at hi hj; omega⟩
theorem build_len (ns : List Int) (h : ns.length ≤ 4) : (buildP ns).length ≤ 9 ∧ ∀ p ∈ buildP ns, TxtOk 30 p.path := by
  have f := fold_ok ([0, 2, 7, 2] ++ ns) [p0] 0 p0_ok
  rw [List.length_append] at f
  refine ⟨?_, fun p hp => (f.1 p hp).mono (by simp; omega)⟩
  have := f.2.2
  simp at this
  show (List.foldl stepP [p0] ([0, 2, 7, 2] ++ ns)).length ≤ 9
  simp; omega
/-- what a name bears -/
def NmOk (n : List Nat) : Prop := n ≠ [] ∧ 47 ∉ n ∧ 125 ∉ n ∧ ∀ r, n ≠ 123 :: r
theorem nm_facts : ∀ nm ∈ nms, NmOk (tl nm) := by
  have e : nms.map tl = [[97], [97, 98], [98], [42], [46, 46], [97, 123]] := by decide +kernel
  intro nm h
  have h2 : tl nm ∈ nms.map tl := List.mem_map_of_mem h
  rw [e] at h2
  simp only [List.mem_cons, List.not_mem_nil, or_false] at h2
  rcases h2 with h | h | h | h | h | h <;> rw [h] <;> exact ⟨by simp, by simp, by simp, fun r => by simp⟩
section
variable {ps : List Pl}
/-- the parts of a place that isn't the top one -/
theorem Tree.parts (T : Tree ps) {i : Nat} (hi : 0 < i) (hl : i < ps.length) : ∃ k n nm, k < i ∧ NmOk n ∧ tl nm = n ∧ (ps.getD i p0).over = (k : Int) ∧ tl (ps.getD i p0).path = tl (ps.getD k p0).path ++ 47 :: n ∧
    (ps.getD i p0).tag = some (if (ps.getD k p0).path.length = 0 then nm else Str.ofString "{" ++ (ps.getD k p0).path ++ Str.ofString "}" ++ nm) := by
  obtain ⟨k, nm, hk, hm, e⟩ := T.rest i hi hl
  refine ⟨k, tl nm, nm, hk, nm_facts nm hm, rfl, by rw [e], ?_, by rw [e]⟩
  rw [e]
  show tl ((ps.getD k p0).path ++ Str.ofString "/" ++ nm) = _
  rw [tl_app, tl_app, tl_slash]; simp
/-- what a path bears -/
structure PathOk (i : Nat) (P : List Nat) : Prop where
  c : 125 ∉ P
  z : i = 0 → P = []
  s : 0 < i → ∃ r, P = 47 :: r
  e : P = [] ∨ ∃ r c, P = r ++ [c] ∧ c ≠ 47
theorem Tree.path (T : Tree ps) : ∀ i, i < ps.length → PathOk i (tl (ps.getD i p0).path) := by
  intro i
  induction i using Nat.strongRecOn with
  | ind i ih =>
    intro hl
    by_cases hi : 0 < i
    · obtain ⟨k, n, nm, hk, ⟨h1, h2, h3, _⟩, _, _, hp, _⟩ := T.parts hi hl
      have K := ih k hk (Nat.lt_trans hk hl)
      rw [hp]
      refine ⟨?_, fun q => absurd q (Nat.ne_of_gt hi), fun _ => ?_, .inr ?_⟩
      · simp only [List.mem_append, List.mem_cons, not_or]; exact ⟨K.c, by decide, h3⟩
      · by_cases hk0 : 0 < k
        · obtain ⟨r, e⟩ := K.s hk0; rw [e]; exact ⟨_, rfl⟩
        · rw [K.z (by omega)]; exact ⟨n, rfl⟩
      · refine ⟨tl (ps.getD k p0).path ++ 47 :: n.dropLast, n.getLast h1, ?_, fun q => h2 (q ▸ List.getLast_mem h1)⟩
        rw [List.append_assoc, List.cons_append, List.dropLast_concat_getLast]
    · have : i = 0 := by omega
      subst this
      rw [T.root]
      show PathOk 0 (tl (Str.ofString ""))
      rw [tl_nil]
      exact ⟨by simp, fun _ => rfl, fun h => absurd h (by omega), .inl rfl⟩
theorem Tree.nil_iff (T : Tree ps) {i : Nat} (hl : i < ps.length) : (ps.getD i p0).path.length = 0 ↔ i = 0 := by
  have K := T.path i hl
  rw [← tl_len]
  constructor
  · intro h
    by_cases hi : 0 < i
    · obtain ⟨r, e⟩ := K.s hi; rw [e] at h; cases h
    · omega
  · intro h; rw [K.z h]; rfl
theorem Tree.path_inj (T : Tree ps) {i j : Nat} (hi : i < ps.length) (hj : j < ps.length) (h : tl (ps.getD i p0).path = tl (ps.getD j p0).path) : i = j := T.inj i j hi hj (tl_inj h)
/-- a place's wildcard -/
def wild (p : Pl) : Str := Str.ofString "{" ++ p.path ++ Str.ofString "}*"
theorem tl_wild (p : Pl) : tl (wild p) = 123 :: tl p.path ++ [125, 42] := by
  unfold wild; rw [tl_app, tl_app, tl_open, tl_cs]; rfl
def pickW (p : Pl) : Pl → Bool := if p.path.length = 0 then NoNs else HasNs (Txt.slice (wild p) none (some (-1))) (Txt.slice (wild p) none (some (-1))).length
theorem tl_ns (p : Pl) : tl (Txt.slice (wild p) none (some (-1))) = 123 :: tl p.path ++ [125] := by
  have := slice_upto_neg (wild p) 1 (by decide)
  rw [show (-((1 : Nat) : Int)) = -1 from rfl] at this
  rw [this, ← tl_len, tl_wild]
  have e : (123 :: tl p.path ++ [125, 42]) = (123 :: tl p.path ++ [125]) ++ [42] := by simp
  rw [e, List.length_append, List.length_singleton, Nat.add_sub_cancel, List.take_left]
theorem Tree.tag0 (T : Tree ps) : (ps.getD 0 p0).tag = none ∧ (ps.getD 0 p0).over = -1 := by rw [T.root]; exact ⟨rfl, rfl⟩
/-- the wildcard picks just the places that lie right in it -/
theorem Tree.pick (T : Tree ps) {i k : Nat} (hi : i < ps.length) (hk : k < ps.length) : pickW (ps.getD i p0) (ps.getD k p0) = ((ps.getD k p0).over == (i : Int)) := by
  unfold pickW
  by_cases hk0 : 0 < k
  · obtain ⟨o, n, nm, ho, ⟨n1, n2, n3, n4⟩, hnm, hov, hpa, htag⟩ := T.parts hk0 hk
    have hol : o < ps.length := Nat.lt_trans ho hk
    have O := T.path o hol
    have I := T.path i hi
    rw [hov]
    by_cases hz : i = 0
    · rw [if_pos ((T.nil_iff hi).mpr hz), NoNs_some htag, hz]
      by_cases oz : o = 0
      · rw [if_pos ((T.nil_iff hol).mpr oz), oz]
        cases hn : n with
        | nil => exact absurd hn n1
        | cons c r =>
          rw [item0 (hnm.trans hn)]
          have : c ≠ 123 := fun q => n4 r (by rw [hn, q])
          have e : (⟨#[c]⟩ : Str) ≠ Str.ofString "{" := fun q => this (by have := congrArg tl q; rw [tl_open] at this; have h2 : [c] = [123] := this; simpa using h2)
          simpa [bne_iff_ne] using e
      · rw [if_neg (fun q => oz ((T.nil_iff hol).mp q))]
        have ht : tl (Str.ofString "{" ++ (ps.getD o p0).path ++ Str.ofString "}" ++ nm) = 123 :: (tl (ps.getD o p0).path ++ 125 :: n) := by
          rw [tl_app, tl_app, tl_app, tl_open, tl_close, hnm]; simp
        rw [item0 ht]
        have e : (⟨#[123]⟩ : Str) = Str.ofString "{" := tl_inj (by rw [tl_open])
        rw [e]
        have : ((o : Int) == ((0 : Nat) : Int)) = false := by simp; omega
        rw [this]; simp
    · rw [if_neg (fun q => hz ((T.nil_iff hi).mp q)), HasNs_some htag, str_beq, tl_ns, slice_upto]
      have hlen : (Txt.slice (wild (ps.getD i p0)) none (some (-1))).length = (123 :: tl (ps.getD i p0).path ++ [125]).length := by rw [← tl_len, tl_ns]
      rw [hlen]
      by_cases oz : o = 0
      · rw [if_pos ((T.nil_iff hol).mpr oz), hnm]
        have e1 : ((o : Int) == (i : Int)) = false := by simp; omega
        rw [e1]
        simp only [beq_eq_false_iff_ne]
        intro q
        cases hn : n with
        | nil => exact n1 hn
        | cons c r =>
          rw [hn] at q
          simp at q
          exact n4 r (by rw [hn, q.1])
      · rw [if_neg (fun q => oz ((T.nil_iff hol).mp q))]
        have ht : tl (Str.ofString "{" ++ (ps.getD o p0).path ++ Str.ofString "}" ++ nm) = 123 :: (tl (ps.getD o p0).path ++ 125 :: n) := by
          rw [tl_app, tl_app, tl_app, tl_open, tl_close, hnm]; simp
        rw [ht, Bool.eq_iff_iff, beq_iff_eq, beq_iff_eq]
        constructor
        · intro q
          have h2 := List.take_append_drop (123 :: tl (ps.getD i p0).path ++ [125]).length (123 :: (tl (ps.getD o p0).path ++ 125 :: n))
          rw [q] at h2
          have h3 : tl (ps.getD i p0).path ++ 125 :: (List.drop (123 :: tl (ps.getD i p0).path ++ [125]).length (123 :: (tl (ps.getD o p0).path ++ 125 :: n))) = tl (ps.getD o p0).path ++ 125 :: n := by
            simpa using h2
          have := (first_part I.c O.c h3).1
          rw [T.path_inj hi hol this]
        · intro q
          have : o = i := by omega
          subst this
          have : (123 :: (tl (ps.getD o p0).path ++ 125 :: n)) = (123 :: tl (ps.getD o p0).path ++ [125]) ++ n := by simp
          rw [this, List.take_left]
  · have : k = 0 := by omega
    subst this
    rw [T.tag0.2]
    have e : ((-1 : Int) == (i : Int)) = false := by simp
    rw [e]
    split
    · exact NoNs_none T.tag0.1
    · exact HasNs_none T.tag0.1
end
end Mine
end

section
open PySem PySem.W PyProof.Rows PySem.Calls PySem.Spec
namespace Mine
abbrev sH : Str := Str.ofString "h"
abbrev sG : Str := Str.ofString "g"
section
variable {ps : List Pl}
/-- k lies somewhere below i -/
def Below (ps : List Pl) (i k : Nat) : Prop := ∃ r, tl (ps.getD k p0).path = tl (ps.getD i p0).path ++ 47 :: r
def belowB (ps : List Pl) (i k : Nat) : Bool := Txt.startswith (ps.getD k p0).path ((ps.getD i p0).path ++ Str.ofString "/")
theorem below_iff {i k : Nat} : belowB ps i k = true ↔ Below ps i k := by
  unfold belowB
  rw [starts_iff, tl_app, tl_slash]
  unfold Below
  simp
theorem below_not {i k : Nat} (h : ¬ Below ps i k) : belowB ps i k = false := Bool.eq_false_iff.mpr fun q => h (below_iff.mp q)
theorem starts_below {i k : Nat} : Txt.startswith (ps.getD k p0).path ((ps.getD i p0).path ++ Str.ofString "/") = belowB ps i k := rfl
theorem Tree.end47 (T : Tree ps) {i : Nat} (hi : i < ps.length) (r : List Nat) : tl (ps.getD i p0).path ≠ r ++ [47] := by
  intro q
  rcases (T.path i hi).e with e | ⟨r', c, e, hc⟩
  · rw [e] at q; simp at q
  · rw [e] at q
    have h := (List.append_inj' q rfl).2
    exact hc (by simpa using h)
theorem last_slash (p : Str) : (Txt.slice p (some (-1)) none == Str.ofString "/") = true ↔ ∃ r, tl p = r ++ [47] := by
  have e := slice_from_neg p 1 (by decide)
  rw [show (-((1 : Nat) : Int)) = -1 from rfl] at e
  rw [str_beq, e, tl_slash, beq_iff_eq]
  constructor
  · intro h
    exact ⟨(tl p).take (p.length - 1), by rw [← h]; exact (List.take_append_drop _ _).symm⟩
  · rintro ⟨r, h⟩
    have : p.length - 1 = r.length := by rw [← tl_len, h]; simp
    rw [this, h, List.drop_left]
theorem Tree.cov (T : Tree ps) {i k : Nat} (hi : i < ps.length) (hk : k < ps.length) : subV sH (ps.getD i p0).path sH (ps.getD k p0).path = (i == k || belowB ps i k) := by
  unfold subV
  have e1 : ((ps.getD i p0).path == (ps.getD k p0).path) = (i == k) := by
    rw [Bool.eq_iff_iff, beq_iff_eq, beq_iff_eq]
    exact ⟨fun h => T.inj i k hi hk h, fun h => by rw [h]⟩
  have e2 : (Txt.slice (ps.getD i p0).path (some (-1)) none != Str.ofString "/") = true := by
    rw [bne, Bool.not_eq_true']
    cases h : (Txt.slice (ps.getD i p0).path (some (-1)) none == Str.ofString "/") with
    | false => rfl
    | true => obtain ⟨r, q⟩ := (last_slash _).mp h; exact absurd q (T.end47 hi r)
  rw [e1, e2, starts_below]
  simp only [beq_self_eq_true, Bool.true_and, bne_self_eq_false, Bool.false_eq_true, if_false, if_true]
  cases i == k <;> simp
theorem Tree.covS (T : Tree ps) {i k : Nat} (hi : i < ps.length) (hk : k < ps.length) : subV sH ((ps.getD i p0).path ++ Str.ofString "/") sH (ps.getD k p0).path = belowB ps i k := by
  unfold subV
  have e1 : (((ps.getD i p0).path ++ Str.ofString "/") == (ps.getD k p0).path) = false := by
    rw [beq_eq_false_iff_ne]
    intro h
    exact T.end47 hk (tl (ps.getD i p0).path) (by rw [← h, tl_app, tl_slash])
  have e2 : (Txt.slice ((ps.getD i p0).path ++ Str.ofString "/") (some (-1)) none != Str.ofString "/") = false := by
    rw [bne, Bool.not_eq_false']
    exact (last_slash _).mpr ⟨_, by rw [tl_app, tl_slash]⟩
  rw [e1, e2, starts_below]
  simp
theorem covG (p q : Str) : subV sG p sH q = false := by
  unfold subV
  have e : (sG == sH) = false := by decide +kernel
  rw [e]
  simp [bne, e]
theorem Tree.below0 (T : Tree ps) (i : Nat) : belowB ps i 0 = false := by
  refine below_not ?_
  rintro ⟨r, h⟩
  rw [(T.path 0 T.pos).z rfl] at h
  simp at h
theorem below_self (i : Nat) : belowB ps i i = false := by
  refine below_not ?_
  rintro ⟨r, h⟩
  have := congrArg List.length h
  simp at this
theorem Tree.below_up (T : Tree ps) {i k o : Nat} {n : List Nat} (hi : i < ps.length) (ho : o < ps.length) (hn : 47 ∉ n) (hp : tl (ps.getD k p0).path = tl (ps.getD o p0).path ++ 47 :: n) : belowB ps i k = (i == o || belowB ps i o) := by
  rw [Bool.eq_iff_iff, Bool.or_eq_true, beq_iff_eq, below_iff, below_iff]
  unfold Below
  rw [hp]
  constructor
  · rintro ⟨r, h⟩
    rcases List.append_eq_append_iff.mp h with ⟨c, e1, e2⟩ | ⟨c, e1, e2⟩
    · cases c with
      | nil => left; exact T.path_inj hi ho (by simpa using e1)
      | cons a c' =>
        simp at e2
        exfalso
        exact hn (by rw [e2.2]; simp)
    · cases c with
      | nil => left; exact T.path_inj hi ho (by simpa using e1.symm)
      | cons a c' =>
        simp at e2
        right
        exact ⟨c', by rw [e1, ← e2.1]⟩
  · rintro (rfl | ⟨r, h⟩)
    · exact ⟨n, rfl⟩
    · exact ⟨r ++ 47 :: n, by rw [h]; simp⟩
def tabV (ps : List Pl) (i k : Nat) : Int := if subV sH (ps.getD i p0).path sH (ps.getD k p0).path = true then 1 else 0
/-- the places right in i -/
def kids (ps : List Pl) (i : Nat) : List Nat := (List.range ps.length).filter fun k => (ps.getD k p0).over == (i : Int)
def belowSum (ps : List Pl) (i k : Nat) : Int := ((kids ps i).map fun n => tabV ps n k).sum
theorem sum_map_add (f g : Nat → Int) : ∀ l : List Nat, (l.map fun n => f n + g n).sum = (l.map f).sum + (l.map g).sum
  | [] => rfl
  | a :: l => by simp only [List.map_cons, List.sum_cons, sum_map_add f g l]; omega
theorem sum_zero (f : Nat → Int) : ∀ l : List Nat, (∀ n ∈ l, f n = 0) → (l.map f).sum = 0
  | [], _ => rfl
  | a :: l, h => by simp only [List.map_cons, List.sum_cons, h a List.mem_cons_self, sum_zero f l fun n hn => h n (List.mem_cons_of_mem _ hn)]; rfl
theorem sum_congr {f g : Nat → Int} : ∀ l : List Nat, (∀ n ∈ l, f n = g n) → (l.map f).sum = (l.map g).sum
  | [], _ => rfl
  | a :: l, h => by simp only [List.map_cons, List.sum_cons, h a List.mem_cons_self, sum_congr l fun n hn => h n (List.mem_cons_of_mem _ hn)]
theorem sum_single (p : Nat → Bool) (k : Nat) : ∀ N, (((List.range N).filter p).map fun n => if n = k then (1 : Int) else 0).sum = if k < N ∧ p k = true then 1 else 0
  | 0 => by simp
  | N + 1 => by
    rw [range_filter_succ, List.map_append, List.sum_append, sum_single p k N]
    by_cases hN : N = k
    · subst hN
      cases hp : p N <;> simp [hp]
    · have h1 : (k < N + 1) ↔ k < N := by omega
      cases hp : p N <;> simp [h1, hN]
theorem Tree.kid (T : Tree ps) {i n : Nat} (h : n ∈ kids ps i) : n < ps.length ∧ 0 < n := by
  unfold kids at h
  obtain ⟨h1, h2⟩ := List.mem_filter.mp h
  refine ⟨List.mem_range.mp h1, ?_⟩
  by_cases h0 : 0 < n
  · exact h0
  · have : n = 0 := by omega
    subst this
    rw [T.tag0.2] at h2
    simp at h2
theorem Tree.sum (T : Tree ps) {i : Nat} (hi : i < ps.length) : ∀ k, k < ps.length → belowSum ps i k = if belowB ps i k = true then 1 else 0 := by
  intro k
  induction k using Nat.strongRecOn with
  | ind k ih =>
    intro hk
    by_cases hk0 : 0 < k
    · obtain ⟨o, n, nm, ho, ⟨_, n2, _, _⟩, _, hov, hp, _⟩ := T.parts hk0 hk
      have hol : o < ps.length := Nat.lt_trans ho hk
      have e1 : belowSum ps i k = ((kids ps i).map fun m => if m = k then (1 : Int) else 0).sum + belowSum ps i o := by
        unfold belowSum
        rw [← sum_map_add]
        refine sum_congr _ fun m hm => ?_
        have hml := (T.kid hm).1
        unfold tabV
        rw [T.cov hml hk, T.cov hml hol, T.below_up hml hol n2 hp]
        by_cases q : m = k
        · subst q
          have : (m == o || belowB ps m o) = false := by
            rw [← T.below_up hml hol n2 hp]; exact below_self m
          rw [this]; simp
        · rw [if_neg q]
          have : (m == k) = false := by simpa using q
          rw [this]; simp
      have e2 : ((kids ps i).map fun m => if m = k then (1 : Int) else 0).sum = if o = i then 1 else 0 := by
        unfold kids
        rw [sum_single]
        have : (k < ps.length ∧ ((ps.getD k p0).over == (i : Int)) = true) ↔ o = i := by
          rw [hov, beq_iff_eq]
          exact ⟨fun h => by omega, fun h => ⟨hk, by omega⟩⟩
        by_cases q : o = i
        · rw [if_pos (this.mpr q), if_pos q]
        · rw [if_neg (fun h => q (this.mp h)), if_neg q]
      rw [e1, e2, ih o ho hol, T.below_up hi hol n2 hp]
      by_cases q : o = i
      · subst q; rw [below_self]; simp
      · rw [if_neg q]
        have : (i == o) = false := by simp; omega
        rw [this]; simp
    · have : k = 0 := by omega
      subst this
      rw [T.below0]
      unfold belowSum
      rw [sum_zero]
      · rfl
      · intro m hm
        obtain ⟨h1, h2⟩ := T.kid hm
        unfold tabV
        rw [T.cov h1 hk, T.below0]
        have : (m == 0) = false := by simp; omega
        rw [this]; rfl
/-- the two tables undo each other -/
theorem Tree.undo (T : Tree ps) {i k : Nat} (hi : i < ps.length) (hk : k < ps.length) : tabV ps i k - belowSum ps i k = if k = i then 1 else 0 := by
  rw [T.sum hi k hk]
  unfold tabV
  rw [T.cov hi hk]
  by_cases q : k = i
  · subst q; rw [below_self]; simp
  · rw [if_neg q]
    have : (i == k) = false := by simp; omega
    rw [this]
    cases belowB ps i k <;> rfl
theorem Tree.slash (T : Tree ps) {i k : Nat} (hi : i < ps.length) (hk : k < ps.length) : subV sH ((ps.getD i p0).path ++ Str.ofString "/") sH (ps.getD k p0).path = (belowSum ps i k == 1) := by
  rw [T.covS hi hk, T.sum hi k hk]
  cases belowB ps i k <;> rfl
theorem Tree.kids_are (T : Tree ps) {i : Nat} (hi : i < ps.length) : ksFrom (fun k => pickW (ps.getD i p0) (ps.getD k p0)) ps.length 0 = kids ps i := by
  rw [ksFrom_zero]
  unfold kids
  exact List.filter_congr fun k hk => T.pick hi (List.mem_range.mp hk)
theorem range_shift (q : Nat → Bool) (N : Nat) (hN : 0 < N) (h0 : q 0 = false) : (List.range N).filter q = ((List.range (N - 1)).filter fun i => q (i + 1)).map fun i => i + 1 := by
  obtain ⟨M, rfl⟩ : ∃ M, N = M + 1 := ⟨N - 1, by omega⟩
  rw [List.range_succ_eq_map, List.filter_cons, h0, List.filter_map, Nat.add_sub_cancel]
  simp only [Bool.false_eq_true, if_false]
  rfl
theorem Tree.all (T : Tree ps) : ksFrom (fun k => AllTag (ps.getD k p0)) ps.length 0 = (List.range (ps.length - 1)).map fun i => i + 1 := by
  rw [ksFrom_zero, range_shift _ _ T.pos (by show (ps.getD 0 p0).tag.isSome = false; rw [T.tag0.1]; rfl)]
  congr 1
  refine List.filter_eq_self.mpr fun i hi => ?_
  have hi' := List.mem_range.mp hi
  obtain ⟨_, _, _, _, _, _, _, _, ht⟩ := T.parts (i := i + 1) (by omega) (by omega)
  show (ps.getD (i + 1) p0).tag.isSome = true
  rw [ht]; rfl
theorem Tree.named (T : Tree ps) {nm : Str} (hnm : NmOk (tl nm)) {suf : Str} (hs : tl suf = 125 :: tl nm) : ksFrom (fun k => Named nm suf (-(suf.length : Int)) (ps.getD k p0)) ps.length 0 =
    ((List.range (ps.length - 1)).filter fun i => lastSeg (ps.getD (i + 1) p0).path == nm).map fun i => i + 1 := by
  rw [ksFrom_zero, range_shift _ _ T.pos (Named_none T.tag0.1)]
  congr 1
  refine List.filter_congr fun i hi => ?_
  have hi' := List.mem_range.mp hi
  have hl : i + 1 < ps.length := by omega
  obtain ⟨o, n, nm', ho, ⟨n1, n2, n3, n4⟩, hn', hov, hp, ht⟩ := T.parts (i := i + 1) (by omega) hl
  have hol : o < ps.length := Nat.lt_trans ho hl
  have O := T.path o hol
  have hls : tl (lastSeg (ps.getD (i + 1) p0).path) = n := lastSeg_is hp n2
  have hsl : suf.length = (tl nm).length + 1 := by rw [← tl_len, hs]; rfl
  rw [Named_some ht, str_beq, str_beq, str_beq, hls, slice_from_neg _ _ (by omega), hs]
  obtain ⟨m1, m2, m3, m4⟩ := hnm
  by_cases oz : o = 0
  · rw [if_pos ((T.nil_iff hol).mpr oz), hn']
    have : (List.drop (nm'.length - suf.length) n == 125 :: tl nm) = false := by
      rw [beq_eq_false_iff_ne]
      intro q
      exact n3 (List.mem_of_mem_drop (q ▸ List.mem_cons_self))
    rw [this, Bool.or_false]
  · rw [if_neg (fun q => oz ((T.nil_iff hol).mp q))]
    have ht' : tl (Str.ofString "{" ++ (ps.getD o p0).path ++ Str.ofString "}" ++ nm') = 123 :: tl (ps.getD o p0).path ++ 125 :: n := by
      rw [tl_app, tl_app, tl_app, tl_open, tl_close, hn']; simp
    rw [ht']
    have e1 : (123 :: tl (ps.getD o p0).path ++ 125 :: n == tl nm) = false := by
      rw [beq_eq_false_iff_ne]
      intro q
      exact m4 _ q.symm
    rw [e1, Bool.false_or, Bool.eq_iff_iff, beq_iff_eq, beq_iff_eq]
    constructor
    · intro q
      have h2 := List.take_append_drop ((Str.ofString "{" ++ (ps.getD o p0).path ++ Str.ofString "}" ++ nm').length - suf.length) (123 :: tl (ps.getD o p0).path ++ 125 :: n)
      rw [q] at h2
      exact (last_part (A := 123 :: tl (ps.getD o p0).path) n3 m3 h2.symm)
    · intro q
      have hlen : (Str.ofString "{" ++ (ps.getD o p0).path ++ Str.ofString "}" ++ nm').length - suf.length = (123 :: tl (ps.getD o p0).path).length := by
        rw [← tl_len, ht', hsl, ← q]; simp; omega
      rw [hlen, List.drop_left, q]
/-- sizes -/
theorem Tree.tagOk (T : Tree ps) (hp : ∀ p ∈ ps, TxtOk 30 p.path) : ∀ p ∈ ps, TagOk p := by
  intro p hp'
  obtain ⟨i, hi, rfl⟩ := List.mem_iff_getElem.mp hp'
  have e : ps[i] = ps.getD i p0 := by rw [List.getD_eq_getElem?_getD, List.getElem?_eq_getElem hi]; rfl
  rw [e]
  intro t ht
  by_cases h0 : 0 < i
  · obtain ⟨o, nm, ho, hm, hE⟩ := T.rest i h0 hi
    rw [hE] at ht
    have hol : o < ps.length := Nat.lt_trans ho hi
    have hpo : TxtOk 30 (ps.getD o p0).path := getD_ok hp o
    have hnm : TxtOk 2 nm := by
      obtain ⟨j, hj, rfl⟩ := List.mem_iff_getElem.mp hm
      have := nms_ok j
      rw [List.getD_eq_getElem?_getD, List.getElem?_eq_getElem hj] at this; exact this
    have hne := (nm_facts nm hm).1
    have hnl : 1 ≤ nm.length := by rw [← tl_len]; exact List.length_pos_iff.mpr hne
    injection ht with ht
    subst ht
    split
    · exact ⟨hnl, hnm.mono (by omega)⟩
    · have a : TxtOk 1 (Str.ofString "{") := ⟨by decide +kernel, by decide +kernel⟩
      have b : TxtOk 1 (Str.ofString "}") := ⟨by decide +kernel, by decide +kernel⟩
      refine ⟨?_, (((a.append hpo).append b).append hnm).mono (by omega)⟩
      rw [← tl_len, tl_app]
      simp
      rw [← tl_len] at hnl
      exact Nat.le_add_left_of_le hnl
  · have : i = 0 := by omega
    subst this
    rw [T.tag0.1] at ht
    cases ht
end
end Mine
end

section
open PySem PySem.W PyProof.Rows PySem.Calls PySem.Spec
namespace Mine
abbrev nPlaces : Str := Str.ofString "places"
abbrev nManager : Str := Str.ofString "manager"
abbrev nOne : Str := Str.ofString "one"
abbrev nTable : Str := Str.ofString "table"
abbrev nK : Str := Str.ofString "k"
abbrev nPicked : Str := Str.ofString "picked"
abbrev nBelow : Str := Str.ofString "below"
abbrev nName : Str := Str.ofString "name"
/-- the law's surroundings: its names and its cells -/
structure LEnv (env : Env) (L : Addr) : Prop where
  k : env.scope.kind = .function
  l : env.locals = L
  g : env.globals = mainGlobals
  b : env.builtins = builtinsNs
  kP : env.kindOf nPlaces = some .cell
  cP : env.cells.lookup nPlaces = some (L + 1)
  kM : env.kindOf nManager = some .cell
  cM : env.cells.lookup nManager = some (L + 2)
  kO : env.kindOf nOne = some .cell
  cO : env.cells.lookup nOne = some (L + 3)
  kT : env.kindOf nTable = some .cell
  cT : env.cells.lookup nTable = some (L + 4)
  kK : env.kindOf nK = some .cell
  cK : env.cells.lookup nK = some (L + 5)
  kPi : env.kindOf nPicked = some .local
  kBe : env.kindOf nBelow = some .local
  kNa : env.kindOf nName = some .local
  gPi : env.kindOf (Str.ofString "_law_picked") = some .globalImplicit
  gCa : env.kindOf (Str.ofString "_law_called") = some .globalImplicit
  gRa : env.kindOf (Str.ofString "range") = some .globalImplicit
  gLe : env.kindOf (Str.ofString "len") = some .globalImplicit
  gSu : env.kindOf (Str.ofString "sum") = some .globalImplicit
/-- a place of the heap that the loops leave -/
def Sp (L b : Addr) : Prop := b ≠ 73 ∧ b ≠ L ∧ b ≠ L + 3 ∧ b ≠ L + 5
theorem Tab80.of {h : Heap} (e : h.get? 80 = some (tabObj #[])) : Tab80 h := ⟨_, e, .inl rfl⟩
/-- what stood ahead of the law -/
structure Ctx (w : World) (mean : ExcName → Option Value) (mg mb : Str → Option Value) (lo : List Str) (s0 : Heap) (L : Addr) : Prop where
  X : (KK w).In s0
  B : Bm s0
  T73 : s0.get? 73 = some (tabObj #[])
  T80 : s0.get? 80 = some (tabObj #[])
  TT : Top topProg lo mean mg mb (hideAll s0 [73, 80])
  L : L = s0.objs.size
def Old (s0 h : Heap) : Prop := ∀ b o, b ≠ 73 → b ≠ 80 → s0.get? b = some o → h.get? b = some o
section
variable {w : World} {mean : ExcName → Option Value} {mg mb : Str → Option Value} {lo : List Str} {s0 h : Heap} {L : Addr}
theorem Ctx.ne (C : Ctx w mean mg mb lo s0 L) {b : Addr} {o : Obj} (e : s0.get? b = some o) (p : plainO o = true) : b ≠ 73 ∧ b ≠ 80 := by
  constructor
  · intro q; subst q; rw [C.T73] at e; cases e; cases p
  · intro q; subst q; rw [C.T80] at e; cases e; cases p
theorem Ctx.inK (C : Ctx w mean mg mb lo s0 L) (O : Old s0 h) : (KK w).In h := fun a o e => by
  have n := C.ne (C.X a o e) (KK_plain w a o e)
  exact O a o n.1 n.2 (C.X a o e)
theorem Ctx.bm (C : Ctx w mean mg mb lo s0 L) (O : Old s0 h) : Bm h := let ⟨sl, e⟩ := C.B; ⟨sl, O _ _ (by decide) (by decide) e⟩
theorem hide2_get {s0 : Heap} {b : Addr} {o : Obj} (e : (hideAll s0 [73, 80]).get? b = some o) : s0.get? b = some o ∧ b ≠ 73 ∧ b ≠ 80 := by
  refine ⟨of_hideAll _ e, fun q => ?_, fun q => ?_⟩
  · subst q; rw [hideAll_none [73, 80] (.head _)] at e; cases e
  · subst q; rw [hideAll_none [73, 80] (.tail _ (.head _))] at e; cases e
theorem Ctx.top (C : Ctx w mean mg mb lo s0 L) (O : Old s0 h) : Top topProg lo mean mg mb h := C.TT.keeps fun b o e => let ⟨e1, n1, n2⟩ := hide2_get e; O b o n1 n2 e1
theorem Ctx.top7 (C : Ctx w mean mg mb lo s0 L) (O : Old s0 h) : Top topProg lo mean mg mb (g7 h) := C.TT.keeps fun b o e => let ⟨e1, n1, n2⟩ := hide2_get e; g7_in (O b o n1 n2 e1) n1
theorem Ctx.top8 (C : Ctx w mean mg mb lo s0 L) (O : Old s0 h) : Top topProg lo mean mg mb (g8 h) := C.TT.keeps fun b o e => let ⟨e1, n1, n2⟩ := hide2_get e; g8_in (O b o n1 n2 e1) n2
end
/-- what stands in the law's loops -/
structure LBase (L : Addr) (s0 : Heap) (pl mgr tb : Addr) (pvs : List Value) (ps : List Pl) (h : Heap) : Prop where
  old : Old s0 h
  t73 : Tab73 h
  t80 : ∃ qs, h.get? 80 = some (tabObj qs)
  li : h.IsList pl pvs.toArray
  lis : Sp L pl
  P : PlacesAt (Sp L) h pvs ps
  cP : h.IsCell (L + 1) (some (.ref pl))
  cM : h.IsCell (L + 2) (some (.ref mgr))
  cT : h.IsCell (L + 4) (some (.ref tb))
  M : MgrAt (Sp L) h mgr
  tab : ∃ rows : Array Value, h.IsList tb rows ∧ Sp L tb ∧ ∀ i, i < ps.length → ∃ r vs, rows[i]? = some (.ref r) ∧ Sp L r ∧ h.IsList r vs ∧ IntsAre vs.toList ((List.range ps.length).map fun k => tabV ps i k)
section
variable {L : Addr} {s0 h h' : Heap} {pl mgr tb : Addr} {pvs : List Value} {ps : List Pl}
theorem LBase.mv (hL : L = s0.objs.size) (h73 : 73 < L) (h80 : 80 < L) (b : LBase L s0 pl mgr tb pvs ps h) (k : ∀ b o, Sp L b → h.get? b = some o → h'.get? b = some o) (t : Tab73 h') : LBase L s0 pl mgr tb pvs ps h' := by
  have sp : ∀ j, @LT.lt Nat _ j L → j ≠ 73 → Sp L j := fun j hj hn => ⟨hn, Nat.ne_of_lt hj, Nat.ne_of_lt (Nat.lt_of_lt_of_le hj (Nat.le_add_right _ _)), Nat.ne_of_lt (Nat.lt_of_lt_of_le hj (Nat.le_add_right _ _))⟩
  have h73' : @LT.lt Nat _ 73 L := h73
  have spc : ∀ j : Nat, (j = 1 ∨ j = 2 ∨ j = 4) → Sp L (L + j) := fun j hj => ⟨Nat.ne_of_gt (Nat.lt_of_lt_of_le h73 (Nat.le_add_right _ _)), Nat.ne_of_gt (Nat.lt_add_of_pos_right (by omega)), fun q => by have := Nat.add_left_cancel q; omega, fun q => by have := Nat.add_left_cancel q; omega⟩
  refine ⟨fun a o h1 h2 e => k a o (sp a (hL ▸ Heap.lt_size e) h1) (b.old a o h1 h2 e), t, ?_, ?_, b.lis, b.P.move k, ?_, ?_, ?_, b.M.move k, ?_⟩
  · obtain ⟨qs, e⟩ := b.t80; exact ⟨qs, k _ _ (sp 80 h80 (by decide)) e⟩
  · obtain ⟨o, e, r⟩ := b.li; exact ⟨o, k _ _ b.lis e, r⟩
  · obtain ⟨o, e, r⟩ := b.cP; exact ⟨o, k _ _ (spc 1 (.inl rfl)) e, r⟩
  · obtain ⟨o, e, r⟩ := b.cM; exact ⟨o, k _ _ (spc 2 (.inr (.inl rfl))) e, r⟩
  · obtain ⟨o, e, r⟩ := b.cT; exact ⟨o, k _ _ (spc 4 (.inr (.inr rfl))) e, r⟩
  · obtain ⟨rows, ⟨o, e, r⟩, s1, hr⟩ := b.tab
    refine ⟨rows, ⟨o, k _ _ s1 e, r⟩, s1, fun i hi => ?_⟩
    obtain ⟨r, vs, e1, s2, ⟨o2, e2, r2⟩, hi2⟩ := hr i hi
    exact ⟨r, vs, e1, s2, ⟨o2, k _ _ s2 e2, r2⟩, hi2⟩
theorem Tab73.but {h h' : Heap} {Z : Addr} (hZ : 73 < Z) (t : Tab73 h) (hc : ∀ o, h.get? Z = some o → ∀ fs, o.data ≠ .fields fs) (k : ∀ b o, b ≠ Z → h.get? b = some o → h'.get? b = some o) : Tab73 h' := by
  obtain ⟨ps, e, o, r⟩ := t
  refine ⟨ps, k _ _ (Nat.ne_of_lt hZ) e, o, fun pos v q => ?_⟩
  obtain ⟨c, a, b, z⟩ := r pos v q
  refine ⟨c, a, b, codeRec_move z fun o' e' => k _ _ (fun q => ?_) e'⟩
  obtain ⟨c₂, o₂, vs₂, t₂, x₂, g₂, d₂, _⟩ := z
  cases x₂
  rw [q] at g₂
  exact hc _ g₂ _ d₂
theorem LBase.ext (hL : L = s0.objs.size) (h73 : 73 < L) (h80 : 80 < L) (b : LBase L s0 pl mgr tb pvs ps h) (x : Ext h h') : LBase L s0 pl mgr tb pvs ps h' :=
  b.mv hL h73 h80 (fun a o _ e => x a o e) (b.t73.move fun a o e _ => x a o e)
/-- the frame alone changed -/
theorem LBase.frame (hL : L = s0.objs.size) (h73 : 73 < L) (h80 : 80 < L) {m : Str → Option Value} (b : LBase L s0 pl mgr tb pvs ps h) (n : h.Ns L m) (k : ∀ b o, b ≠ L → h.get? b = some o → h'.get? b = some o) : LBase L s0 pl mgr tb pvs ps h' :=
  b.mv hL h73 h80 (fun a o s e => k a o s.2.1 e) (b.t73.but h73 (fun o e fs d => by obtain ⟨o', es, ep, e', d', _⟩ := n; rw [e] at e'; cases e'; rw [d] at d'; cases d') k)
end
end Mine
end

section
open PySem PySem.W PyProof.Rows PySem.Calls PySem.Spec
namespace Mine
theorem paired_intsI {f : Nat → Int} : ∀ {l : List Nat} {ys : List Value}, Paired (fun j y => ∃ t, y = Value.int (f j) t) l ys → IntsAre ys (l.map f)
  | _, _, .nil => .nil
  | _, _, .cons ⟨t, e⟩ r => by subst e; exact .cons _ _ (paired_intsI r)
theorem map_getD_f {f : Nat → Int} {l : List Nat} : ((List.range l.length).map fun j => f (l.getD j 0)) = l.map f := by
  refine List.ext_getElem (by simp) fun i h1 h2 => ?_
  simp at h1
  simp [h1]
theorem ints_at {vs : List Value} {ns : List Int} (h : IntsAre vs ns) {j : Nat} (hj : j < ns.length) : ∃ t, vs[j]? = some (.int (ns.getD j 0) t) := ints_get h j hj
theorem relabel_cell {scope : Scope} {env : Env} {x : Str} (hk : env.scope.kind = .function) (hx : env.kindOf x = some .cell) : ∀ {names : List (Str × NameKind)}, names.lookup x = some .free →
    (names.map fun (n, k) => if (k == NameKind.free && env.scope.kind == .function && env.kindOf n == some .cell) then (n, NameKind.cell) else (n, k)).lookup x = some .cell
  | [], h => by simp at h
  | (n, k) :: r, h => by
    rw [List.lookup_cons] at h
    rw [List.map_cons, List.lookup_cons]
    split at h
    · rename_i q
      have e : x = n := by simpa using q
      cases h
      subst e
      simp [hk, hx]
    · rename_i q
      have ih := relabel_cell (scope := scope) (env := env) hk hx h
      have e : ∀ b : Bool, ((if b = true then (n, NameKind.cell) else (n, k)) : Str × NameKind).1 = n := fun b => by cases b <;> rfl
      dsimp only
      rw [e, q]
      exact ih
theorem closure1 {scope : Scope} {env : Env} {x y : Str} {c : Addr} (hs : scope.names = [(Str.ofString ".0", .local), (x, .local), (y, .free)]) (hc : env.cells.lookup y = some c) : closureFor scope env = pure [(y, c)] := by
  unfold closureFor
  rw [hs]
  have : cellOf env y = pure c := by unfold cellOf; rw [hc]
  simp [this]
theorem closure2 {scope : Scope} {env : Env} {x y z : Str} {c d : Addr} (hs : scope.names = [(Str.ofString ".0", .local), (x, .local), (y, .free), (z, .free)]) (hc : env.cells.lookup y = some c) (hd : env.cells.lookup z = some d) : closureFor scope env = pure [(z, d), (y, c)] := by
  unfold closureFor
  rw [hs]
  have h1 : cellOf env y = pure c := by unfold cellOf; rw [hc]
  have h2 : cellOf env z = pure d := by unfold cellOf; rw [hd]
  simp [h1, h2]
section
variable {w : World} {A : Around} {E : Value → Shared → Prop} {s : Shared} {env : Env} {L : Addr}
theorem cell_ext {h h' : Heap} {c : Addr} {v : Option Value} (x : h.IsCell c v) (k : Ext h h') : h'.IsCell c v := x.keeps k
/-- one.path, one.number -/
theorem one_path {av : Addr → Prop} {v : Value} {i : Int} {p : Pl} {p1 p2 : Pos} {Q : Value → Shared → Prop} (Ev : LEnv env L) (hc : s.heap.IsCell (L + 3) (some v)) (P : PlaceAt av s.heap v i p) (h : ∀ t, Q (.str p.path t) { s with toks := s.toks + 1 }) :
    wpAny (model prog w) A (eval (.Attribute (.Name nOne p1) sPath p2) env) Q E s :=
  Attribute_Name_ (nm_cell Ev.k Ev.kO Ev.cO hc (at_path P h)) rfl
theorem one_number {av : Addr → Prop} {v : Value} {i : Int} {p : Pl} {p1 p2 : Pos} {Q : Value → Shared → Prop} (Ev : LEnv env L) (hc : s.heap.IsCell (L + 3) (some v)) (P : PlaceAt av s.heap v i p) (h : ∀ t, Q (.int i t) { s with toks := s.toks + 1 }) :
    wpAny (model prog w) A (eval (.Attribute (.Name nOne p1) sNumber p2) env) Q E s :=
  Attribute_Name_ (nm_cell Ev.k Ev.kO Ev.cO hc (at_number P h)) rfl
/-- table[e][k] -/
theorem tab_item {e : PySem.Expr} {tb : Addr} {rows vs : Array Value} {r : Addr} {i k : Nat} {n : Int} {t tn : Tok} {p1 p2 p3 p4 : Pos} {Q : Value → Shared → Prop}
    (hT : ∀ (Q' : Value → Shared → Prop), Q' (.ref tb) s → wpAny (model prog w) A (eval (.Name nTable p1) env) Q' E s)
    (he : ∀ (Q' : Value → Shared → Prop), (∀ t tk, Q' (.int (i : Int) t) { s with toks := tk }) → wpAny (model prog w) A (eval e env) Q' E s)
    (hK : ∀ tk (Q' : Value → Shared → Prop), Q' (.int (k : Int) t) { s with toks := tk } → wpAny (model prog w) A (eval (.Name nK p3) env) Q' E { s with toks := tk })
    (hb : s.heap.IsList tb rows) (hr : rows[i]? = some (.ref r)) (hl : s.heap.IsList r vs) (hv : vs[k]? = some (.int n tn)) (hi : (i : Int) < 2 ^ 63) (hk : (k : Int) < 2 ^ 63)
    (hs1 : ∀ u, subscripted e false (.ref tb) (.int (i : Int) u) = operate [.ref tb, .int (i : Int) u] (getItem (.ref tb) (.int (i : Int) u)))
    (h : ∀ tk, Q (.int n tn) { s with toks := tk }) :
    wpAny (model prog w) A (eval (.Subscript (.Subscript (.Name nTable p1) e p2) (.Name nK p3) p4) env) Q E s := by
  refine Subscript_ (Subscript_ (hT _ (he _ fun t1 tk => ?_)))
  refine item_at (s := { s with toks := tk }) hb (Int.natCast_nonneg i) hi (by rw [Int.toNat_natCast]; exact hr) ?_ (hs1 t1)
  refine hK tk _ ?_
  exact item_at (s := { s with toks := tk }) hl (Int.natCast_nonneg k) hk (by rw [Int.toNat_natCast]; exact hv) (h tk) (by with_unfolding_all rfl)
end
end Mine
end

section
open PySem PySem.W PyProof.Rows PySem.Calls PySem.Spec
namespace Mine
abbrev retF (k : Nat) (p1 p2 : Pos) : List Stmt := [.Return (some (.Constant (.bool false) k p1)) p2]
theorem ns_sum (w : World) : nsIn (KK w) mainGlobals (Str.ofString "sum") = some none := by kernel_rfl
theorem ns_len (w : World) : nsIn (KK w) mainGlobals (Str.ofString "len") = some none := by kernel_rfl
theorem ns_range (w : World) : nsIn (KK w) mainGlobals (Str.ofString "range") = some none := by kernel_rfl
theorem bo_sum : bootBuiltins (Str.ofString "sum") = some (.builtin "sum") := by decide +kernel
theorem bo_len : bootBuiltins (Str.ofString "len") = some (.builtin "len") := by decide +kernel
theorem bo_range : bootBuiltins (Str.ofString "range") = some (.type "range") := by decide +kernel
section
variable {w : World} {A : Around} {E : Value → Shared → Prop} {env : Env} {L : Addr} {mean : ExcName → Option Value} {mg mb : Str → Option Value} {lo : List Str} {s0 : Heap} {pl mgr tb pk : Addr} {pvs : List Value} {ps : List Pl} {i k : Nat} {tk0 : Tok} {us : Array Value}
/-- what holds at a turn of the inner loop -/
structure KIn (L : Addr) (s0 : Heap) (pl mgr tb pk : Addr) (pvs : List Value) (ps : List Pl) (us : Array Value) (i k : Nat) (tk0 : Tok) (m : Str → Option Value) (h : Heap) : Prop where
  b : LBase L s0 pl mgr tb pvs ps h
  n : h.Ns L m
  pm : m nPicked = some (.ref pk)
  pl : h.IsList pk us
  o : h.IsCell (L + 3) (some (pvs.getD i .none))
  k : h.IsCell (L + 5) (some (.int (k : Int) tk0))
theorem KIn.ext {m : Str → Option Value} {h h' : Heap} (hL : L = s0.objs.size) (h73 : 73 < L) (h80 : 80 < L) (x : KIn L s0 pl mgr tb pk pvs ps us i k tk0 m h) (e : Ext h h') : KIn L s0 pl mgr tb pk pvs ps us i k tk0 m h' :=
  ⟨x.b.ext hL h73 h80 e, x.n.keeps e, x.pm, (Ext.keep e).list x.pl, x.o.keeps e, x.k.keeps e⟩
theorem KIn.keeps {m : Str → Option Value} {s s' : Shared} (hL : L = s0.objs.size) (h73 : 73 < L) (h80 : 80 < L) (x : KIn L s0 pl mgr tb pk pvs ps us i k tk0 m s.heap) (e : Keeps s s') : KIn L s0 pl mgr tb pk pvs ps us i k tk0 m s'.heap :=
  x.ext hL h73 h80 (Keeps.ext e)
/-- places[k].path -/
theorem place_path {s : Shared} {m : Str → Option Value} {p1 p2 p3 p4 : Pos} {Q : Value → Shared → Prop} (Ev : LEnv env L) (x : KIn L s0 pl mgr tb pk pvs ps us i k tk0 m s.heap) (hk : k < ps.length) (h9 : ps.length ≤ 9) (h : ∀ t, Q (.str (ps.getD k p0).path t) { s with toks := s.toks + 1 }) :
    wpAny (model prog w) A (eval (.Attribute (.Subscript (.Name nPlaces p1) (.Name nK p2) p3) sPath p4) env) Q E s := by
  refine Attribute_any_ ?_ (by with_unfolding_all rfl)
  refine Subscript_ (nm_cell Ev.k Ev.kP Ev.cP x.b.cP (nm_cell Ev.k Ev.kK Ev.cK x.k ?_))
  have hk' : k < pvs.length := by rw [x.b.P.1]; exact hk
  refine item_at x.b.li (Int.natCast_nonneg k) (by omega) (v := pvs.getD k .none) ?_ (at_path (x.b.P.2 k hk) h) (by with_unfolding_all rfl)
  rw [Int.toNat_natCast, List.getElem?_toArray, List.getD_eq_getElem?_getD, List.getElem?_eq_getElem hk']; rfl
set_option maxHeartbeats 1000000 in
theorem k_turn {s : Shared} {m : Str → Option Value} {scope : Scope} {q1 q2 q3 q4 q5 q6 q7 q8 q9 q10 q11 a1 a2 a3 a4 a5 a6 a7 a8 a9 a10 a11 a12 a13 a14 a15 a16 a17 a18 b1 b2 b3 b4 b5 b6 b7 b8 b9 b10 b11 b12 b13 b14 b15 b16 b17 b18 b19 b20 b21 b22 c1 c2 c3 c4 c5 c6 c7 c8 c9 c10 c11 c12 c13 c14 c15 c16 c17 d1 d2 d3 : Pos} {k1 k2 k3 k4 k5 k6 k7 k8 k9 k10 k11 k12 k13 k14 k15 : Nat} {Q : Flow → Shared → Prop}
    (Ev : LEnv env L) (f : Fit A 320 400) (hh : A.handled = none) (C : Ctx w mean mg mb lo s0 L) (T : Tree ps) (h9 : ps.length ≤ 9) (hpo : ∀ p ∈ ps, TxtOk 30 p.path)
    (hsk : scope.kind = .function) (hsc : scope.names = [(Str.ofString ".0", .local), (Str.ofString "n", .local), (nK, .free), (nTable, .free)])
    (x : KIn L s0 pl mgr tb pk pvs ps us i k tk0 m s.heap) (hip : IntsAre us.toList ((kids ps i).map fun (n : Nat) => (n : Int))) (hi : i < ps.length) (hk : k < ps.length)
    (hw1 : (b4.endLine == b17.line) = true) (hw2 : (c4.endLine == c15.line) = true)
    (hQ : ∀ h' tk' m', (∀ b o, b ≠ L → s.heap.get? b = some o → h'.get? b = some o) → KIn L s0 pl mgr tb pk pvs ps us i k tk0 m' h' → Q .next { s with heap := h', toks := tk' }) :
    wpAny (model prog w) A (execs [
      .Assign [.Name nBelow q1] (.Call (.Name (Str.ofString "sum") q2) [.ListComp (.Subscript (.Subscript (.Name nTable q3) (.Name (Str.ofString "n") q4) q5) (.Name nK q6) q7) [⟨.Name (Str.ofString "n") q8, .Name nPicked q9, [], 0⟩] scope q10] [] q11) a1,
      .If (.Compare (.BinOp (.Subscript (.Subscript (.Name nTable a2) (.Attribute (.Name nOne a3) sNumber a4) a5) (.Name nK a6) a7) .Sub (.Name nBelow a8) a9) [.NotEq] [.IfExp (.Compare (.Name nK a10) [.Eq] [.Attribute (.Name nOne a11) sNumber a12] a13) (.Constant (.int 1) k1 a14) (.Constant (.int 0) k2 a15) a16] a17) (retF k3 b1 b2) [] a18,
      .If (.Compare (.Call (.Attribute (.Name nManager b3) sIsSub b4) [.Tuple [.Constant (.str sH) k4 b5, .BinOp (.Attribute (.Name nOne b6) sPath b7) .Add (.Constant (.str (Str.ofString "/")) k5 b8) b9] k6 b10, .Tuple [.Constant (.str sH) k7 b11, .Attribute (.Subscript (.Name nPlaces b12) (.Name nK b13) b14) sPath b15] k8 b16] [] b17) [.IsNot] [.Compare (.Name nBelow b18) [.Eq] [.Constant (.int 1) k9 b19] b20] b21) (retF k10 c1 c2) [] b22,
      .If (.Compare (.Call (.Attribute (.Name nManager c3) sIsSub c4) [.Tuple [.Constant (.str sG) k11 c5, .Attribute (.Name nOne c6) sPath c7] k12 c8, .Tuple [.Constant (.str sH) k13 c9, .Attribute (.Subscript (.Name nPlaces c10) (.Name nK c11) c12) sPath c13] k14 c14] [] c15) [.IsNot] [.Constant (.bool false) k15 c16] c17) (retF k10 d1 d2) [] d3] env) Q E s := by
  have hL := C.L
  have h73 : 73 < L := hL ▸ Heap.lt_size C.T73
  have h80 : 80 < L := hL ▸ Heap.lt_size C.T80
  have hP1 := x.b.P.1
  have hpi : TxtOk 30 (ps.getD i p0).path := getD_ok hpo i
  have hpk : TxtOk 30 (ps.getD k p0).path := getD_ok hpo k
  have hkl : (kids ps i).length ≤ ps.length := Nat.le_trans (List.length_filter_le _ _) (by rw [List.length_range]; exact Nat.le_refl _)
  have husz : us.size = (kids ps i).length := by have := hip.length; simpa using this
  obtain ⟨rows, hrows, srows, hrow⟩ := x.b.tab
  -- below = sum([table[n][k] for n in picked])
  refine wpAny_execs_cons (wpAny_Assign_Name (Call_Name1 (nm_built (C.inK x.b.old) (C.top x.b.old) (ns_sum w) bo_sum (by decide +kernel) ?_ Ev.k Ev.gSu Ev.g Ev.b) rfl) rfl)
  refine PySem.callWith_builtin1 ?_
  refine comp_list (cl := [(nTable, L + 4), (nK, L + 5)]) hh (closure2 hsc Ev.cK Ev.cT) hsk (by rw [hsc]; decide +kernel) (by rw [hsc]; decide +kernel) (by rw [hsc]; decide +kernel) ?_ (fun _ => rfl)
  refine nm_local Ev.k Ev.kPi (by rw [Ev.l]; exact x.n) x.pm ?_
  refine ⟨pk, us, fun _ => true, fun j y => ∃ t, y = Value.int (tabV ps ((kids ps i).getD j 0) k) t, rfl, x.pl, by rw [husz]; exact Nat.le_trans (Nat.le_trans hkl h9) (by decide), ?_, ?_⟩
  · intro C' j s₂ mm hj hext hC hns hmx
    rw [husz] at hj
    have hmem : (kids ps i).getD j 0 ∈ kids ps i := by rw [List.getD_eq_getElem?_getD, List.getElem?_eq_getElem hj]; exact List.getElem_mem hj
    obtain ⟨hnl, _⟩ := T.kid hmem
    obtain ⟨r, vs, e1, s2, hlr, hir⟩ := hrow _ hnl
    obtain ⟨tn, ev⟩ := ints_at hir (j := k) (by simpa using hk)
    have evk : vs[k]? = some (.int (tabV ps ((kids ps i).getD j 0) k) tn) := by
      rw [← Array.getElem?_toList, ev]
      simp [hk]
    obtain ⟨tm, em⟩ := ints_at hip (j := j) (by simpa using hj)
    have emj : us.getD j .none = .int (((kids ps i).getD j 0 : Nat) : Int) tm := by
      rw [Array.getD_eq_getD_getElem?, ← Array.getElem?_toList, em]
      simp [hj]
    rw [emj] at hmx
    refine ifs_nil ⟨rfl, keeps_refl _, fun _ => ?_⟩
    refine tab_item (tb := tb) (rows := rows) (r := r) (vs := vs) (i := (kids ps i).getD j 0) (k := k) (t := tk0) (fun Q' hQ' => nm_cell (genv := compEnvC _ _ _ _) hsk (relabel_cell (scope := scope) Ev.k Ev.kT (by rw [hsc]; decide +kernel)) rfl (x.b.cT.keeps hext) hQ')
      (fun Q' hQ' => nm_local (genv := compEnvC _ _ _ _) hsk (lookup_relabel_local (by rw [hsc]; decide +kernel)) hns hmx (hQ' _ s₂.toks))
      (fun tk Q' hQ' => nm_cell (s := { s₂ with toks := tk }) (genv := compEnvC _ _ _ _) hsk (relabel_cell (scope := scope) Ev.k Ev.kK (by rw [hsc]; decide +kernel)) rfl (x.k.keeps hext) hQ')
      ((Ext.keep hext).list hrows) e1 ((Ext.keep hext).list hlr) evk (by omega) (by omega) (fun _ => by with_unfolding_all rfl) fun tk => ⟨⟨tn, rfl⟩, s₂.heap, tk, rfl, fun _ _ e => e⟩
  intro D h1 tk1 ys _ hl1 hF hext
  rw [husz, filter_all] at hF
  have hsum := paired_intsI hF
  rw [map_getD_f (f := fun n => tabV ps n k)] at hsum
  refine sum_ints hh hl1 hsum fun h2 tk2 t2 E2 => ?_
  have x2 : KIn L s0 pl mgr tb pk pvs ps us i k tk0 m h2 := (x.ext hL h73 h80 hext).ext hL h73 h80 E2
  refine wpAny_storeName_local Ev.kBe (by rw [Ev.l]; exact x2.n) (fun h3 hn3 hs3 => ?_) (by rw [Ev.k]; rfl)
  rw [Ev.l] at hn3 hs3
  have hsb : ((kids ps i).map fun n => tabV ps n k).sum = belowSum ps i k := rfl
  rw [hsb] at hn3
  have k3' : ∀ b o, b ≠ L → h2.get? b = some o → h3.get? b = some o := hs3.extBut
  have k03 : ∀ b o, b ≠ L → s.heap.get? b = some o → h3.get? b = some o := fun b o hb e => k3' b o hb (E2 b o (hext b o e))
  have x3 : KIn L s0 pl mgr tb pk pvs ps us i k tk0 (fun y => if y = nBelow then some (Value.int (belowSum ps i k) t2) else m y) h3 := by
    refine ⟨x2.b.frame hL h73 h80 x2.n k3', hn3, ?_, ?_, ?_, ?_⟩
    · show (if nPicked = nBelow then _ else m nPicked) = _
      rw [if_neg (by decide +kernel)]; exact x.pm
    · obtain ⟨o, e, r⟩ := x2.pl
      have hne : pk ≠ L := fun q => by
        obtain ⟨o', es, ep, e', d', _⟩ := x2.n
        rw [q, e'] at e; cases e
        obtain ⟨_, n, d⟩ := r
        rw [d'] at d; cases d
      exact ⟨o, k3' _ _ hne e, r⟩
    · obtain ⟨o, e, r⟩ := x2.o; exact ⟨o, k3' _ _ (Nat.ne_of_gt (Nat.lt_add_of_pos_right (by decide))) e, r⟩
    · obtain ⟨o, e, r⟩ := x2.k; exact ⟨o, k3' _ _ (Nat.ne_of_gt (Nat.lt_add_of_pos_right (by decide))) e, r⟩
  have PO : PlaceAt (Sp L) h3 (pvs.getD i .none) (i : Int) (ps.getD i p0) := x3.b.P.2 i hi
  obtain ⟨rows3, hrows3, _, hrow3⟩ := x3.b.tab
  obtain ⟨r3, vs3, e3, _, hlr3, hir3⟩ := hrow3 i hi
  obtain ⟨tn3, ev3⟩ := ints_at hir3 (j := k) (by simpa using hk)
  have evk3 : vs3[k]? = some (.int (tabV ps i k) tn3) := by
    rw [← Array.getElem?_toList, ev3]
    simp [hk]
  have hbe : (fun y => if y = nBelow then some (Value.int (belowSum ps i k) t2) else m y) nBelow = some (Value.int (belowSum ps i k) t2) := if_pos rfl
  -- table[one.number][k] - below
  refine wpAny_execs_cons (wpAny_If (wpAny_isTrue_Compare1 (wpAny_BinOp ?_) rfl))
  refine tab_item (tb := tb) (rows := rows3) (r := r3) (vs := vs3) (i := i) (k := k) (t := tk0) (fun Q' hQ' => nm_cell Ev.k Ev.kT Ev.cT x3.b.cT hQ')
      (fun Q' hQ' => one_number Ev x3.o PO fun t => hQ' t _)
      (fun tk Q' hQ' => nm_cell (s := { s with heap := h3, toks := tk }) Ev.k Ev.kK Ev.cK x3.k hQ')
      hrows3 e3 hlr3 evk3 (by omega) (by omega) (fun _ => by with_unfolding_all rfl) fun tk3 => ?_
  refine nm_local Ev.k Ev.kBe (by rw [Ev.l]; exact x3.n) hbe (sub_int ?_)
  refine wpAny_mono (Q := fun v s' => ∃ t tk, v = .int (if k = i then 1 else 0) t ∧ s' = { s with heap := h3, toks := tk }) (E := E) ?ifx (fun v s' hv => ?_) (fun _ _ z => z)
  case ifx =>
    refine IfExp_ (wpAny_isTrue_Compare1 (nm_cell Ev.k Ev.kK Ev.cK x3.k (one_number Ev x3.o PO fun t => eq_int (wpAny_truthy_bool ?_))) rfl)
    by_cases hki : k = i
    · rw [if_pos hki]
      have : ((k : Int) == (i : Int)) = true := by simp [hki]
      rw [this, if_pos rfl]
      exact wpAny_Constant_int ⟨_, _, rfl, rfl⟩
    · rw [if_neg hki]
      have : ((k : Int) == (i : Int)) = false := by simp; omega
      rw [this, if_neg Bool.false_ne_true]
      exact wpAny_Constant_int ⟨_, _, rfl, rfl⟩
  obtain ⟨tv, tkv, rfl, rfl⟩ := hv
  refine ne_int (wpAny_truthy_bool ?_)
  have hund : (tabV ps i k - belowSum ps i k != (if k = i then 1 else 0)) = false := by rw [T.undo hi hk]; simp
  rw [hund, if_neg Bool.false_ne_true]
  refine wpAny_execs_nil ?_
  dsimp only
  -- manager.is_suburi(('h', one.path + '/'), ('h', places[k].path)) is not (below == 1)
  have f6 : Fit A 600 2000 := f.mono (by decide) (by decide)
  have hslash : TxtOk 1 (Str.ofString "/") := ⟨by decide +kernel, by decide +kernel⟩
  refine wpAny_execs_cons (wpAny_If (wpAny_isTrue_Compare1 ?_ rfl))
  refine suburi_ev (av := Sp L) (mgr := mgr) (p := (ps.getD i p0).path ++ Str.ofString "/") (q := (ps.getD k p0).path) f6 (C.inK x3.b.old) x3.b.M (fun Q' hQ' => nm_cell Ev.k Ev.kM Ev.cM x3.b.cM hQ')
    (fun s' Q' K hQ' => ?e1) (fun s' Q' K hQ' => ?e2) (by decide +kernel) (by decide +kernel) ((hpi.append hslash).mono (by decide)) (hpk.mono (by decide)) (fun s4 K4 => ?_) rfl rfl rfl rfl rfl hw1
  case e1 =>
    have x' := x3.keeps (s := { s with heap := h3, toks := tkv }) hL h73 h80 K
    refine wpAny_BinOp (one_path Ev x'.o (x'.b.P.2 i hi) fun t => Constant_str (add_str (fun t' tk' => ?_) ?_))
    · exact hQ' _ _ ⟨s'.heap, tk', rfl, fun _ _ e => e⟩
    · exact Nat.le_trans (Nat.add_le_add hpi.2 hslash.2) (by decide)
  case e2 =>
    have x' := x3.keeps (s := { s with heap := h3, toks := tkv }) hL h73 h80 K
    exact place_path Ev x' hk h9 fun t => hQ' _ _ ⟨s'.heap, _, rfl, fun _ _ e => e⟩
  have x4 := x3.keeps (s := { s with heap := h3, toks := tkv }) hL h73 h80 K4
  obtain ⟨h4, tk4, rfl, hk4⟩ := K4
  refine wpAny_Compare1 (nm_local Ev.k Ev.kBe (by rw [Ev.l]; exact x4.n) hbe (wpAny_Constant_int (eq_int (isnot_bool (wpAny_truthy_bool ?_))))) rfl
  rw [T.slash hi hk]
  have hbn : ((belowSum ps i k == 1) != (belowSum ps i k == 1)) = false := by simp
  rw [hbn, if_neg Bool.false_ne_true]
  refine wpAny_execs_nil ?_
  dsimp only
  -- manager.is_suburi(('g', one.path), ('h', places[k].path)) is not False
  refine wpAny_execs_cons (wpAny_If (wpAny_isTrue_Compare1 ?_ rfl))
  refine suburi_ev (av := Sp L) (mgr := mgr) (p := (ps.getD i p0).path) (q := (ps.getD k p0).path) f6 (C.inK x4.b.old) x4.b.M (fun Q' hQ' => nm_cell Ev.k Ev.kM Ev.cM x4.b.cM hQ')
    (fun s' Q' K hQ' => ?e3) (fun s' Q' K hQ' => ?e4) (by decide +kernel) (by decide +kernel) (hpi.mono (by decide)) (hpk.mono (by decide)) (fun s5 K5 => ?_) rfl rfl rfl rfl rfl hw2
  case e3 =>
    have x' := x4.keeps (s := { s with heap := h4, toks := _ }) hL h73 h80 K
    exact one_path Ev x'.o (x'.b.P.2 i hi) fun t => hQ' _ _ ⟨s'.heap, _, rfl, fun _ _ e => e⟩
  case e4 =>
    have x' := x4.keeps (s := { s with heap := h4, toks := _ }) hL h73 h80 K
    exact place_path Ev x' hk h9 fun t => hQ' _ _ ⟨s'.heap, _, rfl, fun _ _ e => e⟩
  have x5 := x4.keeps (s := { s with heap := h4, toks := _ }) hL h73 h80 K5
  obtain ⟨h5, tk5, rfl, hk5⟩ := K5
  rw [covG]
  refine Constant_bool (isnot_bool (wpAny_truthy_bool ?_))
  rw [show (false != false) = false from rfl, if_neg Bool.false_ne_true]
  refine wpAny_execs_nil ?_
  dsimp only
  refine wpAny_execs_nil ?_
  exact hQ h5 _ _ (fun b o hb e => hk5 b o (hk4 b o (k03 b o hb e))) x5
end
end Mine
end

section
open PySem PySem.W PyProof.Rows PySem.Calls PySem.Spec
namespace Mine
theorem rangeSize_up : ∀ n : Nat, n < 10 → Builtin.Range.rangeSize 0 (n : Int) 1 = n ∧ Builtin.Range.small 0 (n : Int) 1 = true := by decide +kernel
section
variable {w : World} {A : Around} {E : Value → Shared → Prop} {env : Env} {L : Addr} {mean : ExcName → Option Value} {mg mb : Str → Option Value} {lo : List Str} {s0 : Heap} {pl mgr tb pk : Addr} {pvs : List Value} {ps : List Pl} {i : Nat} {us : Array Value}
def KBodyOk (w : World) (A : Around) (env : Env) (L : Addr) (s0 : Heap) (pl mgr tb pk : Addr) (pvs : List Value) (ps : List Pl) (us : Array Value) (i : Nat) (body : List Stmt) : Prop :=
  ∀ (k : Nat) (tk0 : Tok) (s : Shared) (m : Str → Option Value) (Q : Flow → Shared → Prop) (E : Value → Shared → Prop), k < ps.length → KIn L s0 pl mgr tb pk pvs ps us i k tk0 m s.heap →
    (∀ h' tk' m', (∀ b o, b ≠ L → s.heap.get? b = some o → h'.get? b = some o) → KIn L s0 pl mgr tb pk pvs ps us i k tk0 m' h' → Q .next { s with heap := h', toks := tk' }) →
    wpAny (model prog w) A (execs body env) Q E s
/-- between the turns -/
structure KBet (L : Addr) (s0 : Heap) (pl mgr tb pk : Addr) (pvs : List Value) (ps : List Pl) (us : Array Value) (i : Nat) (m : Str → Option Value) (h : Heap) : Prop where
  b : LBase L s0 pl mgr tb pvs ps h
  n : h.Ns L m
  pm : m nPicked = some (.ref pk)
  pl : h.IsList pk us
  o : h.IsCell (L + 3) (some (pvs.getD i .none))
  k : ∃ v, h.IsCell (L + 5) v
theorem KBet.ext {m : Str → Option Value} {h h' : Heap} (hL : L = s0.objs.size) (h73 : 73 < L) (h80 : 80 < L) (x : KBet L s0 pl mgr tb pk pvs ps us i m h) (e : Ext h h') : KBet L s0 pl mgr tb pk pvs ps us i m h' :=
  ⟨x.b.ext hL h73 h80 e, x.n.keeps e, x.pm, (Ext.keep e).list x.pl, x.o.keeps e, let ⟨v, hv⟩ := x.k; ⟨v, hv.keeps e⟩⟩
/-- an object that is no code -/
def NoCode (o : Obj) : Prop := ∀ fs q t, o.data = .fields fs → fs[1]? ≠ some (.str q t)
theorem Tab73.buts {h h' : Heap} (bad : Addr → Prop) (t : Tab73 h) (h73 : ¬ bad 73) (hc : ∀ Z, bad Z → ∀ o, h.get? Z = some o → NoCode o) (k : ∀ b o, ¬ bad b → h.get? b = some o → h'.get? b = some o) : Tab73 h' := by
  obtain ⟨ps, e, o, r⟩ := t
  refine ⟨ps, k _ _ h73 e, o, fun pos v q => ?_⟩
  obtain ⟨c, a, b, z⟩ := r pos v q
  refine ⟨c, a, b, codeRec_move z fun o' e' => k _ _ (fun q => ?_) e'⟩
  obtain ⟨c₂, o₂, vs₂, t₂, x₂, g₂, d₂, r₂⟩ := z
  cases x₂
  exact hc _ q _ g₂ _ _ _ d₂ r₂
theorem ns_noCode {h : Heap} {a : Addr} {m : Str → Option Value} (n : h.Ns a m) {o : Obj} (e : h.get? a = some o) : NoCode o := by
  obtain ⟨o', es, ep, e', d, _⟩ := n
  rw [e] at e'; cases e'
  intro fs q t d'; rw [d] at d'; cases d'
theorem cell_noCode {h : Heap} {a : Addr} {v : Option Value} (n : h.IsCell a v) {o : Obj} (e : h.get? a = some o) : NoCode o := by
  obtain ⟨o', e', d⟩ := n
  rw [e] at e'; cases e'
  intro fs q t d'; rw [d] at d'; cases d'
theorem listit_noCode {h : Heap} {a l : Addr} {i : Nat} (n : h.IsListIter a l i) {o : Obj} (e : h.get? a = some o) : NoCode o := by
  obtain ⟨o', e', _, d⟩ := n
  rw [e] at e'; cases e'
  intro fs q t d' z; rw [d] at d'; cases d'; simp at z
/-- after changes of the frame and of the cell k alone -/
theorem KBet.rel {m m' : Str → Option Value} {h h' : Heap} (hL : L = s0.objs.size) (h73 : 73 < L) (h80 : 80 < L) (x : KBet L s0 pl mgr tb pk pvs ps us i m h) (k : ∀ b o, b ≠ L → b ≠ L + 5 → h.get? b = some o → h'.get? b = some o)
    (n : h'.Ns L m') (pm : m' nPicked = some (.ref pk)) {k0 : Nat} {tk0 : Tok} (hk : h'.IsCell (L + 5) (some (.int (k0 : Int) tk0))) : KIn L s0 pl mgr tb pk pvs ps us i k0 tk0 m' h' := by
  obtain ⟨v, hv⟩ := x.k
  have h73' : @LT.lt Nat _ 73 L := h73
  have pkn : pk ≠ L ∧ pk ≠ L + 5 := by
    obtain ⟨o, e, c, nn, d⟩ := x.pl
    constructor
    · intro q; obtain ⟨o', es, ep, e', d', _⟩ := x.n; rw [← q, e] at e'; cases e'; rw [d] at d'; cases d'
    · intro q; obtain ⟨o', e', d'⟩ := hv; rw [← q, e] at e'; cases e'; rw [d] at d'; cases d'
  refine ⟨x.b.mv hL h73 h80 (fun b o s e => k b o s.2.1 s.2.2.2 e) (x.b.t73.buts (fun b => b = L ∨ b = L + 5) (fun q => q.elim (Nat.ne_of_lt h73') (Nat.ne_of_lt (Nat.lt_of_lt_of_le h73' (Nat.le_add_right _ _)))) (fun Z hZ o e => ?_) fun b o hb e => k b o (fun q => hb (.inl q)) (fun q => hb (.inr q)) e), n, pm, ?_, ?_, hk⟩
  · rcases hZ with rfl | rfl
    · exact ns_noCode x.n e
    · exact cell_noCode hv e
  · obtain ⟨o, e, r⟩ := x.pl; exact ⟨o, k _ _ pkn.1 pkn.2 e, r⟩
  · obtain ⟨o, e, r⟩ := x.o; exact ⟨o, k _ _ (Nat.ne_of_gt (Nat.lt_add_of_pos_right (by decide))) (fun q => by have := Nat.add_left_cancel q; omega) e, r⟩
/-- for k in range(len(places)): .. -/
theorem k_loop {s : Shared} {m : Str → Option Value} {body : List Stmt} {p1 p2 p3 p4 p5 p6 p7 : Pos} {Q : Flow → Shared → Prop} (Ev : LEnv env L) (hh : A.handled = none) (C : Ctx w mean mg mb lo s0 L) (h9 : ps.length ≤ 9)
    (hB : KBodyOk w A env L s0 pl mgr tb pk pvs ps us i body) (x : KBet L s0 pl mgr tb pk pvs ps us i m s.heap)
    (hQ : ∀ h' tk' m', (∀ b o, b ≠ L → b ≠ L + 5 → s.heap.get? b = some o → h'.get? b = some o) → h'.Ns L m' → (∃ v, h'.IsCell (L + 5) v) → Q .next { s with heap := h', toks := tk' }) :
    wpAny (model prog w) A (exec (.For (.Name nK p1) (.Call (.Name (Str.ofString "range") p2) [.Call (.Name (Str.ofString "len") p3) [.Name nPlaces p4] [] p5] [] p6) body [] p7) env) Q E s := by
  have hL := C.L
  have h73 : 73 < L := hL ▸ Heap.lt_size C.T73
  have h80 : 80 < L := hL ▸ Heap.lt_size C.T80
  have hP1 := x.b.P.1
  have hsz : (List.toArray pvs).size = ps.length := by simp [hP1]
  refine wpAny_For ?_
  refine Call_Name1 (nm_built (C.inK x.b.old) (C.top x.b.old) (ns_range w) bo_range (by decide +kernel) ?_ Ev.k Ev.gRa Ev.g Ev.b) rfl
  refine PySem.callWith_type1 (Call_Name1 (nm_built (C.inK x.b.old) (C.top x.b.old) (ns_len w) bo_len (by decide +kernel) ?_ Ev.k Ev.gLe Ev.g Ev.b) rfl)
  refine PySem.callWith_builtin1 (nm_cell Ev.k Ev.kP Ev.cP x.b.cP (len_list x.b.li (by rw [hsz]; omega) ?_))
  rw [hsz]
  obtain ⟨rs1, rs2⟩ := rangeSize_up ps.length (by omega)
  refine call_range_1 ?_
  generalize hH1 : Heap.push _ _ = H1
  have E1 : Ext s.heap H1 := fun b o e => hH1 ▸ Heap.get?_push_of_some _ e
  refine wpAny_pyIter_range (a := 0) (b := (ps.length : Int)) (c := 1) (by rw [← hH1]; exact Heap.get?_push_size _ rfl) rs2 ?_
  rw [rs1]
  generalize hH2 : Heap.push _ _ = H2
  have E2 : Ext H1 H2 := fun b o e => hH2 ▸ Heap.get?_push_of_some _ e
  generalize hI : H1.objs.size = I
  have hit : IsRangeIter H2 I 0 (ps.length : Int) 1 := by rw [← hH2, ← hI]; exact Heap.get?_push_size _ rfl
  have E02 : Ext s.heap H2 := fun b o e => E2 b o (E1 b o e)
  have hIs : @LT.lt Nat _ s.heap.objs.size I := by rw [← hI, ← hH1, Heap.size_push]; exact Nat.lt_succ_self _
  have ltI : ∀ b o, s.heap.get? b = some o → b ≠ I := fun b o e => Nat.ne_of_lt (Nat.lt_trans (Heap.lt_size e) hIs)
  have hIL : I ≠ L := by obtain ⟨o, es, ep, e, _⟩ := x.n; exact Ne.symm (ltI _ _ e)
  have hI5 : I ≠ L + 5 := by obtain ⟨v, o, e, _⟩ := x.k; exact Ne.symm (ltI _ _ e)
  dsimp only
  refine codeAny_forLoop (fun n s' => ∃ (h : Heap) (tk : Nat) (m' : Str → Option Value) (j : Nat), s' = { s with heap := h, toks := tk } ∧ (∀ b o, b ≠ L → b ≠ L + 5 → s.heap.get? b = some o → h.get? b = some o) ∧ h.Ns L m' ∧ m' nPicked = some (.ref pk) ∧ (∃ v, h.IsCell (L + 5) v) ∧
      IsRangeIter h I (j : Int) ((ps.length : Int) - j) 1 ∧ j ≤ ps.length ∧ n = ps.length + 1 - j) ?turn (ps.length + 1) ?start
  case start =>
    refine ⟨H2, _, m, 0, rfl, fun b o _ _ e => E02 b o e, x.n.keeps E02, x.pm, let ⟨v, hv⟩ := x.k; ⟨v, hv.keeps E02⟩, ?_, Nat.zero_le _, rfl⟩
    simpa using hit
  rintro n s' ⟨h, tk, m', j, rfl, hk, hn, hpm, ⟨v5, hc5⟩, hit', hj, rfl⟩
  by_cases hlt : j < ps.length
  · refine wpAny_pyNext_range_item hit' (by omega) fun h2 hit2 hs2 => ?_
    refine wpAny_assign_Name (wpAny_storeName_cell Ev.k Ev.kK Ev.cK (hc5.sameBut hs2 (Ne.symm hI5)) fun h3 hc3 hs3 => ?_)
    have hL5 : L ≠ L + 5 := Nat.ne_of_lt (Nat.lt_add_of_pos_right (by decide))
    have k3 : ∀ b o, b ≠ L → b ≠ L + 5 → s.heap.get? b = some o → h3.get? b = some o := fun b o h1 h5 e => hs3.extBut b o h5 (hs2.extBut b o (ltI b o e) (hk b o h1 h5 e))
    have hn3 : h3.Ns L m' := (hn.sameBut hs2 (Ne.symm hIL)).sameBut hs3 hL5
    have xk : KIn L s0 pl mgr tb pk pvs ps us i j _ m' h3 := x.rel hL h73 h80 k3 hn3 hpm hc3
    refine hB j _ _ m' _ _ hlt xk fun h4 tk4 m4 k4 x4 => ?_
    refine ⟨ps.length + 1 - (j + 1), by omega, h4, tk4, m4, j + 1, rfl, fun b o h1 h5 e => k4 b o h1 (k3 b o h1 h5 e), x4.n, x4.pm, ⟨_, x4.k⟩, ?_, hlt, rfl⟩
    have e1 : IsRangeIter h3 I ((j : Int) + 1) ((ps.length : Int) - j - 1) 1 := hs3.extBut _ _ hI5 hit2
    have e2 := k4 _ _ hIL e1
    have e3 : ((j + 1 : Nat) : Int) = (j : Int) + 1 := by omega
    have e4 : (ps.length : Int) - ((j + 1 : Nat) : Int) = (ps.length : Int) - j - 1 := by omega
    show IsRangeIter h4 I ((j + 1 : Nat) : Int) ((ps.length : Int) - ((j + 1 : Nat) : Int)) 1
    rw [e3, ← e3, e4, e3]
    exact e2
  · have : j = ps.length := by omega
    subst this
    refine wpAny_pyNext_range_end hh hit' (by omega) fun h2 he => ?_
    refine wpAny_execs_nil ?_
    exact hQ h2 tk m' (fun b o h1 h5 e => he b o (ltI b o e) (hk b o h1 h5 e)) (let ⟨o, es, ep, e, r⟩ := hn; ⟨o, es, ep, he _ _ (Ne.symm hIL) e, r⟩) ⟨v5, let ⟨o, e, r⟩ := hc5; ⟨o, he _ _ (Ne.symm hI5) e, r⟩⟩
end
end Mine
end

section
open PySem PySem.W PyProof.Rows PySem.Calls PySem.Spec
namespace Mine
theorem wild_ok {p : Pl} (h : TxtOk 30 p.path) : TxtOk 200 (wild p) := by
  have a : TxtOk 1 (Str.ofString "{") := ⟨by decide +kernel, by decide +kernel⟩
  have b : TxtOk 2 (Str.ofString "}*") := ⟨by decide +kernel, by decide +kernel⟩
  exact ((a.append h).append b).mono (by decide)
theorem prep_wild {w : World} {p : Pl} (h : TxtOk 30 p.path) (hs : tl p.path = [] ∨ ∃ r, tl p.path = 47 :: r) : PrepSel w (wild p) (pickW p) := by
  unfold pickW
  have n1 : (wild p == Str.ofString "{*}*") = false := by
    rw [str_beq, tl_wild, tl_star4, beq_eq_false_iff_ne]
    rcases hs with e | ⟨r, e⟩ <;> rw [e] <;> simp
  rcases hs with e | ⟨r, e⟩
  · have hz : p.path.length = 0 := by rw [← tl_len, e]; rfl
    rw [if_pos hz]
    exact prepB (wild_ok h) n1 (by rw [str_beq, tl_wild, tl_top, e]; rfl)
  · have hz : ¬ p.path.length = 0 := by rw [← tl_len, e]; simp
    rw [if_neg hz]
    refine prepD (wild_ok h) n1 ?_ ?_ ?_
    · rw [str_beq, tl_wild, tl_top, e, beq_eq_false_iff_ne]; simp
    · have := slice_upto (wild p) 3
      rw [show ((3 : Nat) : Int) = 3 from rfl] at this
      rw [str_beq, this, tl_wild, tl_star3, e, beq_eq_false_iff_ne]
      simp
    · have := slice_from_neg (wild p) 2 (by decide)
      rw [show (-((2 : Nat) : Int)) = -2 from rfl] at this
      rw [str_beq, this, ← tl_len, tl_wild, tl_cs, List.length_append]
      have e2 : (123 :: tl p.path).length + [125, 42].length - 2 = (123 :: tl p.path).length := by simp
      rw [e2, List.drop_left]
      rfl
theorem PlaceAt.sized {av : Addr → Prop} {h : Heap} {v : Value} {i : Int} {p : Pl} (q : PlaceAt av h v i p) : PlaceAt (fun b => av b ∧ b < h.objs.size) h v i p :=
  let ⟨a, d, fd, m, t1, t2, t3, tv, e0, e1, e2, e3, r⟩ := q; ⟨a, d, fd, m, t1, t2, t3, tv, ⟨⟨e0.1, Heap.lt_size e2⟩, ⟨e0.2, e3.lt⟩⟩, e1, e2, e3, r⟩
theorem PlacesAt.sized {av : Addr → Prop} {h : Heap} {vs : List Value} {ps : List Pl} (q : PlacesAt av h vs ps) : PlacesAt (fun b => av b ∧ b < h.objs.size) h vs ps := ⟨q.1, fun i hi => (q.2 i hi).sized⟩
theorem ns_picked (w : World) : nsIn (KK w) mainGlobals (Str.ofString "_law_picked") = some (some (.ref 95)) := by kernel_rfl
theorem ns_called (w : World) : nsIn (KK w) mainGlobals (Str.ofString "_law_called") = some (some (.ref 100)) := by kernel_rfl
theorem keep95 (w : World) : keepIn (KK w) (.ref 95) = true := by kernel_rfl
theorem keep100 (w : World) : keepIn (KK w) (.ref 100) = true := by kernel_rfl
section
variable {w : World} {A : Around} {E : Value → Shared → Prop} {env : Env} {L : Addr} {mean : ExcName → Option Value} {mg mb : Str → Option Value} {lo : List Str} {s0 : Heap} {pl mgr tb pk : Addr} {pvs : List Value} {ps : List Pl} {i : Nat} {us : Array Value}
/-- what holds between the law's statements -/
structure OBet (L : Addr) (s0 : Heap) (pl mgr tb : Addr) (pvs : List Value) (ps : List Pl) (s : Shared) : Prop where
  b : LBase L s0 pl mgr tb pvs ps s.heap
  n : ∃ m, s.heap.Ns L m
  o : ∃ v, s.heap.IsCell (L + 3) v
  k : ∃ v, s.heap.IsCell (L + 5) v
  g : AllBare s.gens
theorem sp_none {h : Heap} {D : Addr} {s : Shared} (t : Tab73 h) (n : ∃ m, h.Ns L m) (o : ∃ v, h.IsCell (L + 3) v) (k : ∃ v, h.IsCell (L + 5) v) (hD : h.get? D = none) : Sp L D := by
  refine ⟨fun q => ?_, fun q => ?_, fun q => ?_, fun q => ?_⟩
  · obtain ⟨ps, e, _⟩ := t; rw [q, e] at hD; cases hD
  · obtain ⟨m, o', es, ep, e, _⟩ := n; rw [q, e] at hD; cases hD
  · obtain ⟨v, o', e, _⟩ := o; rw [q, e] at hD; cases hD
  · obtain ⟨v, o', e, _⟩ := k; rw [q, e] at hD; cases hD
/-- after a call of _law_picked -/
theorem OBet.after73 {s : Shared} {h' : Heap} {tk : Nat} {gs : Array GenState} (hL : L = s0.objs.size) (h73 : 73 < L) (h80 : 80 < L) (x : OBet L s0 pl mgr tb pvs ps s) (k : ∀ b o, b ≠ 73 → s.heap.get? b = some o → h'.get? b = some o) (t : Tab73 h') (hg : AllBare s.gens → AllBare gs) :
    OBet L s0 pl mgr tb pvs ps { s with heap := h', toks := tk, gens := gs } := by
  have nL : ∀ j : Nat, L + j ≠ 73 := fun j => Nat.ne_of_gt (Nat.lt_of_lt_of_le h73 (Nat.le_add_right _ _))
  exact ⟨x.b.mv hL h73 h80 (fun b o s e => k b o s.1 e) t, let ⟨m, o, es, ep, e, r⟩ := x.n; ⟨m, o, es, ep, k _ _ (nL 0) e, r⟩, let ⟨v, o, e, r⟩ := x.o; ⟨v, o, k _ _ (nL 3) e, r⟩, let ⟨v, o, e, r⟩ := x.k; ⟨v, o, k _ _ (nL 5) e, r⟩, hg x.g⟩
theorem OBet.ext {s : Shared} {h' : Heap} {tk : Nat} (hL : L = s0.objs.size) (h73 : 73 < L) (h80 : 80 < L) (x : OBet L s0 pl mgr tb pvs ps s) (e : Ext s.heap h') : OBet L s0 pl mgr tb pvs ps { s with heap := h', toks := tk } :=
  ⟨x.b.ext hL h73 h80 e, let ⟨m, n⟩ := x.n; ⟨m, n.keeps e⟩, let ⟨v, n⟩ := x.o; ⟨v, n.keeps e⟩, let ⟨v, n⟩ := x.k; ⟨v, n.keeps e⟩, x.g⟩
/-- _law_picked(TEXT, places) -/
theorem picked_ev {s : Shared} {tg : Str} {t0 : Tok} {pick : Pl → Bool} {Q : Value → Shared → Prop} (f : Fit A 320 400) (C : Ctx w mean mg mb lo s0 L) (T : Tree ps) (h9 : ps.length ≤ 9) (hpo : ∀ p ∈ ps, TxtOk 30 p.path)
    (x : OBet L s0 pl mgr tb pvs ps s) (hprep : PrepSel w tg pick)
    (hQ : ∀ D h' tk gs ys, Sp L D → h'.IsList D ys → IntsAre ys.toList ((ksFrom (fun i => pick (ps.getD i p0)) ps.length 0).map fun (k : Nat) => (k : Int)) → (∀ b o, b ≠ 73 → s.heap.get? b = some o → h'.get? b = some o) →
      OBet L s0 pl mgr tb pvs ps { s with heap := h', toks := tk, gens := gs } → Q (.ref D) { s with heap := h', toks := tk, gens := gs }) :
    wpAny (model prog w) A (call (.ref 95) [.str tg t0, .ref pl]) Q E s := by
  have hL := C.L
  have h73 : 73 < L := hL ▸ Heap.lt_size C.T73
  have h80 : 80 < L := hL ▸ Heap.lt_size C.T80
  refine picked_c (f.mono (by decide) (by decide)) (C.inK x.b.old) (C.bm x.b.old) x.b.t73 (C.top7 x.b.old) hprep x.b.li x.b.P.sized (fun b z => ⟨z.2, z.1.1⟩) (T.tagOk hpo) (by rw [x.b.P.1]; omega) ?_
  intro D h' tk gs ys hD hl hi k t hg
  rw [x.b.P.1] at hi
  exact hQ D h' tk gs ys (sp_none (s := s) x.b.t73 x.n x.o x.k hD) hl hi k (x.after73 hL h73 h80 k t hg)
end
end Mine
end

section
open PySem PySem.W PyProof.Rows PySem.Calls PySem.Spec
namespace Mine
section
variable {w : World} {A : Around} {E : Value → Shared → Prop} {env : Env} {L : Addr} {mean : ExcName → Option Value} {mg mb : Str → Option Value} {lo : List Str} {s0 : Heap} {pl mgr tb pk : Addr} {pvs : List Value} {ps : List Pl} {i : Nat} {us : Array Value}
/-- a name of the frame stored -/
theorem OBet.store {s : Shared} {y : Str} {v : Value} {Q : Unit → Shared → Prop} (Ev : LEnv env L) (hL : L = s0.objs.size) (h73 : 73 < L) (h80 : 80 < L) (x : OBet L s0 pl mgr tb pvs ps s) (hy : env.kindOf y = some .local)
    (hQ : ∀ h' tk m, (∀ b o, b ≠ L → s.heap.get? b = some o → h'.get? b = some o) → h'.Ns L m → m y = some v → OBet L s0 pl mgr tb pvs ps { s with heap := h', toks := tk } → Q () { s with heap := h', toks := tk }) :
    wpAny (model prog w) A (storeName env y v) Q E s := by
  obtain ⟨m, hn⟩ := x.n
  refine wpAny_storeName_local hy (by rw [Ev.l]; exact hn) (fun h' hn' hs => ?_) (by rw [Ev.k]; rfl)
  rw [Ev.l] at hn' hs
  have k : ∀ b o, b ≠ L → s.heap.get? b = some o → h'.get? b = some o := hs.extBut
  have n3 : L + 3 ≠ L := Nat.ne_of_gt (Nat.lt_add_of_pos_right (by decide))
  have n5 : L + 5 ≠ L := Nat.ne_of_gt (Nat.lt_add_of_pos_right (by decide))
  exact hQ h' _ _ k hn' (if_pos rfl) ⟨x.b.frame hL h73 h80 hn k, ⟨_, hn'⟩, let ⟨v, o, e, r⟩ := x.o; ⟨v, o, k _ _ n3 e, r⟩, let ⟨v, o, e, r⟩ := x.k; ⟨v, o, k _ _ n5 e, r⟩, x.g⟩
theorem one_turn {s : Shared} {body : List Stmt} {scope : Scope} {q1 q2 q3 q4 q5 q6 q7 q8 q9 q10 a1 a2 a3 a4 a5 a6 a7 a8 a9 a10 a11 a12 b1 b2 b3 b4 b5 b6 b7 b8 b9 b10 b11 : Pos} {k1 k2 k3 : Nat} {Q : Flow → Shared → Prop}
    (Ev : LEnv env L) (f : Fit A 320 400) (hh : A.handled = none) (C : Ctx w mean mg mb lo s0 L) (T : Tree ps) (h9 : ps.length ≤ 9) (hpo : ∀ p ∈ ps, TxtOk 30 p.path) (hu : A.units + 64 < cLine)
    (hsk : scope.kind = .function) (hsc : scope.names = [(Str.ofString ".0", .local), (Str.ofString "place", .local), (nOne, .free)])
    (x : OBet L s0 pl mgr tb pvs ps s) (ho : s.heap.IsCell (L + 3) (some (pvs.getD i .none))) (hi : i < ps.length)
    (hB : ∀ pk us, IntsAre us.toList ((kids ps i).map fun (n : Nat) => (n : Int)) → KBodyOk w A env L s0 pl mgr tb pk pvs ps us i body)
    (hQ : ∀ h' tk gs, (∀ b o, Sp L b → s.heap.get? b = some o → h'.get? b = some o) → OBet L s0 pl mgr tb pvs ps { s with heap := h', toks := tk, gens := gs } → Q .next { s with heap := h', toks := tk, gens := gs }) :
    wpAny (model prog w) A (execs [
      .Assign [.Name nPicked q1] (.Call (.Name (Str.ofString "_law_picked") q2) [.BinOp (.BinOp (.Constant (.str (Str.ofString "{")) k1 q3) .Add (.Attribute (.Name nOne q4) sPath q5) q6) .Add (.Constant (.str (Str.ofString "}*")) k2 q7) q8, .Name nPlaces q9] [] q10) a1,
      .If (.Compare (.Name nPicked a2) [.NotEq] [.ListComp (.Attribute (.Name (Str.ofString "place") a3) sNumber a4) [⟨.Name (Str.ofString "place") a5, .Name nPlaces a6, [.Compare (.Attribute (.Name (Str.ofString "place") a7) sOver a8) [.Eq] [.Attribute (.Name nOne a9) sNumber a10] a11], 0⟩] scope a12] b1) (retF k3 b2 b3) [] b4,
      .For (.Name nK b5) (.Call (.Name (Str.ofString "range") b6) [.Call (.Name (Str.ofString "len") b7) [.Name nPlaces b8] [] b9] [] b10) body [] b11] env) Q E s := by
  have hL := C.L
  have h73 : 73 < L := hL ▸ Heap.lt_size C.T73
  have h80 : 80 < L := hL ▸ Heap.lt_size C.T80
  have hP1 := x.b.P.1
  have hpi : TxtOk 30 (ps.getD i p0).path := getD_ok hpo i
  have hsp : tl (ps.getD i p0).path = [] ∨ ∃ r, tl (ps.getD i p0).path = 47 :: r := by
    by_cases h0 : 0 < i
    · exact .inr ((T.path i hi).s h0)
    · exact .inl ((T.path i hi).z (by omega))
  have ko : TxtOk 1 (Str.ofString "{") := ⟨by decide +kernel, by decide +kernel⟩
  have kc : TxtOk 2 (Str.ofString "}*") := ⟨by decide +kernel, by decide +kernel⟩
  -- picked = _law_picked('{' + one.path + '}*', places)
  refine wpAny_execs_cons (wpAny_Assign_Name (Call_ (nm_glob (C.inK x.b.old) (C.top x.b.old) (ns_picked w) ?_ Ev.k Ev.gPi Ev.g) rfl) rfl)
  refine callWith_K (C.inK x.b.old) (keep95 w) (args_cons (wpAny_BinOp (wpAny_BinOp (Constant_str (one_path (s := { s with toks := s.toks + 1 }) Ev ho (x.b.P.2 i hi) fun t => add_str (fun t1 tk1 => Constant_str (add_str (fun t2 tk2 => ?_) ?_)) ?_)))))
  rotate_left
  · exact Nat.le_trans (Nat.add_le_add (ko.append hpi).2 kc.2) (by decide)
  · exact Nat.le_trans (Nat.add_le_add ko.2 hpi.2) (by decide)
  have x1 : OBet L s0 pl mgr tb pvs ps { s with heap := s.heap, toks := tk2 } := x.ext hL h73 h80 fun _ _ e => e
  refine args_cons (nm_cell (s := { s with toks := tk2 }) Ev.k Ev.kP Ev.cP x.b.cP (args_nil ⟨C.inK x.b.old, ?_⟩))
  refine picked_ev f C T h9 hpo x1 (prep_wild hpi hsp) fun D h2 tk3 gs2 ys sD hl2 hi2 k2 x2 => ?_
  rw [T.kids_are hi] at hi2
  -- stored
  refine x2.store Ev hL h73 h80 Ev.kPi fun h3 tk4 m3 k3 n3 hm3 x3 => ?_
  have kk3 : ∀ b o, Sp L b → s.heap.get? b = some o → h3.get? b = some o := fun b o sb e => k3 b o sb.2.1 (k2 b o sb.1 e)
  have hl3 : h3.IsList D ys := let ⟨o, e, r⟩ := hl2; ⟨o, k3 _ _ sD.2.1 e, r⟩
  have o3 : h3.IsCell (L + 3) (some (pvs.getD i .none)) := let ⟨o, e, r⟩ := ho; ⟨o, k3 _ _ (Nat.ne_of_gt (Nat.lt_add_of_pos_right (by decide))) (k2 _ _ (Nat.ne_of_gt (Nat.lt_of_lt_of_le h73 (Nat.le_add_right _ _))) e), r⟩
  -- if picked != [..]
  refine wpAny_execs_cons (wpAny_If (wpAny_isTrue_Compare1 (nm_local Ev.k Ev.kPi (by rw [Ev.l]; exact n3) hm3 ?_) rfl))
  refine comp_list (cl := [(nOne, L + 3)]) hh (closure1 hsc Ev.cO) hsk (by rw [hsc]; decide +kernel) (by rw [hsc]; decide +kernel) (by rw [hsc]; decide +kernel) ?_ (fun _ => rfl)
  refine nm_cell Ev.k Ev.kP Ev.cP x3.b.cP ?_
  refine ⟨pl, pvs.toArray, fun j => (ps.getD j p0).over == (i : Int), fun j y => ∃ t, y = Value.int ((j : Nat) : Int) t, rfl, x3.b.li, by simp [hP1]; exact Nat.le_trans h9 (by decide), ?_, ?_⟩
  · intro C' j s₂ mm hj hext hC hns hmx
    have hj' : j < ps.length := by simpa [hP1] using hj
    have e : pvs.toArray.getD j Value.none = pvs.getD j .none := by simp
    rw [e] at hmx
    have P : PlaceAt (Sp L) s₂.heap (pvs.getD j .none) (j : Int) (ps.getD j p0) := (x3.b.P.2 j hj').move fun b o _ e => hext b o e
    have PO : PlaceAt (Sp L) s₂.heap (pvs.getD i .none) (i : Int) (ps.getD i p0) := (x3.b.P.2 i hi).move fun b o _ e => hext b o e
    refine ifs_one (wpAny_isTrue_Compare1 (Attribute_Name_ (nm_local (genv := compEnvC _ _ _ _) hsk (lookup_relabel_local (by rw [hsc]; decide +kernel)) hns hmx (at_over P fun t => ?_)) rfl) rfl)
    refine Attribute_Name_ (nm_cell (genv := compEnvC _ _ _ _) hsk (relabel_cell (scope := scope) Ev.k Ev.kO (by rw [hsc]; decide +kernel)) rfl (o3.keeps hext) (at_number (s := { s₂ with toks := s₂.toks + 1 }) PO fun t' => eq_int (wpAny_truthy_bool ?_))) rfl
    refine ⟨rfl, ⟨s₂.heap, _, rfl, fun _ _ e => e⟩, fun _ => ?_⟩
    exact Attribute_Name_ (nm_local (genv := compEnvC _ _ _ _) hsk (lookup_relabel_local (by rw [hsc]; decide +kernel)) hns hmx (at_number P fun tk => ⟨⟨tk, rfl⟩, ⟨s₂.heap, _, rfl, fun _ _ e => e⟩⟩)) rfl
  intro D2 h4 tk5 ys2 hD2 hl4 hF hext
  have hsz : pvs.toArray.size = ps.length := by simp [hP1]
  rw [hsz] at hF
  have hii := paired_ints (f := fun j => j) hF
  have x4 : OBet L s0 pl mgr tb pvs ps { s with heap := h4, toks := tk5, gens := gs2 } := x3.ext hL h73 h80 hext
  refine ne_ints ((Ext.keep hext).list hl3) hi2 hl4 hii hu (wpAny_truthy_bool ?_)
  have heq : (!((kids ps i).map (fun (n : Nat) => (n : Int)) == (List.filter (fun j => (ps.getD j p0).over == (i : Int)) (List.range ps.length)).map fun (j : Nat) => (j : Int))) = false := by
    unfold kids; simp
  rw [heq, if_neg Bool.false_ne_true]
  refine wpAny_execs_nil ?_
  dsimp only
  -- for k in range(len(places))
  refine wpAny_execs_cons ?_
  have xb : KBet L s0 pl mgr tb D pvs ps ys i m3 h4 := ⟨x4.b, n3.keeps hext, hm3, (Ext.keep hext).list hl3, o3.keeps hext, x4.k⟩
  refine k_loop (s := { s with heap := h4, toks := tk5, gens := gs2 }) Ev hh C h9 (hB D ys hi2) xb fun h5 tk6 m5 k5 n5 c5 => wpAny_execs_nil ?_
  have kk5 : ∀ b o, Sp L b → s.heap.get? b = some o → h5.get? b = some o := fun b o sb e => k5 b o sb.2.1 sb.2.2.2 (hext b o (kk3 b o sb e))
  have n35 : L + 3 ≠ L := Nat.ne_of_gt (Nat.lt_add_of_pos_right (by decide))
  have n3x : L + 3 ≠ L + 5 := fun q => by have := Nat.add_left_cancel q; omega
  have h73' : @LT.lt Nat _ 73 L := h73
  refine hQ h5 tk6 gs2 kk5 ⟨x4.b.mv hL h73 h80 (fun b o sb e => k5 b o sb.2.1 sb.2.2.2 e) (x4.b.t73.buts (fun b => b = L ∨ b = L + 5) (fun q => q.elim (Nat.ne_of_lt h73') (Nat.ne_of_lt (Nat.lt_of_lt_of_le h73' (Nat.le_add_right _ _)))) (fun Z hZ o e => ?_) fun b o hb e => k5 b o (fun q => hb (.inl q)) (fun q => hb (.inr q)) e), ⟨m5, n5⟩, ?_, c5, x4.g⟩
  · rcases hZ with rfl | rfl
    · exact ns_noCode (n3.keeps hext) e
    · obtain ⟨v, hv⟩ := x4.k; exact cell_noCode hv e
  · obtain ⟨o, e, r⟩ := o3.keeps hext; exact ⟨_, o, k5 _ _ n35 n3x e, r⟩
end
end Mine
end

section
open PySem PySem.W PyProof.Rows PySem.Calls PySem.Spec
namespace Mine
section
variable {w : World} {A : Around} {E : Value → Shared → Prop} {env : Env} {L : Addr} {mean : ExcName → Option Value} {mg mb : Str → Option Value} {lo : List Str} {s0 : Heap} {pl mgr tb pk : Addr} {pvs : List Value} {ps : List Pl} {i : Nat} {us : Array Value}
def OBodyOk (w : World) (A : Around) (env : Env) (L : Addr) (s0 : Heap) (pl mgr tb : Addr) (pvs : List Value) (ps : List Pl) (body : List Stmt) : Prop :=
  ∀ (i : Nat) (s : Shared) (Q : Flow → Shared → Prop) (E : Value → Shared → Prop), i < ps.length → OBet L s0 pl mgr tb pvs ps s → s.heap.IsCell (L + 3) (some (pvs.getD i .none)) →
    (∀ h' tk gs, (∀ b o, Sp L b → s.heap.get? b = some o → h'.get? b = some o) → OBet L s0 pl mgr tb pvs ps { s with heap := h', toks := tk, gens := gs } → Q .next { s with heap := h', toks := tk, gens := gs }) →
    wpAny (model prog w) A (execs body env) Q E s
theorem sp_size {s : Shared} (x : OBet L s0 pl mgr tb pvs ps s) {D : Addr} (hD : s.heap.objs.size ≤ D) : Sp L D := sp_none (s := s) x.b.t73 x.n x.o x.k (fresh_of_size hD)
/-- a step of a list iterator of the loop's own -/
theorem OBet.iter {s s' : Shared} {I ax : Addr} {j : Nat} {h2 : Heap} (hL : L = s0.objs.size) (h73 : 73 < L) (h80 : 80 < L) (x0 : OBet L s0 pl mgr tb pvs ps s) (x : OBet L s0 pl mgr tb pvs ps s') (hI : s.heap.objs.size ≤ I) (sI : Sp L I)
    (k : ∀ b o, Sp L b → s.heap.get? b = some o → s'.heap.get? b = some o) (hit : s'.heap.IsListIter I ax j) (hs : ∀ b o, b ≠ I → s'.heap.get? b = some o → h2.get? b = some o) (tk : Nat) :
    OBet L s0 pl mgr tb pvs ps { s' with heap := h2, toks := tk } := by
  refine ⟨x0.b.mv hL h73 h80 (fun b o sb e => hs b o (Nat.ne_of_lt (Nat.lt_of_lt_of_le (Heap.lt_size e) hI)) (k b o sb e)) (x.b.t73.buts (fun b => b = I) (Ne.symm sI.1) (fun Z hZ o e => by subst hZ; exact listit_noCode hit e) hs), ?_, ?_, ?_, x.g⟩
  · obtain ⟨m, o, es, ep, e, r⟩ := x.n; exact ⟨m, o, es, ep, hs _ _ (Ne.symm sI.2.1) e, r⟩
  · obtain ⟨v, o, e, r⟩ := x.o; exact ⟨v, o, hs _ _ (Ne.symm sI.2.2.1) e, r⟩
  · obtain ⟨v, o, e, r⟩ := x.k; exact ⟨v, o, hs _ _ (Ne.symm sI.2.2.2) e, r⟩
/-- for one in places: .. -/
theorem one_loop {s : Shared} {body : List Stmt} {p1 p2 p3 : Pos} {Q : Flow → Shared → Prop} (Ev : LEnv env L) (hh : A.handled = none) (C : Ctx w mean mg mb lo s0 L)
    (hB : OBodyOk w A env L s0 pl mgr tb pvs ps body) (x : OBet L s0 pl mgr tb pvs ps s)
    (hQ : ∀ h' tk gs, OBet L s0 pl mgr tb pvs ps { s with heap := h', toks := tk, gens := gs } → Q .next { s with heap := h', toks := tk, gens := gs }) :
    wpAny (model prog w) A (exec (.For (.Name nOne p1) (.Name nPlaces p2) body [] p3) env) Q E s := by
  have hL := C.L
  have h73 : 73 < L := hL ▸ Heap.lt_size C.T73
  have h80 : 80 < L := hL ▸ Heap.lt_size C.T80
  have hP1 := x.b.P.1
  refine wpAny_For (nm_cell Ev.k Ev.kP Ev.cP x.b.cP (wpAny_pyIter_list x.b.li ?_))
  have sI : Sp L s.heap.objs.size := sp_size x (Nat.le_refl _)
  have E1 : Ext s.heap (s.heap.push { cls := .type "list_iterator", data := .fields #[.ref pl, .int 0 0] }) := fun b o e => Heap.get?_push_of_some _ e
  refine codeAny_forLoop (fun n s' => ∃ (h : Heap) (tk : Nat) (gs : Array GenState) (j : Nat), s' = { s with heap := h, toks := tk, gens := gs } ∧ (∀ b o, Sp L b → s.heap.get? b = some o → h.get? b = some o) ∧ OBet L s0 pl mgr tb pvs ps s' ∧
      h.IsListIter s.heap.objs.size pl j ∧ j ≤ ps.length ∧ n = ps.length + 1 - j) ?turn (ps.length + 1) ?start
  case start => exact ⟨_, _, s.gens, 0, rfl, fun b o _ e => E1 b o e, x.ext hL h73 h80 E1, ⟨_, Heap.get?_push_size _ rfl, rfl, rfl⟩, Nat.zero_le _, rfl⟩
  rintro n s' ⟨h, tk, gs, j, rfl, k, xs, hit, hj, rfl⟩
  by_cases hlt : j < ps.length
  · have hv : pvs.toArray[j]? = some (pvs.getD j .none) := by
      rw [List.getElem?_toArray, List.getD_eq_getElem?_getD, List.getElem?_eq_getElem (by rw [hP1]; exact hlt)]; rfl
    refine wpAny_pyNext_list_item hit xs.b.li hv fun h2 hit2 hs2 => ?_
    have x2 := x.iter (s' := { s with heap := h, toks := tk, gens := gs }) hL h73 h80 xs (Nat.le_refl _) sI k hit hs2.extBut tk
    obtain ⟨v, hv3⟩ := x2.o
    refine wpAny_assign_Name (wpAny_storeName_cell Ev.k Ev.kO Ev.cO hv3 fun h3 hc3 hs3 => ?_)
    have nL : L ≠ L + 3 := Nat.ne_of_lt (Nat.lt_add_of_pos_right (by decide))
    have n5 : L + 5 ≠ L + 3 := fun q => by have := Nat.add_left_cancel q; omega
    have n73 : 73 ≠ L + 3 := Nat.ne_of_lt (Nat.lt_of_lt_of_le h73 (Nat.le_add_right _ _))
    have x3 : OBet L s0 pl mgr tb pvs ps { s with heap := h3, toks := tk, gens := gs } :=
      ⟨x2.b.mv hL h73 h80 (fun b o sb e => hs3.extBut b o sb.2.2.1 e) (x2.b.t73.buts (fun b => b = L + 3) n73 (fun Z hZ o e => by subst hZ; exact cell_noCode hv3 e) hs3.extBut),
        let ⟨m, hn⟩ := x2.n; ⟨m, hn.sameBut hs3 nL⟩, ⟨_, hc3⟩, let ⟨v, hv⟩ := x2.k; ⟨v, hv.sameBut hs3 n5⟩, x2.g⟩
    refine hB j { s with heap := h3, toks := tk, gens := gs } _ _ hlt x3 hc3 fun h4 tk4 gs4 k4 x4 => ?_
    have hit3 : h3.IsListIter s.heap.objs.size pl (j + 1) := hit2.extBut hs3.extBut sI.2.2.1
    refine ⟨ps.length + 1 - (j + 1), by omega, h4, tk4, gs4, j + 1, rfl, fun b o sb e => k4 b o sb (hs3.extBut b o sb.2.2.1 (hs2.extBut b o (Nat.ne_of_lt (Heap.lt_size e)) (k b o sb e))), x4, let ⟨o, e, r⟩ := hit3; ⟨o, k4 _ _ sI e, r⟩, hlt, rfl⟩
  · have : j = ps.length := by omega
    subst this
    refine wpAny_pyNext_list_end hh hit xs.b.li (by rw [List.getElem?_toArray]; exact List.getElem?_eq_none (by rw [hP1]; exact Nat.le_refl _)) fun h2 he => ?_
    exact wpAny_execs_nil (hQ h2 tk gs (x.iter (s' := { s with heap := h, toks := tk, gens := gs }) hL h73 h80 xs (Nat.le_refl _) sI k hit he tk))
theorem prep_name {w : World} {nm : Str} (hn : TxtOk 2 nm) (h42 : tl nm ≠ [42]) : ∃ suf, tl suf = 125 :: tl nm ∧ PrepSel w (Str.ofString "{*}" ++ nm) (Named nm suf (-(suf.length : Int))) := by
  have e : tl (Str.ofString "{*}" ++ nm) = [123, 42, 125] ++ tl nm := by rw [tl_app, tl_star3]
  have e3 : Txt.slice (Str.ofString "{*}" ++ nm) (some 3) none = nm := tl_inj (by
    have := slice_from (Str.ofString "{*}" ++ nm) 3
    rw [show ((3 : Nat) : Int) = 3 from rfl] at this
    rw [this, e]; rfl)
  have e2 : tl (Txt.slice (Str.ofString "{*}" ++ nm) (some 2) none) = 125 :: tl nm := by
    have := slice_from (Str.ofString "{*}" ++ nm) 2
    rw [show ((2 : Nat) : Int) = 2 from rfl] at this
    rw [this, e]; rfl
  refine ⟨_, e2, ?_⟩
  have k3 : TxtOk 3 (Str.ofString "{*}") := ⟨by decide +kernel, by decide +kernel⟩
  have := prepC (w := w) (tg := Str.ofString "{*}" ++ nm) ((k3.append hn).mono (by decide)) ?_ ?_ ?_
  · rw [e3] at this; exact this
  · rw [str_beq, e, tl_star4, beq_eq_false_iff_ne]; intro q; simp at q; exact h42 q
  · rw [str_beq, e, tl_top, beq_eq_false_iff_ne]; simp
  · have := slice_upto (Str.ofString "{*}" ++ nm) 3
    rw [show ((3 : Nat) : Int) = 3 from rfl] at this
    rw [str_beq, this, e, tl_star3]; rfl
def names5 : List Str := [Str.ofString "a", Str.ofString "ab", Str.ofString "b", Str.ofString "..", Str.ofString "a{"]
theorem names5_ok : ∀ nm ∈ names5, TxtOk 2 nm ∧ tl nm ≠ [42] ∧ NmOk (tl nm) := by
  intro nm h
  have hn : nm ∈ nms := by
    simp only [names5, List.mem_cons, List.not_mem_nil, or_false] at h
    rcases h with rfl | rfl | rfl | rfl | rfl <;> simp [nms]
  refine ⟨?_, ?_, nm_facts nm hn⟩
  · obtain ⟨j, hj, rfl⟩ := List.mem_iff_getElem.mp hn
    have := nms_ok j
    rw [List.getD_eq_getElem?_getD, List.getElem?_eq_getElem hj] at this; exact this
  · have e : names5.map tl = [[97], [97, 98], [98], [46, 46], [97, 123]] := by decide +kernel
    have h2 : tl nm ∈ names5.map tl := List.mem_map_of_mem h
    rw [e] at h2
    simp only [List.mem_cons, List.not_mem_nil, or_false] at h2
    rcases h2 with h | h | h | h | h <;> rw [h] <;> simp
end
end Mine
end

section
open PySem PySem.W PyProof.Rows PySem.Calls PySem.Spec
namespace Mine
section
variable {w : World} {A : Around} {E : Value → Shared → Prop} {env : Env} {L : Addr} {mean : ExcName → Option Value} {mg mb : Str → Option Value} {lo : List Str} {s0 : Heap} {pl mgr tb pk : Addr} {pvs : List Value} {ps : List Pl} {i : Nat} {us : Array Value}
/-- if _law_picked('{*}' + name, places) != _law_called(name, places): return False -/
theorem name_turn {s : Shared} {nm : Str} {tn : Tok} {m : Str → Option Value} {q1 q2 q3 q4 q5 q6 q7 q8 q9 q10 q11 b2 b3 b4 : Pos} {k1 k3 : Nat} {Q : Flow → Shared → Prop}
    (Ev : LEnv env L) (f : Fit A 320 400) (C : Ctx w mean mg mb lo s0 L) (T : Tree ps) (h9 : ps.length ≤ 9) (hpo : ∀ p ∈ ps, TxtOk 30 p.path) (hu : A.units + 64 < cLine)
    (x : OBet L s0 pl mgr tb pvs ps s) (hn : s.heap.Ns L m) (hm : m nName = some (.str nm tn)) (hnm : nm ∈ names5)
    (hQ : ∀ h' tk gs, (∀ b o, b ≠ 73 → s.heap.get? b = some o → h'.get? b = some o) → OBet L s0 pl mgr tb pvs ps { s with heap := h', toks := tk, gens := gs } → Q .next { s with heap := h', toks := tk, gens := gs }) :
    wpAny (model prog w) A (execs [.If (.Compare (.Call (.Name (Str.ofString "_law_picked") q1) [.BinOp (.Constant (.str (Str.ofString "{*}")) k1 q2) .Add (.Name nName q3) q4, .Name nPlaces q5] [] q6) [.NotEq] [.Call (.Name (Str.ofString "_law_called") q7) [.Name nName q8, .Name nPlaces q9] [] q10] q11) (retF k3 b2 b3) [] b4] env) Q E s := by
  have hL := C.L
  have h73 : 73 < L := hL ▸ Heap.lt_size C.T73
  have h80 : 80 < L := hL ▸ Heap.lt_size C.T80
  have hP1 := x.b.P.1
  obtain ⟨o1, o2, o3⟩ := names5_ok nm hnm
  obtain ⟨suf, e1, hprep⟩ := prep_name (w := w) o1 o2
  have k3 : TxtOk 3 (Str.ofString "{*}") := ⟨by decide +kernel, by decide +kernel⟩
  refine wpAny_execs_cons (wpAny_If (wpAny_isTrue_Compare1 ?_ rfl))
  refine Call_ (nm_glob (C.inK x.b.old) (C.top x.b.old) (ns_picked w) ?_ Ev.k Ev.gPi Ev.g) rfl
  refine callWith_K (C.inK x.b.old) (keep95 w) (args_cons (wpAny_BinOp (Constant_str (nm_local (s := { s with toks := s.toks + 1 }) Ev.k Ev.kNa (by rw [Ev.l]; exact hn) hm (add_str (fun t2 tk2 => ?_) (Nat.le_trans (Nat.add_le_add k3.2 o1.2) (by decide)))))))
  have x1 : OBet L s0 pl mgr tb pvs ps { s with heap := s.heap, toks := tk2 } := x.ext hL h73 h80 fun _ _ e => e
  refine args_cons (nm_cell (s := { s with toks := tk2 }) Ev.k Ev.kP Ev.cP x.b.cP (args_nil ⟨C.inK x.b.old, ?_⟩))
  refine picked_ev f C T h9 hpo x1 hprep fun D h2 tk3 gs2 ys sD hl2 hi2 k2 x2 => ?_
  rw [T.named o3 e1] at hi2
  have hn2 : h2.Ns L m := let ⟨o, es, ep, e, r⟩ := hn; ⟨o, es, ep, k2 _ _ (Nat.ne_of_gt h73) e, r⟩
  refine Call_ (nm_glob (C.inK x2.b.old) (C.top x2.b.old) (ns_called w) ?_ Ev.k Ev.gCa Ev.g) rfl
  refine callWith_K (C.inK x2.b.old) (keep100 w) (args_cons (nm_local Ev.k Ev.kNa (by rw [Ev.l]; exact hn2) hm (args_cons (nm_cell Ev.k Ev.kP Ev.cP x2.b.cP (args_nil ⟨C.inK x2.b.old, ?_⟩)))))
  refine called_c (f.mono (by decide) (by decide)) (C.inK x2.b.old) x2.b.li x2.b.P (fun p hp => Nat.le_trans (hpo p hp).2 (by decide)) (by rw [hP1]; omega) (by rw [hP1]; exact T.pos) ?_
  intro D2 h3 tk4 ys2 hD2 hl3 hi3 E3
  refine ne_ints ((Ext.keep E3).list hl2) hi2 hl3 hi3 hu (wpAny_truthy_bool ?_)
  have heq : (!(List.map (fun (k : Nat) => (k : Int)) (List.map (fun i => i + 1) (List.filter (fun i => lastSeg (ps.getD (i + 1) p0).path == nm) (List.range (ps.length - 1)))) ==
      List.map (fun (k : Nat) => ((k + 1 : Nat) : Int)) (List.filter (fun i => lastSeg (ps.getD (i + 1) p0).path == nm) (List.range (pvs.length - 1))))) = false := by
    rw [hP1, List.map_map]; simp [Function.comp_def]
  rw [heq, if_neg Bool.false_ne_true]
  refine wpAny_execs_nil ?_
  dsimp only
  refine wpAny_execs_nil ?_
  exact hQ h3 tk4 gs2 (fun b o hb e => E3 b o (k2 b o hb e)) (x2.ext hL h73 h80 E3)
/-- for name in [..]: .. -/
theorem name_loop {s : Shared} {p1 p2 p3 r1 r2 r3 r4 r5 q1 q2 q3 q4 q5 q6 q7 q8 q9 q10 q11 b2 b3 b4 : Pos} {k1 k3 j1 j2 j3 j4 j5 : Nat} {Q : Flow → Shared → Prop}
    (Ev : LEnv env L) (f : Fit A 320 400) (hh : A.handled = none) (C : Ctx w mean mg mb lo s0 L) (T : Tree ps) (h9 : ps.length ≤ 9) (hpo : ∀ p ∈ ps, TxtOk 30 p.path) (hu : A.units + 64 < cLine)
    (x : OBet L s0 pl mgr tb pvs ps s)
    (hQ : ∀ h' tk gs, OBet L s0 pl mgr tb pvs ps { s with heap := h', toks := tk, gens := gs } → Q .next { s with heap := h', toks := tk, gens := gs }) :
    wpAny (model prog w) A (exec (.For (.Name nName p1) (.List [.Constant (.str (Str.ofString "a")) j1 r1, .Constant (.str (Str.ofString "ab")) j2 r2, .Constant (.str (Str.ofString "b")) j3 r3, .Constant (.str (Str.ofString "..")) j4 r4, .Constant (.str (Str.ofString "a{")) j5 r5] p2)
      [.If (.Compare (.Call (.Name (Str.ofString "_law_picked") q1) [.BinOp (.Constant (.str (Str.ofString "{*}")) k1 q2) .Add (.Name nName q3) q4, .Name nPlaces q5] [] q6) [.NotEq] [.Call (.Name (Str.ofString "_law_called") q7) [.Name nName q8, .Name nPlaces q9] [] q10] q11) (retF k3 b2 b3) [] b4] [] p3) env) Q E s := by
  have hL := C.L
  have h73 : 73 < L := hL ▸ Heap.lt_size C.T73
  have h80 : 80 < L := hL ▸ Heap.lt_size C.T80
  refine wpAny_For (wpAny_List (args_cons (Constant_str (args_cons (Constant_str (args_cons (Constant_str (args_cons (Constant_str (args_cons (Constant_str (args_nil ⟨show 5 ≤ sizeLine by decide, ?_⟩)))))))))))) (fun _ => by with_unfolding_all rfl)
  generalize hws : [Value.str (Str.ofString "a") _, _, _, _, _] = ws
  have hw : ∀ j, j < 5 → ∃ t, ws.toArray[j]? = some (.str (names5.getD j Str.empty) t) := by
    intro j hj
    rw [← hws]
    have : j = 0 ∨ j = 1 ∨ j = 2 ∨ j = 3 ∨ j = 4 := by omega
    rcases this with rfl | rfl | rfl | rfl | rfl <;> exact ⟨_, rfl⟩
  have hwl : ws.toArray.size = 5 := by rw [← hws]; rfl
  generalize hH1 : Heap.push _ _ = H1
  have E1 : Ext s.heap H1 := fun b o e => hH1 ▸ Heap.get?_push_of_some _ e
  have hl1 : H1.IsList s.heap.objs.size ws.toArray := ⟨_, hH1 ▸ Heap.get?_push_size _ rfl, rfl, _, rfl⟩
  have hS1 : H1.objs.size = s.heap.objs.size + 1 := by rw [← hH1, Heap.size_push]
  refine wpAny_pyIter_list hl1 ?_
  have sD : Sp L s.heap.objs.size := sp_size x (Nat.le_refl _)
  have sI : Sp L H1.objs.size := sp_size x (by rw [hS1]; exact Nat.le_succ _)
  generalize hI : H1.objs.size = I at *
  have hDI : s.heap.objs.size ≠ I := by rw [hS1]; exact Nat.ne_of_lt (Nat.lt_succ_self _)
  have hIs : s.heap.objs.size ≤ I := by rw [hS1]; exact Nat.le_succ _
  generalize hH2 : Heap.push _ _ = H2
  have E2 : Ext H1 H2 := fun b o e => hH2 ▸ Heap.get?_push_of_some _ e
  have hit0 : H2.IsListIter I s.heap.objs.size 0 := ⟨_, hH2 ▸ hI ▸ Heap.get?_push_size _ rfl, rfl, rfl⟩
  generalize hDD : s.heap.objs.size = D at *
  dsimp only
  refine codeAny_forLoop (fun n s' => ∃ (h : Heap) (tk : Nat) (gs : Array GenState) (j : Nat), s' = { s with heap := h, toks := tk, gens := gs } ∧ (∀ b o, Sp L b → s.heap.get? b = some o → h.get? b = some o) ∧ OBet L s0 pl mgr tb pvs ps s' ∧
      h.IsListIter I D j ∧ h.IsList D ws.toArray ∧ j ≤ 5 ∧ n = 5 + 1 - j) ?turn (5 + 1) ?start
  case start => exact ⟨H2, _, s.gens, 0, rfl, fun b o _ e => E2 b o (E1 b o e), x.ext hL h73 h80 (fun b o e => E2 b o (E1 b o e)), hit0, (Ext.keep E2).list hl1, Nat.zero_le _, rfl⟩
  rintro n s' ⟨h, tk, gs, j, rfl, k, xs, hit, hl, hj, rfl⟩
  by_cases hlt : j < 5
  · obtain ⟨t, hv⟩ := hw j hlt
    refine wpAny_pyNext_list_item hit hl hv fun h2 hit2 hs2 => ?_
    have x2 := x.iter (s' := { s with heap := h, toks := tk, gens := gs }) hL h73 h80 xs (by rw [hDD]; exact hIs) sI k hit hs2.extBut tk
    refine wpAny_assign_Name (x2.store Ev hL h73 h80 Ev.kNa fun h3 tk3 m3 k3 n3 hm3 x3 => ?_)
    have hmem : names5.getD j Str.empty ∈ names5 := by
      have hj5 : j < names5.length := hlt
      rw [List.getD_eq_getElem?_getD, List.getElem?_eq_getElem hj5]; exact List.getElem_mem hj5
    refine name_turn (s := { s with heap := h3, toks := tk3, gens := gs }) Ev f C T h9 hpo hu x3 n3 hm3 hmem fun h4 tk4 gs4 k4 x4 => ?_
    have ne73 : ∀ b, Sp L b → b ≠ 73 := fun b sb => sb.1
    refine ⟨5 + 1 - (j + 1), by omega, h4, tk4, gs4, j + 1, rfl, fun b o sb e => k4 b o sb.1 (k3 b o sb.2.1 (hs2.extBut b o (Nat.ne_of_lt (Nat.lt_of_lt_of_le (hDD ▸ Heap.lt_size e) hIs)) (k b o sb e))), x4, ?_, ?_, hlt, rfl⟩
    · obtain ⟨o, e, r⟩ := hit2; exact ⟨o, k4 _ _ sI.1 (k3 _ _ sI.2.1 e), r⟩
    · obtain ⟨o, e, r⟩ := hl; exact ⟨o, k4 _ _ sD.1 (k3 _ _ sD.2.1 (hs2.extBut _ _ hDI e)), r⟩
  · have : j = 5 := by omega
    subst this
    refine wpAny_pyNext_list_end hh hit hl (by exact Array.getElem?_eq_none (by rw [hwl]; exact Nat.le_refl _)) fun h2 he => ?_
    exact wpAny_execs_nil (hQ h2 tk gs (x.iter (s' := { s with heap := h, toks := tk, gens := gs }) hL h73 h80 xs (by rw [hDD]; exact hIs) sI k hit he tk))
/-- return _law_picked('{*}*', places) == [..] -/
theorem ret_last {s : Shared} {scope : Scope} {q1 q2 q3 q4 q5 q6 q7 q8 q9 q10 q11 q12 q13 q14 : Pos} {k1 k2 : Nat} {Q : Flow → Shared → Prop}
    (Ev : LEnv env L) (f : Fit A 320 400) (hh : A.handled = none) (C : Ctx w mean mg mb lo s0 L) (T : Tree ps) (h9 : ps.length ≤ 9) (hpo : ∀ p ∈ ps, TxtOk 30 p.path) (hu : A.units + 64 < cLine)
    (hsk : scope.kind = .function) (hsc : scope.names = [(Str.ofString ".0", .local), (Str.ofString "place", .local)])
    (x : OBet L s0 pl mgr tb pvs ps s)
    (hQ : ∀ h' tk gs, OBet L s0 pl mgr tb pvs ps { s with heap := h', toks := tk, gens := gs } → Q (.ret (.bool true)) { s with heap := h', toks := tk, gens := gs }) :
    wpAny (model prog w) A (exec (.Return (some (.Compare (.Call (.Name (Str.ofString "_law_picked") q1) [.Constant (.str (Str.ofString "{*}*")) k1 q2, .Name nPlaces q3] [] q4) [.Eq] [.ListComp (.Attribute (.Name (Str.ofString "place") q5) sNumber q6) [⟨.Name (Str.ofString "place") q7, .Subscript (.Name nPlaces q8) (.Slice (some (.Constant (.int 1) k2 q9)) none none q10) q11, [], 0⟩] scope q12] q13)) q14) env) Q E s := by
  have hL := C.L
  have h73 : 73 < L := hL ▸ Heap.lt_size C.T73
  have h80 : 80 < L := hL ▸ Heap.lt_size C.T80
  have hP1 := x.b.P.1
  refine wpAny_Return_some (wpAny_Compare1 ?_ rfl)
  refine Call_ (nm_glob (C.inK x.b.old) (C.top x.b.old) (ns_picked w) ?_ Ev.k Ev.gPi Ev.g) rfl
  refine callWith_K (C.inK x.b.old) (keep95 w) (args_cons (Constant_str (args_cons (nm_cell (s := { s with toks := s.toks + 1 }) Ev.k Ev.kP Ev.cP x.b.cP (args_nil ⟨C.inK x.b.old, ?_⟩)))))
  have x1 : OBet L s0 pl mgr tb pvs ps { s with heap := s.heap, toks := s.toks + 1 } := x.ext hL h73 h80 fun _ _ e => e
  refine picked_ev f C T h9 hpo x1 (prepA ⟨by decide +kernel, by decide +kernel⟩ (by decide +kernel)) fun D h2 tk3 gs2 ys sD hl2 hi2 k2 x2 => ?_
  rw [T.all] at hi2
  refine comp_list (cl := []) hh (closureFor_none (by rw [hsc]; decide +kernel)) hsk (by rw [hsc]; decide +kernel) (by rw [hsc]; decide +kernel) (by rw [hsc]; decide +kernel) ?_ (fun _ => rfl)
  refine wpAny_Subscript_list_slice (nm_cell Ev.k Ev.kP Ev.cP x2.b.cP ?_) (fun _ _ => rfl)
  refine evalPart_some_step (wpAny_Constant_int (evalPart_none_step ?_))
  refine ⟨pl, pvs.toArray, some 1, none, rfl, x2.b.li, by simp [hP1]; exact Nat.le_trans h9 (by decide), .int _ _, .none, ?_⟩
  have hsl : slicePick pvs.toArray (some 1) none none = (pvs.drop 1).toArray := by
    have := slicePick_from pvs.toArray 1 (by simp [hP1]; exact T.pos)
    simpa using this
  rw [hsl]
  generalize hH3 : Heap.push _ _ = H3
  have E3 : Ext h2 H3 := fun b o e => by rw [← hH3]; exact Heap.get?_push_of_some _ (Heap.get?_push_of_some _ e)
  have hl3 : H3.IsList (h2.objs.size + 1) (pvs.drop 1).toArray := ⟨_, by rw [← hH3]; rw [show h2.objs.size + 1 = (h2.push _).objs.size from (Heap.size_push ..).symm]; exact Heap.get?_push_size _ rfl, rfl, _, rfl⟩
  refine ⟨_, _, fun _ => true, fun i y => ∃ t, y = Value.int ((i + 1 : Nat) : Int) t, rfl, hl3, Nat.le_trans (show (pvs.drop 1).toArray.size ≤ 9 by simp [hP1]; omega) (by decide), ?_, ?_⟩
  · intro C' j s₂ mm hj hext hC hns hmx
    have hj' : j + 1 < ps.length := by simp [hP1] at hj; omega
    have e : (List.toArray (pvs.drop 1)).getD j Value.none = pvs.getD (j + 1) .none := by rw [← getD_drop]; simp
    rw [e] at hmx
    have P : PlaceAt (Sp L) s₂.heap (pvs.getD (j + 1) .none) ((j + 1 : Nat) : Int) (ps.getD (j + 1) p0) := (x2.b.P.2 (j + 1) hj').move fun b o _ e => hext b o (E3 b o e)
    refine ifs_nil ⟨rfl, keeps_refl _, fun _ => ?_⟩
    exact Attribute_Name_ (nm_local (genv := compEnvC _ _ _ _) hsk (lookup_relabel_local (by rw [hsc]; decide +kernel)) hns hmx (at_number P fun tk => ⟨⟨tk, rfl⟩, ⟨s₂.heap, _, rfl, fun _ _ e => e⟩⟩)) rfl
  intro D2 h4 tk5 ys2 hD2 hl4 hF hext
  rw [filter_all] at hF
  have hii := paired_ints (f := fun j => j + 1) hF
  refine eq_ints (let ⟨o, e, r⟩ := hl2; ⟨o, hext _ _ (E3 _ _ e), r⟩) hi2 hl4 hii hu ?_
  have heq : (List.map (fun (k : Nat) => (k : Int)) (List.map (fun i => i + 1) (List.range (ps.length - 1))) == List.map (fun (j : Nat) => ((j + 1 : Nat) : Int)) (List.range (List.drop 1 pvs).toArray.size)) = true := by
    simp [hP1, Function.comp_def]
  rw [heq]
  exact hQ h4 tk5 gs2 (x2.ext hL h73 h80 fun b o e => hext b o (E3 b o e))
end
end Mine
end

section
open PySem PySem.W PyProof.Rows PySem.Calls PySem.Spec
namespace Mine
section
variable {w : World} {A : Around} {E : Value → Shared → Prop} {env : Env} {L : Addr}
theorem mgr_c {s : Shared} {Q : Value → Shared → Prop} (f : Fit A 600 2000) (X : (KK w).In s.heap) (B : Bm s.heap) (hR : MgrEnd s Q) : wpAny (model prog w) A (call (.ref 67) []) Q E s := by
  obtain ⟨sl, hm⟩ := B
  exact wpAny_mono (E := fun _ _ => False) (f.wp (mgr0 s X sl hm Q hR)) (fun _ _ x => x) fun _ _ z => False.elim z
theorem ns_places (w : World) : nsIn (KK w) mainGlobals (Str.ofString "_law_places") = some (some (.ref 90)) := by kernel_rfl
theorem ns_mgr (w : World) : nsIn (KK w) mainGlobals (Str.ofString "HTTPPasswordMgr") = some (some (.ref 67)) := by kernel_rfl
theorem keep90 (w : World) : keepIn (KK w) (.ref 90) = true := by kernel_rfl
theorem keep67 (w : World) : keepIn (KK w) (.ref 67) = true := by kernel_rfl
/-- [1 if manager.is_suburi(('h', one.path), ('h', other.path)) is True else 0 for other in places] -/
theorem table_row {s : Shared} {cenv : Env} {scope : Scope} {av : Addr → Prop} {pl mgr c1 cM : Addr} {pvs : List Value} {ps : List Pl} {i : Nat} {Q : Value → Shared → Prop} {a1 a2 a3 a4 a5 a6 a7 a8 a9 a10 a11 a12 a13 a14 a15 a16 a17 a18 a19 : Pos} {k1 k2 k3 k4 k5 k6 k7 : Nat}
    (f : Fit A 320 400) (hh : A.handled = none) (hk : cenv.scope.kind = .function) (kP : cenv.kindOf nPlaces = some .cell) {cP : Addr} (lP : cenv.cells.lookup nPlaces = some cP) (kM : cenv.kindOf nManager = some .cell) (lM : cenv.cells.lookup nManager = some cM)
    (kO : cenv.kindOf nOne = some .cell) (lO : cenv.cells.lookup nOne = some c1) (hsk : scope.kind = .function) (hsc : scope.names = [(Str.ofString ".0", .local), (Str.ofString "other", .local), (nManager, .free), (nOne, .free)])
    (X : (KK w).In s.heap) (li : s.heap.IsList pl pvs.toArray) (P : PlacesAt av s.heap pvs ps) (M : MgrAt av s.heap mgr) (hP : s.heap.IsCell cP (some (.ref pl))) (hM : s.heap.IsCell cM (some (.ref mgr))) (hO : s.heap.IsCell c1 (some (pvs.getD i .none)))
    (hi : i < ps.length) (h9 : ps.length ≤ 9) (hpo : ∀ p ∈ ps, TxtOk 30 p.path) (hw : (a2.endLine == a12.line) = true)
    (hQ : ∀ D h' tk ys, s.heap.objs.size ≤ D → h'.IsList D ys → IntsAre ys.toList ((List.range ps.length).map fun k => tabV ps i k) → Ext s.heap h' → Q (.ref D) { s with heap := h', toks := tk }) :
    wpAny (model prog w) A (eval (.ListComp (.IfExp (.Compare (.Call (.Attribute (.Name nManager a1) sIsSub a2) [.Tuple [.Constant (.str sH) k1 a3, .Attribute (.Name nOne a4) sPath a5] k2 a6, .Tuple [.Constant (.str sH) k3 a7, .Attribute (.Name (Str.ofString "other") a8) sPath a9] k4 a10] [] a12) [.Is] [.Constant (.bool true) k5 a13] a14) (.Constant (.int 1) k6 a15) (.Constant (.int 0) k7 a16) a17)
      [⟨.Name (Str.ofString "other") a18, .Name nPlaces a19, [], 0⟩] scope a11) cenv) Q E s := by
  have hsz : pvs.toArray.size = ps.length := by simp [P.1]
  refine comp_list2 (cl := [(nOne, c1), (nManager, cM)]) hh (closure2 hsc lM lO) hsk (by rw [hsc]; decide +kernel) (by rw [hsc]; decide +kernel) (by rw [hsc]; decide +kernel) ?_ (fun _ => rfl)
  refine nm_cell hk kP lP hP ?_
  refine ⟨pl, pvs.toArray, fun _ => true, fun j y => ∃ t, y = Value.int (tabV ps i j) t, rfl, li, by rw [hsz]; exact Nat.le_trans h9 (by decide), ?_, ?_⟩
  · intro C' j s₂ mm hj hext hC hns hmx
    rw [hsz] at hj
    have e : pvs.toArray.getD j Value.none = pvs.getD j .none := by simp
    rw [e] at hmx
    have P2 : PlacesAt av s₂.heap pvs ps := P.move fun b o _ e => hext b o e
    refine ifs_nil ⟨rfl, keeps_refl _, fun _ => ?_⟩
    refine IfExp_ (wpAny_isTrue_Compare1 ?_ rfl)
    refine suburi_ev (av := av) (mgr := mgr) (p := (ps.getD i p0).path) (q := (ps.getD j p0).path) (f.mono (by decide) (by decide)) ((Ext.keep hext).inK X) (M.move fun b o _ e => hext b o e)
      (fun Q' hQ' => nm_cell (genv := compEnvC _ _ _ _) hsk (relabel_cell (scope := scope) hk kM (by rw [hsc]; decide +kernel)) rfl (hM.keeps hext) hQ')
      (fun s' Q' K hQ' => ?e1) (fun s' Q' K hQ' => ?e2) (by decide +kernel) (by decide +kernel) ((getD_ok hpo i).mono (by decide)) ((getD_ok hpo j).mono (by decide)) (fun s4 K4 => ?_) rfl rfl rfl rfl rfl hw
    case e1 =>
      obtain ⟨h', tk', rfl, hk'⟩ := K
      exact Attribute_Name_ (nm_cell (genv := compEnvC _ _ _ _) hsk (relabel_cell (scope := scope) hk kO (by rw [hsc]; decide +kernel)) rfl ((hO.keeps hext).keeps hk') (at_path ((P2.2 i hi).move fun b o _ e => hk' b o e) fun t => hQ' _ _ ⟨h', _, rfl, fun _ _ e => e⟩)) rfl
    case e2 =>
      obtain ⟨h', tk', rfl, hk'⟩ := K
      exact Attribute_Name_ (nm_local (genv := compEnvC _ _ _ _) hsk (lookup_relabel_local (by rw [hsc]; decide +kernel)) (hns.keeps hk') hmx (at_path ((P2.2 j hj).move fun b o _ e => hk' b o e) fun t => hQ' _ _ ⟨h', _, rfl, fun _ _ e => e⟩)) rfl
    obtain ⟨h', tk', rfl, hk'⟩ := K4
    refine Constant_bool (is_bool (wpAny_truthy_bool ?_))
    have eb : ∀ b : Bool, (b == true) = b := fun b => by cases b <;> rfl
    rw [eb]
    cases hz : subV sH (ps.getD i p0).path sH (ps.getD j p0).path with
    | true =>
      have : tabV ps i j = 1 := by unfold tabV; rw [if_pos hz]
      rw [if_pos rfl]
      exact wpAny_Constant_int ⟨⟨_, by rw [this]⟩, ⟨h', _, rfl, hk'⟩⟩
    | false =>
      have : tabV ps i j = 0 := by unfold tabV; rw [if_neg (by rw [hz]; exact Bool.false_ne_true)]
      rw [if_neg Bool.false_ne_true]
      exact wpAny_Constant_int ⟨⟨_, by rw [this]⟩, ⟨h', _, rfl, hk'⟩⟩
  · intro D h' tk ys hD hl' hF hext
    rw [hsz, filter_all] at hF
    exact hQ D h' tk ys hD hl' (paired_intsI hF) hext
theorem closureT {scope : Scope} {env : Env} {x y z : Str} {c d : Addr} (hs : scope.names = [(Str.ofString ".0", .local), (x, .cell), (y, .free), (z, .free)]) (hc : env.cells.lookup y = some c) (hd : env.cells.lookup z = some d) : closureFor scope env = pure [(z, d), (y, c)] := by
  unfold closureFor
  rw [hs]
  have h1 : cellOf env y = pure c := by unfold cellOf; rw [hc]
  have h2 : cellOf env z = pure d := by unfold cellOf; rw [hd]
  simp [h1, h2]
/-- the whole table -/
theorem table_ev {s : Shared} {scope scope1 : Scope} {av : Addr → Prop} {pl mgr : Addr} {pvs : List Value} {ps : List Pl} {Q : Value → Shared → Prop} {a1 a2 a3 a4 a5 a6 a7 a8 a9 a10 a11 a12 a13 a14 a15 a16 a17 a18 a19 b1 b2 b3 : Pos} {k1 k2 k3 k4 k5 k6 k7 : Nat}
    (f : Fit A 320 400) (hh : A.handled = none) (Ev : LEnv env L) (hsk : scope.kind = .function) (hsc : scope.names = [(Str.ofString ".0", .local), (Str.ofString "other", .local), (nManager, .free), (nOne, .free)])
    (hsk1 : scope1.kind = .function) (hsc1 : scope1.names = [(Str.ofString ".0", .local), (nOne, .cell), (nManager, .free), (nPlaces, .free)])
    (X : (KK w).In s.heap) (li : s.heap.IsList pl pvs.toArray) (P : PlacesAt av s.heap pvs ps) (M : MgrAt av s.heap mgr) (hP : s.heap.IsCell (L + 1) (some (.ref pl))) (hM : s.heap.IsCell (L + 2) (some (.ref mgr)))
    (h9 : ps.length ≤ 9) (hpo : ∀ p ∈ ps, TxtOk 30 p.path) (hw : (a2.endLine == a12.line) = true)
    (hQ : ∀ D h' tk rows, s.heap.objs.size ≤ D → h'.IsList D rows → (∀ i, i < ps.length → ∃ r vs, rows[i]? = some (.ref r) ∧ s.heap.objs.size ≤ r ∧ h'.IsList r vs ∧ IntsAre vs.toList ((List.range ps.length).map fun k => tabV ps i k)) → Ext s.heap h' → Q (.ref D) { s with heap := h', toks := tk }) :
    wpAny (model prog w) A (eval (.ListComp (.ListComp (.IfExp (.Compare (.Call (.Attribute (.Name nManager a1) sIsSub a2) [.Tuple [.Constant (.str sH) k1 a3, .Attribute (.Name nOne a4) sPath a5] k2 a6, .Tuple [.Constant (.str sH) k3 a7, .Attribute (.Name (Str.ofString "other") a8) sPath a9] k4 a10] [] a12) [.Is] [.Constant (.bool true) k5 a13] a14) (.Constant (.int 1) k6 a15) (.Constant (.int 0) k7 a16) a17)
      [⟨.Name (Str.ofString "other") a18, .Name nPlaces a19, [], 0⟩] scope a11) [⟨.Name nOne b1, .Name nPlaces b2, [], 0⟩] scope1 b3) env) Q E s := by
  have hsz : pvs.toArray.size = ps.length := by simp [P.1]
  have lkP : ∀ C, (compEnvC scope1 [(nOne, C + 1), (nPlaces, L + 1), (nManager, L + 2)] C env).kindOf nPlaces = some .cell := fun C => relabel_cell (scope := scope1) Ev.k Ev.kP (by rw [hsc1]; decide +kernel)
  have lkM : ∀ C, (compEnvC scope1 [(nOne, C + 1), (nPlaces, L + 1), (nManager, L + 2)] C env).kindOf nManager = some .cell := fun C => relabel_cell (scope := scope1) Ev.k Ev.kM (by rw [hsc1]; decide +kernel)
  have lkO : (relabel scope1 env).names.lookup nOne = some .cell := by
    unfold relabel
    rw [hsc1]
    simp only [List.map_cons, List.map_nil]
    have e0 : (nOne == Str.ofString ".0") = false := by decide +kernel
    simp [List.lookup, e0]
  refine comp_listC (cl := [(nPlaces, L + 1), (nManager, L + 2)]) hh (closureT hsc1 Ev.cM Ev.cP) hsk1 (by rw [hsc1]; decide +kernel) (fun n => by rw [hsc1]; rfl) (fun h => by rw [hsc1]; rfl) lkO hsk1 ?_ (fun _ => rfl)
  refine nm_cell Ev.k Ev.kP Ev.cP hP ?_
  refine ⟨pl, pvs.toArray, fun i vs => IntsAre vs.toList ((List.range ps.length).map fun k => tabV ps i k), rfl, li, by rw [hsz]; exact Nat.le_trans h9 (by decide), ?_, ?_⟩
  · intro C' j s₂ hj hk hC1 hC2 hc
    rw [hsz] at hj
    have e : pvs.toArray.getD j Value.none = pvs.getD j .none := by simp
    rw [e] at hc
    have k2 : Ext s.heap s₂.heap := fun b o e => hk b o (Heap.lt_size e) e
    refine table_row (av := av) f hh hsk1 (lkP C') rfl (lkM C') rfl lkO (by show List.lookup nOne ((nOne, C' + 1) :: _) = _; simp) hsk hsc ((Ext.keep k2).inK X) ((Ext.keep k2).list li) (P.move fun b o _ e => k2 b o e) (M.move fun b o _ e => k2 b o e) (hP.keeps k2) (hM.keeps k2) hc hj h9 hpo hw fun D h' tk ys hD hl' hi' E' => ?_
    exact ⟨D, ys, rfl, hD, hl', hi', ⟨h', tk, rfl, E'⟩⟩
  · intro D h' tk ys hD hl' hF hext
    rw [hsz] at hF
    refine hQ D h' tk ys hD hl' (fun i hi => ?_) hext
    have hlen := hF.length
    rw [List.length_range] at hlen
    have : ∀ {l : List Nat} {zs : List Value} {F : Nat → Value → Prop}, Paired F l zs → ∀ i (hi : i < l.length), ∃ y, zs[i]? = some y ∧ F l[i] y := by
      intro l zs F h
      induction h with
      | nil => intro i hi; exact absurd hi (Nat.not_lt_zero _)
      | cons a r ih =>
        intro i hi
        cases i with
        | zero => exact ⟨_, rfl, a⟩
        | succ i => obtain ⟨y, e, z⟩ := ih i (Nat.lt_of_succ_lt_succ hi); exact ⟨y, by simpa using e, by simpa using z⟩
    obtain ⟨y, ey, r, vs, rfl, hr, hlr, hir⟩ := this hF i (by rw [List.length_range]; exact hi)
    rw [List.getElem_range] at hir
    exact ⟨r, vs, by rw [← Array.getElem?_toList]; exact ey, hr, hlr, hir⟩
end
end Mine
end

section
open PySem PySem.W PyProof.Rows PySem.Calls PySem.Spec
namespace Mine
theorem swaps_cell {elt : PySem.Expr} {gs : List Comprehension} {sc : Scope} {p q : Pos} {t : Str} {line : Nat} {env : Env} (h : env.kindOf t = some .cell) : swapsWith (.ListComp elt gs sc p) (some (.Name t q)) line env = pure false := by
  unfold swapsWith
  have e : (NameKind.cell == NameKind.local) = false := by decide
  simp [h, e]
theorem law0 {w : World} {mean : ExcName → Option Value} {mg mb : Str → Option Value} {lo : List Str} (s : Shared) (X : (KK w).In s.heap) (B : Bm s.heap) (T73 : s.heap.get? 73 = some (tabObj #[])) (T80 : s.heap.get? 80 = some (tabObj #[]))
   (TT : Top topProg lo mean mg mb (hideAll s.heap [73, 80])) (nl : Addr) (vs : List Value) (ns : List Int) (hl : s.heap.IsList nl vs.toArray) (hi : IntsAre vs ns) (hn : ns.length ≤ 63) (hg : s.gens = #[])
   (R : Result → Shared → Prop)
   (hR : ∀ h' tk gs, (∀ b o, b ≠ 73 → b ≠ 80 → s.heap.get? b = some o → h'.get? b = some o) → (∃ qs, h'.get? 73 = some (tabObj qs)) → (∃ qs, h'.get? 80 = some (tabObj qs)) → AllBare gs → R (.ok (.ret (.bool true))) { s with heap := h', toks := tk, gens := gs })
    : codeAny (model prog w) (AB 310 300) (.call (.ref 105) ⟨[.ref nl], []⟩) R s := by
   have hlim := noLimit X
   have X0 := X
   revert X
   dsimp only [prog, KK]
   k_fill
   intro X
   refine' enterC (K := TP.heap_39 w.params) [(Str.ofString "script", .ref nl)] X hlim ?ho ?hcd (by decide) ?hbind ?hkind ?hnd ?h ?c2 ?c3 ?c4
   case ho => k_is
   case hcd => k_is
   case hbind => exact rfl
   case hkind =>
     intro x hx
     simp only [List.mem_cons, List.not_mem_nil, or_false] at hx
     subst hx
     exact .inl rfl
   case hnd => decide +kernel
   case c2 => exact rfl
   case c3 => exact rfl
   case c4 => exact rfl
   intro L h1 tk1 cells hL F N C
   cases C with | cons d1 C => ?_
   cases C with | cons d2 C => ?_
   cases C with | cons d3 C => ?_
   cases C with | cons d4 C => ?_
   cases C with | cons d5 C => ?_
   cases C
   have h73 : 73 < L := hL ▸ Heap.lt_size T73
   have h80 : 80 < L := hL ▸ Heap.lt_size T80
   have CX : Ctx w mean mg mb lo s.heap L := ⟨X0, B, T73, T80, TT, hL⟩
   have O1 : Old s.heap h1 := fun b o _ _ e => F.keep b o e
   have c1 : h1.IsCell (L + 1) none := ⟨_, (N _ (.tail _ (.tail _ (.tail _ (.tail _ (.head _)))))).1, d5⟩
   have c2 : h1.IsCell (L + 2) none := ⟨_, (N _ (.tail _ (.tail _ (.tail _ (.head _))))).1, d4⟩
   have c3 : h1.IsCell (L + 3) none := ⟨_, (N _ (.tail _ (.tail _ (.head _)))).1, d3⟩
   have c4 : h1.IsCell (L + 4) none := ⟨_, (N _ (.tail _ (.head _))).1, d2⟩
   have c5 : h1.IsCell (L + 5) none := ⟨_, (N _ (.head _)).1, d1⟩
   obtain ⟨m1, hm1, n1⟩ : ∃ m, m (Str.ofString "script") = some (.ref nl) ∧ h1.Ns L m := ⟨_, rfl, F.ns⟩
   have hl1 : h1.IsList nl vs.toArray := (Ext.keep F.keep).list hl
   have t73 : h1.get? 73 = some (tabObj #[]) := F.keep _ _ T73
   have t80 : h1.get? 80 = some (tabObj #[]) := F.keep _ _ T80
   clear F N d1 d2 d3 d4 d5
   generalize hA : (AB 310 300).deeper _ = A
   have fA : Fit A 320 400 := by rw [← hA]; exact ⟨rfl, by show 311 ≤ 320; decide, by show 303 ≤ 400; decide⟩
   have hh : A.handled = none := by rw [← hA]; rfl
   have hu : A.units + 64 < cLine := by rw [← hA]; exact Nat.le_of_ble_eq_true rfl
   generalize hE : envOfC (Str.ofString "law") _ L 105 _ = env
   have Ev : LEnv env L := by rw [← hE]; exact ⟨rfl, rfl, rfl, rfl, rfl, rfl, rfl, rfl, rfl, rfl, rfl, rfl, rfl, rfl, rfl, rfl, rfl, rfl, rfl, rfl, rfl, rfl⟩
   have kS : env.kindOf (Str.ofString "script") = some .local := by rw [← hE]; rfl
   have gP : env.kindOf (Str.ofString "_law_places") = some .globalImplicit := by rw [← hE]; rfl
   have gM : env.kindOf (Str.ofString "HTTPPasswordMgr") = some .globalImplicit := by rw [← hE]; rfl
   clear hA hE
   have lt5 : ∀ j : Nat, 73 ≠ L + j ∧ 80 ≠ L + j := fun j => ⟨Nat.ne_of_lt (Nat.lt_of_lt_of_le h73 (Nat.le_add_right _ _)), Nat.ne_of_lt (Nat.lt_of_lt_of_le h80 (Nat.le_add_right _ _))⟩
   have ne : ∀ a b : Nat, a ≠ b → L + a ≠ L + b := fun a b h q => h (Nat.add_left_cancel q)
   have lts : ∀ b o, s.heap.get? b = some o → ∀ j : Nat, b ≠ L + j := fun b o e j => Nat.ne_of_lt (Nat.lt_of_lt_of_le (hL ▸ Heap.lt_size e) (Nat.le_add_right _ _))
   -- places = _law_places(script[:4])
   refine wpAny_execs_cons (wpAny_Assign_Name (Call_ (nm_glob (CX.inK O1) (CX.top O1) (ns_places w) ?_ Ev.k gP Ev.g) rfl) rfl)
   refine callWith_K (CX.inK O1) (keep90 w) (args_cons (wpAny_Subscript_list_slice (nm_local Ev.k kS (by rw [Ev.l]; exact n1) hm1 ?_) (fun _ _ => rfl)))
   refine evalPart_none_step (evalPart_some_step (wpAny_Constant_int ⟨nl, vs.toArray, none, some 4, rfl, hl1, ?_, .none, .int _ _, args_nil ?_⟩))
   · rw [List.size_toArray, hi.length]; exact Nat.le_trans hn (by decide)
   generalize hH2 : Heap.push _ _ = H2
   have E2 : Ext h1 H2 := fun b o e => by rw [← hH2]; exact Heap.get?_push_of_some _ (Heap.get?_push_of_some _ e)
   have hl2 : H2.IsList (h1.objs.size + 1) (slicePick vs.toArray none (some 4) none).toList.toArray := by
     refine ⟨{ cls := .type "list", data := .seq (slicePick vs.toArray none (some 4) none) }, ?_, rfl, 0, by simp⟩
     rw [← hH2, show h1.objs.size + 1 = (h1.push _).objs.size from (Heap.size_push ..).symm]; exact Heap.get?_push_size _ rfl
   have O2 : Old s.heap H2 := fun b o h1 h2 e => E2 b o (O1 b o h1 h2 e)
   refine ⟨CX.inK O2, wpAny_call (Fit.code (d := 500) (u := 1500) (fA.mono (by decide) (by decide)) (places0 _ (CX.inK O2) (CX.bm O2) (Tab80.of (E2 _ _ t80)) (CX.top8 O2) _ _ (ns.take 4) _ hl2 (slice_ints_uptoW hi (by decide)) (by rw [List.length_take]; exact Nat.min_le_left _ _) ?_))⟩
   intro pl pvs h3 tk3 K3 T3 hp3 fp3 P3
   generalize hps : buildP (ns.take 4) = ps at P3
   have TR : Tree ps := hps ▸ tree_build _
   obtain ⟨h9, hpo⟩ : ps.length ≤ 9 ∧ ∀ p ∈ ps, TxtOk 30 p.path := hps ▸ build_len _ (by rw [List.length_take]; exact Nat.min_le_left _ _)
   have K3 : K80 H2 h3 := K3
   have fp3 : H2.get? pl = none := fp3
   have P3 : PlacesAt (fun b => H2.get? b = none) h3 pvs ps := P3
   have hP1 := P3.1
   dsimp only
   have fr : ∀ b, H2.get? b = none → Sp L b ∧ b ≠ L + 1 ∧ b ≠ L + 2 ∧ b ≠ L + 4 ∧ b ≠ 80 := fun b hb => by
     have go : ∀ a o, h1.get? a = some o → b ≠ a := fun a o e q => by subst q; rw [E2 _ _ e] at hb; cases hb
     obtain ⟨_, es, ep, eL, _⟩ := n1
     obtain ⟨_, g1, _⟩ := c1; obtain ⟨_, g2, _⟩ := c2; obtain ⟨_, g3, _⟩ := c3; obtain ⟨_, g4, _⟩ := c4; obtain ⟨_, g5, _⟩ := c5
     exact ⟨⟨go _ _ t73, go _ _ eL, go _ _ g3, go _ _ g5⟩, go _ _ g1, go _ _ g2, go _ _ g4, go _ _ t80⟩
   have k13 : ∀ b o, b ≠ 80 → h1.get? b = some o → h3.get? b = some o := fun b o hb e => K3 b o (E2 b o e) hb
   -- stored
   refine wpAny_storeName_cell Ev.k Ev.kP Ev.cP (v₀ := none) (let ⟨o, e, r⟩ := c1; ⟨o, k13 _ _ (Ne.symm (lt5 1).2) e, r⟩) fun h4 hc4 hs4 => ?_
   dsimp only
   have k14 : ∀ b o, b ≠ 80 → b ≠ L + 1 → h1.get? b = some o → h4.get? b = some o := fun b o h8 h1 e => hs4.extBut b o h1 (k13 b o h8 e)
   have li4 : h4.IsList pl pvs.toArray := let ⟨o, e, r⟩ := hp3.list; ⟨o, hs4.extBut _ _ (fr pl fp3).2.1 e, r⟩
   have P4 : PlacesAt (fun b => H2.get? b = none) h4 pvs ps := P3.move fun b o hb e => hs4.extBut b o (fr b hb).2.1 e
   have O4 : Old s.heap h4 := fun b o h7 h8 e => k14 b o h8 (lts b o e 1) (O1 b o h7 h8 e)
   have T4 : Tab80 h4 := T3.mv fun o e => hs4.extBut _ _ (lt5 1).2 e
   -- manager = HTTPPasswordMgr()
   refine wpAny_execs_cons (wpAny_Assign_Name (Call_ (nm_glob (CX.inK O4) (CX.top O4) (ns_mgr w) ?_ Ev.k gM Ev.g) rfl) rfl)
   refine callWith_K0 (CX.inK O4) (keep67 w) (mgr_c (fA.mono (by decide) (by decide)) (CX.inK O4) (CX.bm O4) fun mgr h5 tk5 E5 M5 => ?_)
   have E5 : Ext h4 h5 := E5
   have fm : ∀ b, h4.get? b = none → Sp L b ∧ b ≠ L + 1 ∧ b ≠ L + 2 ∧ b ≠ L + 4 := fun b hb => by
     have go : ∀ a o, h1.get? a = some o → a ≠ 80 → a ≠ L + 1 → b ≠ a := fun a o e h8 h1 q => by subst q; rw [k14 _ _ h8 h1 e] at hb; cases hb
     obtain ⟨_, es, ep, eL, _⟩ := n1
     obtain ⟨_, g2, _⟩ := c2; obtain ⟨_, g3, _⟩ := c3; obtain ⟨_, g4, _⟩ := c4; obtain ⟨_, g5, _⟩ := c5
     refine ⟨⟨go _ _ t73 (by decide) (lt5 1).1, go _ _ eL (Ne.symm (lt5 0).2) (ne 0 1 (by decide)), go _ _ g3 (Ne.symm (lt5 3).2) (ne 3 1 (by decide)), go _ _ g5 (Ne.symm (lt5 5).2) (ne 5 1 (by decide))⟩, ?_, go _ _ g2 (Ne.symm (lt5 2).2) (ne 2 1 (by decide)), go _ _ g4 (Ne.symm (lt5 4).2) (ne 4 1 (by decide))⟩
     intro q; obtain ⟨_, e, _⟩ := hc4; rw [q, e] at hb; cases hb
   have M5 : MgrAt (fun b => h4.get? b = none) h5 mgr := M5
   refine wpAny_storeName_cell Ev.k Ev.kM Ev.cM (v₀ := none) (let ⟨o, e, r⟩ := c2; ⟨o, E5 _ _ (k14 _ _ (Ne.symm (lt5 2).2) (ne 2 1 (by decide)) e), r⟩) fun h6 hc6 hs6 => ?_
   dsimp only
   have k46 : ∀ b o, b ≠ L + 2 → h4.get? b = some o → h6.get? b = some o := fun b o h2 e => hs6.extBut b o h2 (E5 b o e)
   have k16 : ∀ b o, b ≠ 80 → b ≠ L + 1 → b ≠ L + 2 → h1.get? b = some o → h6.get? b = some o := fun b o h8 h1 h2 e => k46 b o h2 (k14 b o h8 h1 e)
   have O6 : Old s.heap h6 := fun b o h7 h8 e => k46 b o (lts b o e 2) (O4 b o h7 h8 e)
   have li6 : h6.IsList pl pvs.toArray := let ⟨o, e, r⟩ := li4; ⟨o, k46 _ _ (fr pl fp3).2.2.1 e, r⟩
   have P6 : PlacesAt (Sp L) h6 pvs ps := (P4.move fun b o hb e => k46 b o (fr b hb).2.2.1 e).mono fun b hb => (fr b hb).1
   have P6' : PlacesAt (fun b => H2.get? b = none) h6 pvs ps := P4.move fun b o hb e => k46 b o (fr b hb).2.2.1 e
   have M6' : MgrAt (fun b => h4.get? b = none) h6 mgr := M5.move fun b o hb e => hs6.extBut b o (fm b hb).2.2.1 e
   have M6 : MgrAt (Sp L) h6 mgr := M6'.mono fun b hb => (fm b hb).1
   have cP6 : h6.IsCell (L + 1) (some (.ref pl)) := let ⟨o, e, r⟩ := hc4; ⟨o, k46 _ _ (ne 1 2 (by decide)) e, r⟩
   have T6 : Tab80 h6 := T4.mv fun o e => k46 _ _ (lt5 2).2 e
   -- table = [[..] ..]
   refine wpAny_execs_cons (wpAny_Assign_Name (table_ev (av := Sp L) fA hh Ev rfl rfl rfl rfl (CX.inK O6) li6 P6 M6 cP6 hc6 h9 hpo rfl fun D h7 tk7 rows hD hl7 hrows E7 => ?_) (swaps_cell Ev.kT))
   have E7 : Ext h6 h7 := E7
   have fs : ∀ b, h6.objs.size ≤ b → Sp L b ∧ b ≠ L + 4 := fun b hb => by
     have go : ∀ a o, h1.get? a = some o → a ≠ 80 → a ≠ L + 1 → a ≠ L + 2 → b ≠ a := fun a o e h8 h1 h2 => Nat.ne_of_gt (Nat.lt_of_lt_of_le (Heap.lt_size (k16 _ _ h8 h1 h2 e)) hb)
     obtain ⟨_, es, ep, eL, _⟩ := n1
     obtain ⟨_, g3, _⟩ := c3; obtain ⟨_, g4, _⟩ := c4; obtain ⟨_, g5, _⟩ := c5
     exact ⟨⟨go _ _ t73 (by decide) (lt5 1).1 (lt5 2).1, go _ _ eL (Ne.symm (lt5 0).2) (ne 0 1 (by decide)) (ne 0 2 (by decide)), go _ _ g3 (Ne.symm (lt5 3).2) (ne 3 1 (by decide)) (ne 3 2 (by decide)), go _ _ g5 (Ne.symm (lt5 5).2) (ne 5 1 (by decide)) (ne 5 2 (by decide))⟩, go _ _ g4 (Ne.symm (lt5 4).2) (ne 4 1 (by decide)) (ne 4 2 (by decide))⟩
   refine wpAny_storeName_cell Ev.k Ev.kT Ev.cT (v₀ := none) (let ⟨o, e, r⟩ := c4; ⟨o, E7 _ _ (k16 _ _ (Ne.symm (lt5 4).2) (ne 4 1 (by decide)) (ne 4 2 (by decide)) e), r⟩) fun h8 hc8 hs8 => ?_
   dsimp only
   have k68 : ∀ b o, b ≠ L + 4 → h6.get? b = some o → h8.get? b = some o := fun b o h4 e => hs8.extBut b o h4 (E7 b o e)
   have k18 : ∀ b o, b ≠ 80 → b ≠ L + 1 → b ≠ L + 2 → b ≠ L + 4 → h1.get? b = some o → h8.get? b = some o := fun b o h8 h1 h2 h4 e => k68 b o h4 (k16 b o h8 h1 h2 e)
   have hD' : h6.objs.size ≤ D := hD
   have x8 : OBet L s.heap pl mgr D pvs ps { s with heap := h8, toks := tk7 } := by
     refine ⟨⟨fun b o h7 h8 e => k68 b o (lts b o e 4) (O6 b o h7 h8 e), ?_, ?_, ?_, (fr pl fp3).1, ?_, ?_, ?_, hc8, ?_, ?_⟩, ?_, ?_, ?_, ?_⟩
     · exact ⟨#[], k18 _ _ (by decide) (lt5 1).1 (lt5 2).1 (lt5 4).1 t73, trivial, fun pos v q => by cases q⟩
     · obtain ⟨qs, e, _⟩ := T6; exact ⟨qs, k68 _ _ (lt5 4).2 e⟩
     · obtain ⟨o, e, r⟩ := li6; exact ⟨o, k68 _ _ (fr pl fp3).2.2.2.1 e, r⟩
     · exact (P6'.move fun b o hb e => k68 b o (fr b hb).2.2.2.1 e).mono fun b hb => (fr b hb).1
     · obtain ⟨o, e, r⟩ := cP6; exact ⟨o, k68 _ _ (ne 1 4 (by decide)) e, r⟩
     · obtain ⟨o, e, r⟩ := hc6; exact ⟨o, k68 _ _ (ne 2 4 (by decide)) e, r⟩
     · exact (M6'.move fun b o hb e => k68 b o (fm b hb).2.2.2 e).mono fun b hb => (fm b hb).1
     · refine ⟨rows, hl7.extBut hs8.extBut (fs D hD').2, (fs D hD').1, fun i hi => ?_⟩
       obtain ⟨r, vs', e1, hr, hlr, hir⟩ := hrows i hi
       exact ⟨r, vs', e1, (fs r hr).1, hlr.extBut hs8.extBut (fs r hr).2, hir⟩
     · obtain ⟨o, es, ep, e, r⟩ := n1; exact ⟨m1, o, es, ep, k18 _ _ (Ne.symm (lt5 0).2) (ne 0 1 (by decide)) (ne 0 2 (by decide)) (ne 0 4 (by decide)) e, r⟩
     · obtain ⟨o, e, r⟩ := c3; exact ⟨none, o, k18 _ _ (Ne.symm (lt5 3).2) (ne 3 1 (by decide)) (ne 3 2 (by decide)) (ne 3 4 (by decide)) e, r⟩
     · obtain ⟨o, e, r⟩ := c5; exact ⟨none, o, k18 _ _ (Ne.symm (lt5 5).2) (ne 5 1 (by decide)) (ne 5 2 (by decide)) (ne 5 4 (by decide)) e, r⟩
     · exact AllBare.of_eq hg
   -- the loops, the last line
   refine wpAny_execs_cons (one_loop (s := { s with heap := h8, toks := tk7 }) Ev hh CX (fun i s' Q' E' hi' x' ho' hQ' => ?body) x8 fun h9' tk9 gs9 x9 => ?_)
   case body =>
     refine one_turn (s := s') Ev fA hh CX TR h9 hpo hu rfl rfl x' ho' hi' (fun pk us hip k tk0 s2 m2 Q2 E2 hk2 xk hQ2 => ?_) hQ'
     exact k_turn Ev fA hh CX TR h9 hpo rfl rfl xk hip hi' hk2 rfl rfl hQ2
   dsimp only
   refine wpAny_execs_cons (name_loop (s := { s with heap := h9', toks := tk9, gens := gs9 }) Ev fA hh CX TR h9 hpo hu x9 fun h10 tk10 gs10 x10 => ?_)
   dsimp only
   refine wpAny_execs_cons (ret_last (s := { s with heap := h10, toks := tk10, gens := gs10 }) Ev fA hh CX TR h9 hpo hu rfl rfl x10 fun h11 tk11 gs11 x11 => ?_)
   dsimp only
   exact hR h11 tk11 gs11 x11.b.old (let ⟨qs, e, _⟩ := x11.b.t73; ⟨qs, e⟩) x11.b.t80 x11.g
end Mine
end

open PySem PySem.W PyProof.Rows PySem.Calls PySem.Spec
namespace Mine
theorem oldK_of {h h' : Heap} (hT : TabsAt [(77, 73), (84, 80)] h) (k : ∀ b o, b ≠ 73 → b ≠ 80 → h.get? b = some o → h'.get? b = some o) (t73 : ∃ qs, h'.get? 73 = some (tabObj qs)) (t80 : ∃ qs, h'.get? 80 = some (tabObj qs)) : OldK h h' := by
  have a := hT (77, 73) (.head _)
  have b := hT (84, 80) (.tail _ (.head _))
  have i73 : isCodeTable h 73 := (a.1.tab a.2).isCodeTable
  have i80 : isCodeTable h 80 := (b.1.tab b.2).isCodeTable
  refine ⟨fun x o e => ?_, fun x o e => ?_⟩
  · by_cases h1 : x = 73
    · subst h1
      obtain ⟨qs, q⟩ := t73
      have e2 := a.2
      rw [e] at e2
      cases Option.some.inj e2
      exact .inr (.inl ⟨i73, rfl, #[], qs, rfl, by rw [Array.empty_append]; exact q⟩)
    · by_cases h2 : x = 80
      · subst h2
        obtain ⟨qs, q⟩ := t80
        have e2 := b.2
        rw [e] at e2
        cases Option.some.inj e2
        exact .inr (.inl ⟨i80, rfl, #[], qs, rfl, by rw [Array.empty_append]; exact q⟩)
      · exact .inl (k x o h1 h2 e)
  · by_cases h1 : x = 73
    · subst h1; obtain ⟨qs, q⟩ := t73; exact ⟨_, q⟩
    · by_cases h2 : x = 80
      · subst h2; obtain ⟨qs, q⟩ := t80; exact ⟨_, q⟩
      · exact ⟨o, k x o h1 h2 e⟩
theorem ns_law (w : World) : nsIn (KK w) mainGlobals (Str.ofString "law") = some (some (.ref 105)) := by kernel_rfl
theorem ns_bi (w : World) : nsIn (KK w) mainGlobals (Str.ofString "__builtins__") = some (some (.ref 4)) := by kernel_rfl
theorem bm_of {w : World} {p : Program} {lo : List Str} {mean : ExcName → Option Value} {mg mb : Str → Option Value} {h : Heap} (X : (KK w).In h) (T : Top p lo mean mg mb h) : Bm h := by
  obtain ⟨bm, ob, e, _, g, c, d, dt⟩ := T.bmain
  have e2 := mg_of X T.g (ns_bi w)
  have : bm = 4 := by
    have e3 := e.symm.trans e2
    cases e3
    rfl
  subst this
  obtain ⟨cl, di, da, sl⟩ := ob
  cases c; cases d; cases dt
  exact ⟨sl, g⟩
end Mine
set_option maxRecDepth 100000 in
set_option maxHeartbeats 8000000 in
theorem PySem.Challenge.cw_pg0106_01_holds : PySem.Challenge.rw_pg0106_01.Holds := by
  refine Mine.TP ?_
  k_fill
  intro w s₀ s₁ mg mb G Y fa o pm cd doc dV kV ho hd hcd hD hmg hg args vals as hpre hlay hrd hwl hlo
  have KX := km_in_of Y
  km_tabs Y
  have hmg' := hmg
  refine Ground.open G ?_
  intro T B D TE TW
  try (refine guard_noD D (by decide +kernel) ?_; clear D)
  km_lay T hmg ho hd cd
  have hT9' := hT9
  wrow_args hpre hlay hrd hwl hlo
  all_goals (first | refine callC_kw (enter_call ?_) | refine enter_call ?_)
  have efa : fa = 105 := by
    have e := mg_of (K := Mine.KK w) KX T.g (Mine.ns_law w)
    have e2 := hmg'.symm.trans e
    cases e2
    rfl
  subst efa
  rename IntsAre _ _ => hI
  rename Heap.IsList _ _ _ => hL
  have hLim : s₁.heap.NoLimit := T.nolimit
  refine (⟨rfl, by decide +kernel, by decide +kernel⟩ : Mine.Fit callerA 310 300).code (Mine.law0 s₁ KX (Mine.bm_of KX T) (hT9' (77, 73) (.head _)).2 (hT9' (84, 80) (.tail _ (.head _))).2 (ghost_top hT9' T) _ _ _ hL hI (by omega) hg _ fun h' tk gs k t73 t80 hb => ?_)
  refine ⟨.inl ⟨.bool true, .bool true, [], rfl, fun _ => rfl, .bool _, ?_, fun _ => ⟨List.nodup_nil, fun a ha => by cases ha⟩⟩, Mine.oldK_of hT9' k t73 t80, rfl, hb⟩
  exact postW_of (X := true) rfl (by show (WTm.eq .res (.lit (.bool true))).value _ _ = _; exact w_eq_bool (k := true) (l := true) (w_res rfl) w_lit) rfl
